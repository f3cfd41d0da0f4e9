import PyProof.Rows.All
import Wide.All
import OpenK.AllK
import Wide.FinOn
import PySem.Challenge.RW_ik0143_01
open PySem PySem.W PyProof.Rows
set_option Elab.async false
set_option rowWalk.seconds 0
namespace Mine
structure Hold (T : Prop) : Prop where
  get : T
theorem Hold.split {T H : Prop} (_ : Hold T) (p : H ∧ T) : H := p.1
namespace hd
theorem tw18245042118932799458 : True := True.intro
theorem tw12901994302517312135 : True := True.intro
theorem tw3763122126050802206 : True := True.intro
theorem tw212345690472687942 : True := True.intro
theorem tw13280443560766958183 : True := True.intro
theorem tw16213748851167669294 : True := True.intro
theorem tw137786328141462057 : True := True.intro
theorem tw1589133516308662214 : True := True.intro
theorem tw13534587687697041467 : True := True.intro
theorem tw14013601959672981003 : True := True.intro
theorem tw3196399650302076718 : True := True.intro
theorem tw7526368328331116154 : True := True.intro
theorem tw7891253978561527248 : True := True.intro
theorem tw940617070666608080 : True := True.intro
theorem tw14246236162039180721 : True := True.intro
theorem tw16091413853298234908 : True := True.intro
theorem tw3608708970678896270 : True := True.intro
theorem tw7898215921889874393 : True := True.intro
theorem tw6014424301940151174 : True := True.intro
theorem tw3381375190539634487 : True := True.intro
theorem tw2263123870574935043 : True := True.intro
theorem tw9330823016148744750 : True := True.intro
theorem tw4768578896829404305 : True := True.intro
theorem tw8472141830624432390 : True := True.intro
theorem tw11034497122203965937 : True := True.intro
theorem tw4182648748547736412 : True := True.intro
theorem tw18300207936620678264 : True := True.intro
theorem tw15508949281206285077 : True := True.intro
theorem tw15963624873386084050 : True := True.intro
theorem tw3533295568840377906 : True := True.intro
theorem tw13483081372092288885 : True := True.intro
theorem tw4826046112637339144 : True := True.intro
theorem tw10947331860392259696 : True := True.intro
theorem tw9513423893830186035 : True := True.intro
theorem tw5247051413645994129 : True := True.intro
theorem tw14859038896228082724 : True := True.intro
theorem tw9908193460736022307 : True := True.intro
theorem tw17076082267592564974 : True := True.intro
theorem tw7494724483528729301 : True := True.intro
theorem tw13129650132239662433 : True := True.intro
theorem tw2274498078352570744 : True := True.intro
theorem tw6636792957720756321 : True := True.intro
theorem tw17038178572684014812 : True := True.intro
theorem tw18176940659606848779 : True := True.intro
theorem tw15616948245753086127 : True := True.intro
theorem tw14400467628812073631 : True := True.intro
theorem tw18358800413957953924 : True := True.intro
theorem tw7028611270464810887 : True := True.intro
theorem tw6755925336976613232 : True := True.intro
theorem tw6136932545381038964 : True := True.intro
theorem tw12617484926136758311 : True := True.intro
theorem tw13840357560478945406 : True := True.intro
theorem tw17737187407176874954 : True := True.intro
theorem tw9557236495431379559 : True := True.intro
theorem tw13038990169509382042 : True := True.intro
theorem tw5010264101278932077 : True := True.intro
theorem tw1197925565968671727 : True := True.intro
theorem tw2450686747263038406 : True := True.intro
theorem tw16415028865518655546 : True := True.intro
theorem tw15759970867653108152 : True := True.intro
theorem tw7182994202766372144 : True := True.intro
theorem tw13011413612017729677 : True := True.intro
theorem tw6965799899956892507 : True := True.intro
theorem tw7175568609137494628 : True := True.intro
theorem tw3132252637357597028 : True := True.intro
theorem tw16823583209533085739 : True := True.intro
theorem tw8047900516022102942 : True := True.intro
theorem tw16919406825032445293 : True := True.intro
theorem tw14078009766183191694 : True := True.intro
theorem tw14984183105004643987 : True := True.intro
theorem tw511748877826530558 : True := True.intro
theorem tw17317347222371691485 : True := True.intro
theorem tw1893913032611223051 : True := True.intro
theorem tw9087110039335098043 : True := True.intro
theorem tw8134915037123179040 : True := True.intro
theorem tw10643592516055977328 : True := True.intro
theorem tw8356816923877370021 : True := True.intro
theorem tw12480425521718506038 : True := True.intro
theorem tw8601863261814581103 : True := True.intro
theorem tw1241404454085649124 : True := True.intro
theorem tw9155422001095189878 : True := True.intro
theorem tw1882180444382439491 : True := True.intro
theorem tw12521463284412890351 : True := True.intro
theorem tw7525542149764818722 : True := True.intro
theorem tw18330183385023645277 : True := True.intro
theorem tw9045270278378291675 : True := True.intro
theorem tw10841399608879689956 : True := True.intro
theorem tw11054480109507316185 : True := True.intro
theorem tw4367231431732253908 : True := True.intro
theorem tw8960069828448710407 : True := True.intro
theorem tw18268791191939849864 : True := True.intro
theorem tw1712922718373300912 : True := True.intro
theorem tw7100430431845274806 : True := True.intro
theorem tw9398405308114057262 : True := True.intro
theorem tw7854228177987924090 : True := True.intro
theorem tw3694398316872202419 : True := True.intro
theorem tw14440960662653809013 : True := True.intro
theorem tw1820180628909398317 : True := True.intro
theorem tw8210421348078903774 : True := True.intro
theorem tw13474097485772985973 : True := True.intro
theorem tw8707924461758782611 : True := True.intro
theorem tw11249132867342737325 : True := True.intro
theorem tw16722109127936396110 : True := True.intro
theorem tw845060206244984605 : True := True.intro
theorem tw14444963742821833902 : True := True.intro
theorem tw3649758429140192277 : True := True.intro
theorem tw2101469004524951375 : True := True.intro
theorem tw10376703724636587151 : True := True.intro
theorem tw8802903590519067506 : True := True.intro
theorem tw15042006015671813226 : True := True.intro
theorem tw5513025101015932971 : True := True.intro
theorem tw6769732088879122475 : True := True.intro
theorem tw13001811119718631651 : True := True.intro
theorem tw7578210074245671484 : True := True.intro
theorem tw2930668341846507884 : True := True.intro
theorem tw7354087734392854552 : True := True.intro
theorem tw1043307727769730188 : True := True.intro
theorem tw13066319289922817542 : True := True.intro
theorem tw15411387601460861337 : True := True.intro
theorem tw15084132493965779093 : True := True.intro
theorem tw16772102934027710169 : True := True.intro
theorem tw8881176148764397765 : True := True.intro
theorem tw10727248033764811480 : True := True.intro
theorem tw17101829828953933863 : True := True.intro
theorem tw7339039647409124788 : True := True.intro
theorem tw6374767894290048045 : True := True.intro
theorem tw10258225898301398825 : True := True.intro
theorem tw4159134105002834734 : True := True.intro
theorem tw17318795884933167856 : True := True.intro
theorem tw4111692666942324129 : True := True.intro
theorem tw16414904818172857274 : True := True.intro
theorem tw13747817723492736564 : True := True.intro
theorem tw6352655612330318208 : True := True.intro
theorem tw12614811148066621264 : True := True.intro
theorem tw3219085151875037572 : True := True.intro
theorem tw15361844209890540735 : True := True.intro
theorem tw2259500985695526413 : True := True.intro
theorem tw11389486352061984695 : True := True.intro
theorem tw10403243965636340961 : True := True.intro
theorem tw17975533764899295144 : True := True.intro
theorem tw1299046323782801668 : True := True.intro
theorem tw6438293893037913957 : True := True.intro
theorem tw12331051067403766639 : True := True.intro
theorem tw11754176132448286083 : True := True.intro
theorem tw7598622570094877466 : True := True.intro
theorem tw7746578258024575070 : True := True.intro
theorem tw12602439190401603521 : True := True.intro
theorem tw16896567674234606475 : True := True.intro
theorem tw2167537188350426706 : True := True.intro
theorem tw8081886968326746073 : True := True.intro
theorem tw16698745307106531279 : True := True.intro
theorem tw17992175057805443440 : True := True.intro
theorem tw7296583596125217682 : True := True.intro
theorem tw162610821266807592 : True := True.intro
theorem tw242841246431481386 : True := True.intro
theorem tw4355604671862981090 : True := True.intro
theorem tw11283319371284918911 : True := True.intro
theorem tw17138536718419254640 : True := True.intro
theorem tw10614716105012338702 : True := True.intro
theorem tw13116648468122694418 : True := True.intro
theorem tw4068527845204499245 : True := True.intro
theorem tw7369741819223213686 : True := True.intro
theorem tw2708950531961675432 : True := True.intro
theorem tw2568668741214167400 : True := True.intro
theorem tw18103420901670897651 : True := True.intro
theorem tw15179676742415161110 : True := True.intro
theorem tw185848376630758926 : True := True.intro
theorem tw8179070454071193570 : True := True.intro
theorem tw3443669649825651883 : True := True.intro
theorem tw8664936974563722654 : True := True.intro
theorem tw17420951861521290806 : True := True.intro
theorem tw1247026723315081023 : True := True.intro
theorem tw16456969618363192440 : True := True.intro
theorem tw1409312971732116557 : True := True.intro
theorem tw10491609206876299696 : True := True.intro
theorem tw2442259710966052079 : True := True.intro
theorem tw11801993109049149486 : True := True.intro
theorem tw9459050058782445324 : True := True.intro
theorem tw1848646778235469078 : True := True.intro
theorem tw2371736936440567457 : True := True.intro
theorem tw16155205043701107222 : True := True.intro
theorem tw14768889098011018680 : True := True.intro
theorem tw15967140613478806237 : True := True.intro
theorem tw5987830557187376847 : True := True.intro
theorem tw1535757262459896012 : True := True.intro
theorem tw14991384322417631237 : True := True.intro
theorem tw14176624398918483544 : True := True.intro
theorem tw17903497710992402801 : True := True.intro
theorem tw15064902949301533346 : True := True.intro
theorem tw6882427118574961969 : True := True.intro
theorem tw10752148897807903841 : True := True.intro
theorem tw3452082135128663414 : True := True.intro
theorem tw9330943631129107780 : True := True.intro
theorem tw10778013660560245624 : True := True.intro
theorem tw10788059911547816233 : True := True.intro
theorem tw2739504486584576224 : True := True.intro
theorem tw1557243174674812401 : True := True.intro
theorem tw4725425184044842548 : True := True.intro
theorem tw651126834518081296 : True := True.intro
theorem tw1744074299117110578 : True := True.intro
theorem tw16502264421070913907 : True := True.intro
theorem tw1331086792558400476 : True := True.intro
theorem tw3704167492566942397 : True := True.intro
theorem tw14553816603554493358 : True := True.intro
theorem tw9345929723534960622 : True := True.intro
theorem tw2999033326186475339 : True := True.intro
theorem tw13181700845877081190 : True := True.intro
theorem tw9406673726873002282 : True := True.intro
theorem tw12447509897640257713 : True := True.intro
theorem tw10955317050725887447 : True := True.intro
theorem tw5899666649113621702 : True := True.intro
theorem tw4571360026077952820 : True := True.intro
theorem tw1865391376527767206 : True := True.intro
theorem tw5535567543195554156 : True := True.intro
theorem tw15074197538484233485 : True := True.intro
theorem tw6663896369628448293 : True := True.intro
theorem tw6199765714743212253 : True := True.intro
theorem tw15367242080415987702 : True := True.intro
theorem tw16345102440705955213 : True := True.intro
theorem tw5167245352685981253 : True := True.intro
theorem tw8912348807662434688 : True := True.intro
theorem tw262745018181394680 : True := True.intro
theorem tw16742648372681657963 : True := True.intro
theorem tw5174551420813472067 : True := True.intro
theorem tw17278324374586462682 : True := True.intro
theorem tw10170382586518783626 : True := True.intro
theorem tw11415386828835887437 : True := True.intro
theorem tw15422856539912107476 : True := True.intro
theorem tw4432475053497693458 : True := True.intro
theorem tw100483095206116625 : True := True.intro
theorem tw12685813987229840507 : True := True.intro
theorem tw6407587892757256292 : True := True.intro
theorem tw16376525773666504680 : True := True.intro
theorem tw18131696352309475102 : True := True.intro
theorem tw347974374584699710 : True := True.intro
theorem tw12575139184659369484 : True := True.intro
theorem tw12232750017996463310 : True := True.intro
theorem tw12453114486196615683 : True := True.intro
theorem tw7712595579559962911 : True := True.intro
theorem tw3878383114103592795 : True := True.intro
theorem tw13566260322249332789 : True := True.intro
theorem tw4878824753759274627 : True := True.intro
theorem tw1666387254794493845 : True := True.intro
theorem tw5189956158058943387 : True := True.intro
theorem tw4282359134580295075 : True := True.intro
theorem tw5433107678231618845 : True := True.intro
theorem tw2394040479862359591 : True := True.intro
theorem tw10792051664901133789 : True := True.intro
theorem tw9627899436633539337 : True := True.intro
theorem tw9271970288684553227 : True := True.intro
theorem tw6411954120941647267 : True := True.intro
theorem tw16828599391488406296 : True := True.intro
theorem tw11126320352707459272 : True := True.intro
theorem tw7240586211207864342 : True := True.intro
theorem tw4702841417184801058 : True := True.intro
theorem tw4115565904173853331 : True := True.intro
theorem tw920214292312260371 : True := True.intro
theorem tw4367455430839740993 : True := True.intro
theorem tw4993660671451451078 : True := True.intro
theorem tw5148922909946612681 : True := True.intro
theorem tw7712819752767893495 : True := True.intro
theorem tw3008623586974134963 : True := True.intro
theorem tw11631947586910100387 : True := True.intro
theorem tw13463106324228987060 : True := True.intro
theorem tw954383436051774369 : True := True.intro
theorem tw1413172679324656950 : True := True.intro
theorem tw5190246844813560578 : True := True.intro
theorem tw22551697357593593 : True := True.intro
theorem tw8184699220007379433 : True := True.intro
theorem tw6924109203229866365 : True := True.intro
theorem tw5416991563250132298 : True := True.intro
theorem tw8990031805342692484 : True := True.intro
theorem tw4027997239606545176 : True := True.intro
theorem tw18293732401869909652 : True := True.intro
theorem tw13160604113216922460 : True := True.intro
theorem tw16558851475291246605 : True := True.intro
theorem tw3364418463632694928 : True := True.intro
theorem tw2502866573005156581 : True := True.intro
theorem tw17217394356764393341 : True := True.intro
theorem tw10286656452748174568 : True := True.intro
theorem tw8226494294326810461 : True := True.intro
theorem tw13753220567063992666 : True := True.intro
theorem tw18233516762306594366 : True := True.intro
theorem tw13225837485096350037 : True := True.intro
theorem tw17347436560843906493 : True := True.intro
theorem tw9427301549700849589 : True := True.intro
theorem tw7702882491108231240 : True := True.intro
theorem tw11407884054146074569 : True := True.intro
theorem tw3915529967508079626 : True := True.intro
theorem tw10216474801634566288 : True := True.intro
theorem tw2448992281723591503 : True := True.intro
theorem tw6818987989461384207 : True := True.intro
theorem tw12328650397782430666 : True := True.intro
theorem tw7152984921513172624 : True := True.intro
theorem tw8538877666451538035 : True := True.intro
theorem tw4759087383499665155 : True := True.intro
theorem tw8377043916266704855 : True := True.intro
theorem tw9563087162953311043 : True := True.intro
theorem tw870721082818037629 : True := True.intro
theorem tw4186180820073840449 : True := True.intro
theorem tw17258206423299326598 : True := True.intro
theorem tw4126306136578151734 : True := True.intro
theorem tw15987713032478767096 : True := True.intro
theorem tw9215827820722605749 : True := True.intro
theorem tw10595968288072337780 : True := True.intro
theorem tw11631869004601391166 : True := True.intro
theorem tw18368451091360184599 : True := True.intro
theorem tw524290184858094138 : True := True.intro
theorem tw11845739042510646663 : True := True.intro
theorem tw13458954166980676860 : True := True.intro
theorem tw16868993833207775613 : True := True.intro
theorem tw2040990291671593033 : True := True.intro
theorem tw190519026028168232 : True := True.intro
theorem tw16357263729072622229 : True := True.intro
theorem tw8493152586797012548 : True := True.intro
theorem tw17948085552500728524 : True := True.intro
theorem tw6646985988748340704 : True := True.intro
theorem tw2422473601153944625 : True := True.intro
theorem tw15089522573102190283 : True := True.intro
theorem tw17491317419825422843 : True := True.intro
theorem tw17143205804819765802 : True := True.intro
theorem tw11917015161858427179 : True := True.intro
theorem tw15578025631644234493 : True := True.intro
theorem tw13642289790063256904 : True := True.intro
theorem tw14151535006965253332 : True := True.intro
theorem tw7850187754069100156 : True := True.intro
theorem tw6669269137521125552 : True := True.intro
theorem tw6079173187612997037 : True := True.intro
theorem tw13122850982685727845 : True := True.intro
theorem tw14103535550066685397 : True := True.intro
theorem tw5318216170032084099 : True := True.intro
theorem tw12565835363266740329 : True := True.intro
theorem tw2042292140826266357 : True := True.intro
theorem tw5850991567925798318 : True := True.intro
theorem tw14205177575709318024 : True := True.intro
theorem tw11841407262063887625 : True := True.intro
theorem tw15683763237869141255 : True := True.intro
theorem tw712733125156272447 : True := True.intro
theorem tw13825103770533428167 : True := True.intro
theorem tw18095200977026478895 : True := True.intro
theorem tw1191670712832166235 : True := True.intro
theorem tw6264232113106981867 : True := True.intro
theorem tw16037735763661986305 : True := True.intro
theorem tw9341642984632610673 : True := True.intro
theorem tw189712035060473897 : True := True.intro
theorem tw12952509933414984302 : True := True.intro
theorem tw5534113831511101195 : True := True.intro
theorem tw3530705653197291679 : True := True.intro
theorem tw6931407450589930559 : True := True.intro
theorem tw5715356086224469760 : True := True.intro
theorem tw17577478241444706838 : True := True.intro
theorem tw12268275109542032366 : True := True.intro
theorem tw14598272352848978880 : True := True.intro
theorem tw16171809288044610508 : True := True.intro
theorem tw4581847759332874082 : True := True.intro
theorem tw8044012406986999415 : True := True.intro
theorem tw728884934406724761 : True := True.intro
theorem tw17795420018806894357 : True := True.intro
theorem tw7927469264209771579 : True := True.intro
theorem tw15103106377680225435 : True := True.intro
theorem tw8934143017859847078 : True := True.intro
theorem tw1699103778626983548 : True := True.intro
theorem tw10458740792067480800 : True := True.intro
theorem tw11923718838393308171 : True := True.intro
theorem tw8683856772340465682 : True := True.intro
theorem tw8949766450267778796 : True := True.intro
theorem tw8652628183442184457 : True := True.intro
theorem tw13828106393651249627 : True := True.intro
theorem tw5366084841770067474 : True := True.intro
theorem tw15279998641719260112 : True := True.intro
theorem tw2304311442786299043 : True := True.intro
theorem tw12704988097186499811 : True := True.intro
theorem tw11595982170579460384 : True := True.intro
theorem tw8428860471423672150 : True := True.intro
theorem tw1847840615245081061 : True := True.intro
theorem tw7941745277869089046 : True := True.intro
theorem tw17273587926920868623 : True := True.intro
theorem tw2001351230973187099 : True := True.intro
theorem tw14683707025165767436 : True := True.intro
theorem tw1643121930917553208 : True := True.intro
theorem tw3660579746685279459 : True := True.intro
theorem tw6804821044290156842 : True := True.intro
theorem tw4990156530697904881 : True := True.intro
theorem tw15634565183472343292 : True := True.intro
theorem tw11069045038748578950 : True := True.intro
theorem tw5036846961687405229 : True := True.intro
theorem tw17312975722139092705 : True := True.intro
theorem tw14667805832236412624 : True := True.intro
theorem tw18439511094173506614 : True := True.intro
theorem tw17062030032774818151 : True := True.intro
theorem tw14462709497994964445 : True := True.intro
theorem tw4299596416071116603 : True := True.intro
theorem tw9048539425550374019 : True := True.intro
theorem tw5873113503399164460 : True := True.intro
theorem tw17252143746492648416 : True := True.intro
theorem tw11472165163037031739 : True := True.intro
theorem tw16211521421427940678 : True := True.intro
theorem tw14969688514271112891 : True := True.intro
theorem tw15083628210047938546 : True := True.intro
theorem tw15527848837575444561 : True := True.intro
theorem tw2799067240506288376 : True := True.intro
theorem tw4946210868454251104 : True := True.intro
theorem tw10781468475247234061 : True := True.intro
theorem tw7006195865600381663 : True := True.intro
theorem tw5608270528595127837 : True := True.intro
theorem tw17066044127408595049 : True := True.intro
theorem tw15910714762333108613 : True := True.intro
theorem tw1600037746751723098 : True := True.intro
theorem tw16649331688326792143 : True := True.intro
theorem tw16259696140248634718 : True := True.intro
theorem tw11912922877643110818 : True := True.intro
theorem tw956962677268122417 : True := True.intro
theorem tw16540589490461094875 : True := True.intro
theorem tw2616952524820836436 : True := True.intro
theorem tw11778180911958503814 : True := True.intro
theorem tw12611767792052310623 : True := True.intro
theorem tw13574768056931433239 : True := True.intro
theorem tw15277330632498426303 : True := True.intro
theorem tw13994979335412520660 : True := True.intro
theorem tw15992342658441690333 : True := True.intro
theorem tw8112040973832200146 : True := True.intro
theorem tw7512474625130614241 : True := True.intro
theorem tw10784824025267889561 : True := True.intro
theorem tw10012880186880212623 : True := True.intro
theorem tw8197050154876552520 : True := True.intro
theorem tw4086058157674990017 : True := True.intro
theorem tw15677629932584476913 : True := True.intro
theorem tw13770079208771991547 : True := True.intro
theorem tw15924899543223041283 : True := True.intro
theorem tw4523669819894539328 : True := True.intro
theorem tw2114630138375439770 : True := True.intro
theorem tw16443024508289211202 : True := True.intro
theorem tw519851828213033955 : True := True.intro
theorem tw8671608845466749128 : True := True.intro
theorem tw11180023125335031430 : True := True.intro
theorem tw758273949599710562 : True := True.intro
theorem tw33583606019346890 : True := True.intro
theorem tw4780371949962762201 : True := True.intro
theorem tw15378359858306647822 : True := True.intro
theorem tw6898005170327248138 : True := True.intro
theorem tw2603259988358896889 : True := True.intro
theorem tw1511243299971373483 : True := True.intro
theorem tw8690549050251857956 : True := True.intro
theorem tw1097998534492414930 : True := True.intro
theorem tw1118553966540926140 : True := True.intro
theorem tw10787125048147943196 : True := True.intro
theorem tw15856727013471470956 : True := True.intro
theorem tw2315468765258864358 : True := True.intro
theorem tw9012836324853574702 : True := True.intro
theorem tw7080932558258925280 : True := True.intro
theorem tw5629675986466331604 : True := True.intro
theorem tw15837987909243819085 : True := True.intro
theorem tw3922637787740509324 : True := True.intro
theorem tw9763420282994701918 : True := True.intro
theorem tw10738003575532504788 : True := True.intro
theorem tw16694946328126371552 : True := True.intro
theorem tw3493717111155160527 : True := True.intro
theorem tw2845679848157327705 : True := True.intro
theorem tw7031273417212677730 : True := True.intro
theorem tw18343703819029505601 : True := True.intro
theorem tw8654268224221117138 : True := True.intro
theorem tw3088336149111003398 : True := True.intro
theorem tw10905682514733158466 : True := True.intro
theorem tw17386561741084979693 : True := True.intro
theorem tw12394076208661396346 : True := True.intro
theorem tw1811199898794616982 : True := True.intro
theorem tw14651995955325526982 : True := True.intro
theorem tw16441392401534740728 : True := True.intro
theorem tw10905181550472923540 : True := True.intro
theorem tw8191903926673212241 : True := True.intro
theorem tw9983964734214183352 : True := True.intro
theorem tw16794629799341752650 : True := True.intro
theorem tw6320253292602491972 : True := True.intro
theorem tw16605896050852369192 : True := True.intro
theorem tw9421340871869096474 : True := True.intro
theorem tw13365295217650922812 : True := True.intro
theorem tw14711139521213225765 : True := True.intro
theorem tw1936894748134917147 : True := True.intro
theorem tw8589211134812392127 : True := True.intro
theorem tw5304789229797768628 : True := True.intro
theorem tw8770205317985620760 : True := True.intro
theorem tw14294001040229213422 : True := True.intro
theorem tw12868520594928266513 : True := True.intro
theorem tw6353847161142903872 : True := True.intro
theorem tw12023040214023829324 : True := True.intro
theorem tw14029546391885035639 : True := True.intro
theorem tw6305734824756694309 : True := True.intro
theorem tw13919464512627920130 : True := True.intro
theorem tw15697423400787487869 : True := True.intro
theorem tw16473244170626142550 : True := True.intro
theorem tw1632911306035174240 : True := True.intro
theorem tw102014493982917126 : True := True.intro
theorem tw3069179008743571320 : True := True.intro
theorem tw16133100035791441351 : True := True.intro
theorem tw6082411064634330575 : True := True.intro
theorem tw4527685146903026889 : True := True.intro
theorem tw10834780440838970164 : True := True.intro
theorem tw5245234834050458271 : True := True.intro
theorem tw5378308252288859171 : True := True.intro
theorem tw250903467453971090 : True := True.intro
theorem tw18321552122766947510 : True := True.intro
theorem tw8324504678176258764 : True := True.intro
theorem tw16138627921320673191 : True := True.intro
theorem tw10904933031377857372 : True := True.intro
theorem tw1603739661141634737 : True := True.intro
theorem tw13903934854276604550 : True := True.intro
theorem tw10819331528351526247 : True := True.intro
theorem tw17628472586750557451 : True := True.intro
theorem tw14040608126747316905 : True := True.intro
theorem tw11136197038861592535 : True := True.intro
theorem tw15553352443920728112 : True := True.intro
theorem tw4851647983119433812 : True := True.intro
theorem tw18166333605607142505 : True := True.intro
theorem tw11623594800819314181 : True := True.intro
theorem tw1954109241102656831 : True := True.intro
theorem tw17780371330241143884 : True := True.intro
theorem tw17588044629489971554 : True := True.intro
theorem tw10273187271170590260 : True := True.intro
theorem tw3405361230339686725 : True := True.intro
theorem tw6123773746684550334 : True := True.intro
theorem tw13866372431405929976 : True := True.intro
theorem tw7289634563603522867 : True := True.intro
theorem tw7914949630228597729 : True := True.intro
theorem tw2562236817408797766 : True := True.intro
theorem tw7829580234814923638 : True := True.intro
theorem tw13220430256171166289 : True := True.intro
theorem tw17330945745186091897 : True := True.intro
theorem tw6372862494175223470 : True := True.intro
theorem tw7023726343779634624 : True := True.intro
theorem tw5130813555471234732 : True := True.intro
theorem tw155142512498542641 : True := True.intro
theorem tw13132618709999183898 : True := True.intro
theorem tw11237167707397388024 : True := True.intro
theorem tw13164601040044201813 : True := True.intro
theorem tw17919194246423945575 : True := True.intro
theorem tw2323474266016966308 : True := True.intro
theorem tw14457593812595234344 : True := True.intro
theorem tw17895171251205151618 : True := True.intro
theorem tw14579804019780415049 : True := True.intro
theorem tw16640546478005224243 : True := True.intro
theorem tw18194447625416937593 : True := True.intro
theorem tw4225703048834024713 : True := True.intro
theorem tw307737655149646647 : True := True.intro
theorem tw2658526732547218105 : True := True.intro
theorem tw11224897151958998736 : True := True.intro
theorem tw10947534242169238906 : True := True.intro
theorem tw663384727985864361 : True := True.intro
theorem tw13562760996464443880 : True := True.intro
theorem tw5282504435634884242 : True := True.intro
theorem tw17989097746536338734 : True := True.intro
theorem tw2799716289819351777 : True := True.intro
theorem tw17471934795394947791 : True := True.intro
theorem tw7366208706002141716 : True := True.intro
theorem tw2386827423013361158 : True := True.intro
theorem tw3890083515106143593 : True := True.intro
theorem tw14137390275340422267 : True := True.intro
theorem tw407309309204651749 : True := True.intro
theorem tw7698358502638924378 : True := True.intro
theorem tw3571134770919094901 : True := True.intro
theorem tw13262116225945230012 : True := True.intro
theorem tw5961118342813265553 : True := True.intro
theorem tw11117797201346649052 : True := True.intro
theorem tw6213412439835118660 : True := True.intro
theorem tw9077708301081682751 : True := True.intro
theorem tw14685462170515437407 : True := True.intro
theorem tw5716766192118558609 : True := True.intro
theorem tw6780557218761844654 : True := True.intro
theorem tw1335065189686863947 : True := True.intro
theorem tw12899037345604142648 : True := True.intro
theorem tw11638043884434779313 : True := True.intro
theorem tw13285133528070534704 : True := True.intro
theorem tw16178712458983371728 : True := True.intro
theorem tw16870090452748662828 : True := True.intro
theorem tw14560493823538711346 : True := True.intro
theorem tw13217827037086042188 : True := True.intro
theorem tw13478424178397462001 : True := True.intro
theorem tw2509285483865878365 : True := True.intro
theorem tw2808349399557158395 : True := True.intro
theorem tw11636924220087485885 : True := True.intro
theorem tw16826083622388986153 : True := True.intro
theorem tw12936449754285732098 : True := True.intro
theorem tw12131494931117144662 : True := True.intro
theorem tw17311223219408574766 : True := True.intro
theorem tw11729958736954745289 : True := True.intro
theorem tw10604169790165778682 : True := True.intro
theorem tw5464280966869935822 : True := True.intro
theorem tw2063697594609225973 : True := True.intro
theorem tw7867956165831070988 : True := True.intro
theorem tw15043168886218598503 : True := True.intro
theorem tw7489763959799892387 : True := True.intro
theorem tw4074112789689628901 : True := True.intro
theorem tw1359830224848277088 : True := True.intro
theorem tw5054737718236178183 : True := True.intro
theorem tw17377529257436501650 : True := True.intro
theorem tw17088047866570459193 : True := True.intro
theorem tw12727495553239364174 : True := True.intro
theorem tw9390866547671247325 : True := True.intro
theorem tw6278647508926252785 : True := True.intro
theorem tw6412770499399676944 : True := True.intro
theorem tw17454471701868102899 : True := True.intro
theorem tw732345407407602841 : True := True.intro
theorem tw5289708365253275695 : True := True.intro
theorem tw17491280204586788870 : True := True.intro
theorem tw2960447077969926378 : True := True.intro
theorem tw15463257786427224491 : True := True.intro
theorem tw16858285156579221889 : True := True.intro
theorem tw16954422605203089040 : True := True.intro
theorem tw10934634478434655930 : True := True.intro
theorem tw8107077618778563192 : True := True.intro
theorem tw6547078798241139092 : True := True.intro
theorem tw12070654863422294720 : True := True.intro
theorem tw5388632664720090651 : True := True.intro
theorem tw8801323125487838256 : True := True.intro
theorem tw13532847315355080253 : True := True.intro
theorem tw128412058910260475 : True := True.intro
theorem tw2839761810297210574 : True := True.intro
theorem tw3333446698644548216 : True := True.intro
theorem tw9927179837433541088 : True := True.intro
theorem tw13855946660403688772 : True := True.intro
theorem tw16635604280276938560 : True := True.intro
theorem tw4292457097857839397 : True := True.intro
theorem tw7379015992945566340 : True := True.intro
theorem tw11629707937479629763 : True := True.intro
theorem tw5363564295841288755 : True := True.intro
theorem tw7815354588672045779 : True := True.intro
theorem tw12578441467969060316 : True := True.intro
theorem tw4478166936697009375 : True := True.intro
theorem tw17542962492245011380 : True := True.intro
theorem tw9702936160620672325 : True := True.intro
theorem tw7640094616464845771 : True := True.intro
theorem tw8273930003744585626 : True := True.intro
theorem tw9467313397243273497 : True := True.intro
theorem tw9627790493946171768 : True := True.intro
theorem tw13431754692932380062 : True := True.intro
theorem tw15033227074091944939 : True := True.intro
theorem tw11713075325732132258 : True := True.intro
theorem tw13289513938125300765 : True := True.intro
theorem tw2042874687063273074 : True := True.intro
theorem tw18087722134493236510 : True := True.intro
theorem tw6957150274394394060 : True := True.intro
theorem tw1689377841213677179 : True := True.intro
theorem tw3496965988886986938 : True := True.intro
theorem tw9864973744126774698 : True := True.intro
theorem tw6889617224148353981 : True := True.intro
theorem tw17673860158736603733 : True := True.intro
theorem tw8311865607074365958 : True := True.intro
theorem tw4272726840584523970 : True := True.intro
theorem tw5549315172176941698 : True := True.intro
theorem tw6442067068224118133 : True := True.intro
theorem tw12414669353804360901 : True := True.intro
theorem tw17330132731328240911 : True := True.intro
theorem tw3920623390966001496 : True := True.intro
theorem tw17711083657039698284 : True := True.intro
theorem tw5505005885091257285 : True := True.intro
theorem tw4120669080709170650 : True := True.intro
theorem tw10933677585905718993 : True := True.intro
theorem tw718029691902183412 : True := True.intro
theorem tw16007149819294483003 : True := True.intro
theorem tw3941438180925939637 : True := True.intro
theorem tw8931695957890008076 : True := True.intro
theorem tw6196171512934965099 : True := True.intro
theorem tw9449672872311958731 : True := True.intro
theorem tw2448417245163862455 : True := True.intro
theorem tw14586822029978311858 : True := True.intro
theorem tw3646829019195819677 : True := True.intro
theorem tw12459740579856956213 : True := True.intro
theorem tw3386092968808520798 : True := True.intro
theorem tw10531373872144210542 : True := True.intro
theorem tw12113243949977362033 : True := True.intro
theorem tw10210669037155785340 : True := True.intro
theorem tw12669576375859063689 : True := True.intro
theorem tw14006173549557618073 : True := True.intro
theorem tw6060742912462422084 : True := True.intro
theorem tw7365426131469257241 : True := True.intro
theorem tw16641143254114907239 : True := True.intro
theorem tw7292484366425897655 : True := True.intro
theorem tw13051953538815563581 : True := True.intro
theorem tw14705683404202351889 : True := True.intro
theorem tw13363553139645760527 : True := True.intro
theorem tw11465210709893060100 : True := True.intro
theorem tw17312999752573914782 : True := True.intro
theorem tw15946356160694317329 : True := True.intro
theorem tw3480954088277226078 : True := True.intro
theorem tw14060154772996877548 : True := True.intro
theorem tw9430268157657104642 : True := True.intro
theorem tw10678649693572172417 : True := True.intro
theorem tw6761669909254768831 : True := True.intro
theorem tw16477043939570097188 : True := True.intro
theorem tw10583446816852156582 : True := True.intro
theorem tw10264135568141901301 : True := True.intro
theorem tw1448358952932078338 : True := True.intro
theorem tw4402725079659364252 : True := True.intro
theorem tw3787991596828424046 : True := True.intro
theorem tw8977307856219701671 : True := True.intro
theorem tw11162318198679636149 : True := True.intro
theorem tw2580477087445282633 : True := True.intro
theorem tw14776966858535155947 : True := True.intro
theorem tw2783992281797965187 : True := True.intro
theorem tw22944897461248836 : True := True.intro
theorem tw5643178794243155062 : True := True.intro
theorem tw10944956837784636368 : True := True.intro
theorem tw6819123309680001836 : True := True.intro
theorem tw11402939732021071671 : True := True.intro
theorem tw7081294716157063915 : True := True.intro
theorem tw15001097145646765096 : True := True.intro
theorem tw8977460988437922124 : True := True.intro
theorem tw6308581086252854402 : True := True.intro
theorem tw6906073325868019850 : True := True.intro
theorem tw16639802674150441104 : True := True.intro
theorem tw12870888531099404533 : True := True.intro
theorem tw11893437276241958245 : True := True.intro
theorem tw701787995468756871 : True := True.intro
theorem tw7880807054014371918 : True := True.intro
theorem tw13255428261173160881 : True := True.intro
theorem tw5486487638281291605 : True := True.intro
theorem tw14046729217060342936 : True := True.intro
theorem tw7839823952615728111 : True := True.intro
theorem tw17992873397187703194 : True := True.intro
theorem tw10424393626065333798 : True := True.intro
theorem tw1379335367625716243 : True := True.intro
theorem tw442638132926106271 : True := True.intro
theorem tw732586155322051499 : True := True.intro
theorem tw2505046432360240130 : True := True.intro
theorem tw17672654358674132775 : True := True.intro
theorem tw3429492842335990350 : True := True.intro
theorem tw13293453174229064190 : True := True.intro
theorem tw11852641145169952659 : True := True.intro
theorem tw3478764184967624034 : True := True.intro
theorem tw16052320808349706082 : True := True.intro
theorem tw9430667961914135727 : True := True.intro
theorem tw16464424236575238572 : True := True.intro
theorem tw7573478926670427865 : True := True.intro
theorem tw3109861748172591687 : True := True.intro
theorem tw14914937398881237230 : True := True.intro
theorem tw16759147789766475008 : True := True.intro
theorem tw9783614193127449063 : True := True.intro
theorem tw6883898783123881946 : True := True.intro
theorem tw17087091549796120035 : True := True.intro
theorem tw3789350110615891812 : True := True.intro
theorem tw16257038226119295666 : True := True.intro
theorem tw6276725880618359904 : True := True.intro
theorem tw8381844023166312768 : True := True.intro
theorem tw4948343613671549106 : True := True.intro
theorem tw8228950375871286339 : True := True.intro
theorem tw5635641802508607975 : True := True.intro
theorem tw2729298822523640997 : True := True.intro
theorem tw12949589719889679912 : True := True.intro
theorem tw15152743547302097792 : True := True.intro
theorem tw12598724348716800887 : True := True.intro
theorem tw3795277891434052102 : True := True.intro
theorem tw5781342201191254626 : True := True.intro
theorem tw8898355551111435312 : True := True.intro
theorem tw561391293025646643 : True := True.intro
theorem tw14478148883734587675 : True := True.intro
theorem tw11915594877312485397 : True := True.intro
theorem tw16301592386811335294 : True := True.intro
theorem tw3887682987991473952 : True := True.intro
theorem tw15630680890609703042 : True := True.intro
theorem tw1736311965527578767 : True := True.intro
theorem tw16920754564084929960 : True := True.intro
theorem tw7610815399733428385 : True := True.intro
theorem tw15615420239508185596 : True := True.intro
theorem tw14438451200097066615 : True := True.intro
theorem tw17784710179527947834 : True := True.intro
theorem tw825126770350376351 : True := True.intro
theorem tw978945382295711627 : True := True.intro
theorem tw13347369733751428629 : True := True.intro
theorem tw8343274005884668182 : True := True.intro
theorem tw18205439006774131303 : True := True.intro
theorem tw11507959949525687343 : True := True.intro
theorem tw5902613922787404954 : True := True.intro
theorem tw16409295683739894939 : True := True.intro
theorem tw4975429006339234634 : True := True.intro
theorem tw12647368939536790636 : True := True.intro
theorem tw5238241317806426387 : True := True.intro
theorem tw17649441919526076750 : True := True.intro
theorem tw11652457597714270106 : True := True.intro
theorem tw1939978651307754801 : True := True.intro
theorem tw5362516397382645915 : True := True.intro
theorem tw7872162285098387286 : True := True.intro
theorem tw991583007596301734 : True := True.intro
theorem tw3312855554403267510 : True := True.intro
theorem tw17034541987677670899 : True := True.intro
theorem tw17994825080979385314 : True := True.intro
theorem tw11663481321943121269 : True := True.intro
theorem tw6990203504111849199 : True := True.intro
theorem tw6767318904944593275 : True := True.intro
theorem tw7752767780024739350 : True := True.intro
theorem tw1194904439430580092 : True := True.intro
theorem tw395138700845864316 : True := True.intro
theorem tw15618049606547972131 : True := True.intro
theorem tw15948780112781908787 : True := True.intro
theorem tw9657781627882305391 : True := True.intro
theorem tw17070941380808615275 : True := True.intro
theorem tw3513125359445811510 : True := True.intro
theorem tw701333769924781912 : True := True.intro
theorem tw4363365295628954845 : True := True.intro
theorem tw13855704874438440143 : True := True.intro
theorem tw14060237666301923597 : True := True.intro
theorem tw7628703163842673926 : True := True.intro
theorem tw3722166409189360004 : True := True.intro
theorem tw1781861727890032366 : True := True.intro
theorem tw3434918251397683217 : True := True.intro
theorem tw16795040122137113940 : True := True.intro
theorem tw18252017834820373320 : True := True.intro
theorem tw15381450162410889989 : True := True.intro
theorem tw8151903124980380684 : True := True.intro
theorem tw5292301768408028288 : True := True.intro
theorem tw432457690288141553 : True := True.intro
theorem tw6186238094035137676 : True := True.intro
theorem tw14955159897011116063 : True := True.intro
theorem tw8479784124755550697 : True := True.intro
theorem tw18235018827726667335 : True := True.intro
theorem tw12092154237167983948 : True := True.intro
theorem tw8457440626546761165 : True := True.intro
theorem tw3241458686731973266 : True := True.intro
theorem tw1439246655266547700 : True := True.intro
theorem tw518976864732996251 : True := True.intro
theorem tw15199589371867527261 : True := True.intro
theorem tw14673209030070457562 : True := True.intro
theorem tw10203026625882799534 : True := True.intro
theorem tw17925215291927510665 : True := True.intro
theorem tw9842699097658496709 : True := True.intro
theorem tw2000490053193787569 : True := True.intro
theorem tw6824622198901579176 : True := True.intro
theorem tw11256106856564762260 : True := True.intro
theorem tw313027258313007627 : True := True.intro
theorem tw1208734638264122097 : True := True.intro
theorem tw16156708551869547534 : True := True.intro
theorem tw6848782300941138395 : True := True.intro
theorem tw17183224562656869120 : True := True.intro
theorem tw12399718760709695909 : True := True.intro
theorem tw8811097733284410319 : True := True.intro
theorem tw14745743045033390146 : True := True.intro
theorem tw18219297243305740317 : True := True.intro
theorem tw6545403380812914513 : True := True.intro
theorem tw13092906067662860646 : True := True.intro
theorem tw8351282476255451920 : True := True.intro
theorem tw11109741339103130912 : True := True.intro
theorem tw11213053971927718326 : True := True.intro
theorem tw10259988299927297344 : True := True.intro
theorem tw5574845727924001799 : True := True.intro
theorem tw4383666589626881386 : True := True.intro
theorem tw9013056391748086436 : True := True.intro
theorem tw3504079246686126755 : True := True.intro
theorem tw1563692795949630186 : True := True.intro
theorem tw15096586989100173325 : True := True.intro
theorem tw6877226645827823821 : True := True.intro
theorem tw5360435025570183010 : True := True.intro
theorem tw8684328023851190084 : True := True.intro
theorem tw6469175993241445255 : True := True.intro
theorem tw15529170255622000948 : True := True.intro
theorem tw12591134339009171964 : True := True.intro
theorem tw6164396464334811476 : True := True.intro
theorem tw7519716089354478335 : True := True.intro
theorem tw6184460063843016694 : True := True.intro
theorem tw14623610509376584727 : True := True.intro
theorem tw3350930974749635488 : True := True.intro
theorem tw12676414471582705871 : True := True.intro
theorem tw11551083187376567056 : True := True.intro
theorem tw17047115858639842297 : True := True.intro
theorem tw13531707123254989501 : True := True.intro
theorem tw11434409384045074295 : True := True.intro
theorem tw7185752278333246451 : True := True.intro
theorem tw14721871892148092309 : True := True.intro
theorem tw15595854959937240912 : True := True.intro
theorem tw12579596248316191183 : True := True.intro
theorem tw1809687716253123402 : True := True.intro
theorem tw6181573660694698118 : True := True.intro
theorem tw3435673168844421263 : True := True.intro
theorem tw689954013368505116 : True := True.intro
theorem tw12487542160262675636 : True := True.intro
theorem tw3698263348304958635 : True := True.intro
theorem tw6578402527460240241 : True := True.intro
theorem tw6115762422951442106 : True := True.intro
theorem tw12994019391074448376 : True := True.intro
theorem tw17128134227218299529 : True := True.intro
theorem tw16412773359747925120 : True := True.intro
theorem tw3484992998616243462 : True := True.intro
theorem tw5135410709514514960 : True := True.intro
theorem tw2132729158989466136 : True := True.intro
theorem tw1287958475656056414 : True := True.intro
theorem tw5567388512258382067 : True := True.intro
theorem tw15852365999677673905 : True := True.intro
theorem tw12678320250165599508 : True := True.intro
theorem tw6868836192036940282 : True := True.intro
theorem tw9277588360372424766 : True := True.intro
theorem tw6449127861642672459 : True := True.intro
theorem tw5667655126489319660 : True := True.intro
theorem tw2284436838669742495 : True := True.intro
theorem tw2845207389951388047 : True := True.intro
theorem tw656455966557771466 : True := True.intro
theorem tw8716120427605611371 : True := True.intro
theorem tw5732804406350252772 : True := True.intro
theorem tw18160293313031310949 : True := True.intro
theorem tw12173100003817136821 : True := True.intro
theorem tw6998783941825042932 : True := True.intro
theorem tw9132557439983319658 : True := True.intro
theorem tw15790720579355451973 : True := True.intro
theorem tw10603584201595350602 : True := True.intro
theorem tw2457190517430149469 : True := True.intro
theorem tw7752569895197466512 : True := True.intro
theorem tw12832683148521936107 : True := True.intro
theorem tw2139204274930982770 : True := True.intro
theorem tw3644008723964970423 : True := True.intro
theorem tw12769127236821124696 : True := True.intro
theorem tw4269800648957611565 : True := True.intro
theorem tw5021546742003373373 : True := True.intro
theorem tw12642813592246648485 : True := True.intro
theorem tw12588582704262371052 : True := True.intro
theorem tw1362751533348561449 : True := True.intro
theorem tw10507497572311344420 : True := True.intro
theorem tw16053994301053490033 : True := True.intro
theorem tw6800881396052196260 : True := True.intro
theorem tw17001982702790524580 : True := True.intro
theorem tw9990345226319884068 : True := True.intro
theorem tw13931416462566266981 : True := True.intro
theorem tw7523672394736509286 : True := True.intro
theorem tw8770659054964912022 : True := True.intro
theorem tw16373647398549768009 : True := True.intro
theorem tw8450674356893351874 : True := True.intro
theorem tw4788038989552484473 : True := True.intro
theorem tw15889433306838628275 : True := True.intro
theorem tw15213948185873263833 : True := True.intro
theorem tw15661947827640153321 : True := True.intro
theorem tw11587034568685482758 : True := True.intro
theorem tw4642405928176397000 : True := True.intro
theorem tw4778742480866408670 : True := True.intro
theorem tw10465514089279642386 : True := True.intro
theorem tw14081959909532527916 : True := True.intro
theorem tw12393119488966705847 : True := True.intro
theorem tw3451239065008710300 : True := True.intro
theorem tw12337632362937886050 : True := True.intro
theorem tw16064382804478563927 : True := True.intro
theorem tw17772917993097084435 : True := True.intro
theorem tw16957190012819468567 : True := True.intro
theorem tw10098268173465320503 : True := True.intro
theorem tw12561155100871721849 : True := True.intro
theorem tw10737458330869947321 : True := True.intro
theorem tw7317836474542784337 : True := True.intro
theorem tw13518370688599389936 : True := True.intro
theorem tw14817486215969520457 : True := True.intro
theorem tw5927567313105069670 : True := True.intro
theorem tw2781682124601125471 : True := True.intro
theorem tw13064122474441708322 : True := True.intro
theorem tw10844753989422098599 : True := True.intro
theorem tw10845626234925267891 : True := True.intro
theorem tw17696971302532935780 : True := True.intro
theorem tw5978321128707920903 : True := True.intro
theorem tw5322579261384874668 : True := True.intro
theorem tw7382370116671421104 : True := True.intro
theorem tw11079593142295127227 : True := True.intro
theorem tw6295535725891239091 : True := True.intro
theorem tw18185175575083235020 : True := True.intro
theorem tw11378170653934975361 : True := True.intro
theorem tw13780077144873983122 : True := True.intro
theorem tw2598446214317162929 : True := True.intro
theorem tw6838551448383532254 : True := True.intro
theorem tw6418103052136555383 : True := True.intro
theorem tw2595994805191909183 : True := True.intro
theorem tw617508947420966582 : True := True.intro
theorem tw12494558936816996605 : True := True.intro
theorem tw10949625832625181284 : True := True.intro
theorem tw8945485805214734075 : True := True.intro
theorem tw17714235663813219645 : True := True.intro
theorem tw1184127607605381967 : True := True.intro
theorem tw18338084644071967246 : True := True.intro
theorem tw424627922949020093 : True := True.intro
theorem tw11672842613191775419 : True := True.intro
theorem tw3173010612589774626 : True := True.intro
theorem tw17177331786930743035 : True := True.intro
theorem tw17650839729002327288 : True := True.intro
theorem tw15427206886491885616 : True := True.intro
theorem tw15625209780758371316 : True := True.intro
theorem tw6038821095411175016 : True := True.intro
theorem tw13638418597567726942 : True := True.intro
theorem tw6184208073178115725 : True := True.intro
theorem tw17655025648336401564 : True := True.intro
theorem tw18293851220164018083 : True := True.intro
theorem tw16432713993328977331 : True := True.intro
theorem tw6830512106363814048 : True := True.intro
theorem tw13277076834127875243 : True := True.intro
theorem tw4958948430592982816 : True := True.intro
theorem tw17668637344460488510 : True := True.intro
theorem tw4172343393113369950 : True := True.intro
theorem tw5677198662683936330 : True := True.intro
theorem tw9499510787657705874 : True := True.intro
theorem tw876933089483189297 : True := True.intro
theorem tw13321331477185743149 : True := True.intro
theorem tw11011131195910976488 : True := True.intro
theorem tw11319097763535126812 : True := True.intro
theorem tw9228397985900620932 : True := True.intro
theorem tw10806950440038215891 : True := True.intro
theorem tw4065347644161347641 : True := True.intro
theorem tw8015326511298524721 : True := True.intro
theorem tw3309697970292668127 : True := True.intro
theorem tw3816877163431070358 : True := True.intro
theorem tw2489000522355961661 : True := True.intro
theorem tw11953376511379268794 : True := True.intro
theorem tw6879831473291441079 : True := True.intro
theorem tw4015398097383911347 : True := True.intro
theorem tw17950676927832955104 : True := True.intro
theorem tw16302227732802510677 : True := True.intro
theorem tw9555612238305686254 : True := True.intro
theorem tw14906377314874228009 : True := True.intro
theorem tw12058812876911547015 : True := True.intro
theorem tw6819212343860736726 : True := True.intro
theorem tw1580110805410547442 : True := True.intro
theorem tw9533747618267967006 : True := True.intro
theorem tw5009564483982726761 : True := True.intro
theorem tw9170477692918782315 : True := True.intro
theorem tw10763509664835889504 : True := True.intro
theorem tw13671756088133313087 : True := True.intro
theorem tw5482205457738058418 : True := True.intro
theorem tw2068664650715991707 : True := True.intro
theorem tw2011083257458950123 : True := True.intro
theorem tw10743916045514856203 : True := True.intro
theorem tw13409441903868389331 : True := True.intro
theorem tw12350410155528471161 : True := True.intro
theorem tw9577689765879766989 : True := True.intro
theorem tw7691918140598264929 : True := True.intro
theorem tw7120233287515763914 : True := True.intro
theorem tw17574625026820762457 : True := True.intro
theorem tw4478177076189095293 : True := True.intro
theorem tw11709330566771433103 : True := True.intro
theorem tw1331487369976884630 : True := True.intro
theorem tw14960593345356199642 : True := True.intro
theorem tw7191455744419660376 : True := True.intro
theorem tw6759412095888398321 : True := True.intro
theorem tw14567429538950270057 : True := True.intro
theorem tw3536873572635521401 : True := True.intro
theorem tw16587392273704687506 : True := True.intro
theorem tw9566141503761928105 : True := True.intro
theorem tw11052946933831473538 : True := True.intro
theorem tw503842035214351869 : True := True.intro
theorem tw17042034404087940706 : True := True.intro
theorem tw17562767543260142214 : True := True.intro
theorem tw2391449824757734642 : True := True.intro
theorem tw3911173418732280352 : True := True.intro
theorem tw17876089906941426215 : True := True.intro
theorem tw6423634429210846174 : True := True.intro
theorem tw1005483496087919985 : True := True.intro
theorem tw37099724090138251 : True := True.intro
theorem tw9726439670489285605 : True := True.intro
theorem tw15368132723985388332 : True := True.intro
theorem tw7174315439194531881 : True := True.intro
theorem tw6820862383352777685 : True := True.intro
theorem tw7793673504863384051 : True := True.intro
theorem tw1129884963351977449 : True := True.intro
theorem tw4377701919642642989 : True := True.intro
theorem tw500953250457666378 : True := True.intro
theorem tw4210835263042620578 : True := True.intro
theorem tw17849003137439291346 : True := True.intro
theorem tw15673258824015622330 : True := True.intro
theorem tw12722841401902220113 : True := True.intro
theorem tw16904818350239718627 : True := True.intro
theorem tw11251137523995926341 : True := True.intro
theorem tw4424954536736003961 : True := True.intro
theorem tw12350890355468259254 : True := True.intro
theorem tw344798931065935411 : True := True.intro
theorem tw9345676750909349944 : True := True.intro
theorem tw16157073509204512506 : True := True.intro
theorem tw17495340751864218003 : True := True.intro
theorem tw15675198926951892251 : True := True.intro
theorem tw13790719812936386609 : True := True.intro
theorem tw1013155817946168525 : True := True.intro
theorem tw3876449026389394717 : True := True.intro
theorem tw11364443708160879001 : True := True.intro
theorem tw12239354291974867115 : True := True.intro
theorem tw7261450039545342454 : True := True.intro
theorem tw1836080755315867724 : True := True.intro
theorem tw13171141561276507362 : True := True.intro
theorem tw11905163887095721015 : True := True.intro
theorem tw3940546777539579641 : True := True.intro
theorem tw13937860266046166849 : True := True.intro
theorem tw12254263087357419629 : True := True.intro
theorem tw8965841893048198262 : True := True.intro
theorem tw13047593935725612058 : True := True.intro
theorem tw16945582573551092051 : True := True.intro
theorem tw9184186324627900627 : True := True.intro
theorem tw3969467460574380271 : True := True.intro
theorem tw15591429051563716170 : True := True.intro
theorem tw8727321023445011275 : True := True.intro
theorem tw11399449904127653305 : True := True.intro
theorem tw13838828179394815155 : True := True.intro
theorem tw10195207025132199040 : True := True.intro
theorem tw11942693397608355085 : True := True.intro
theorem tw6759408015678561074 : True := True.intro
theorem tw17325209927041812611 : True := True.intro
theorem tw16547865195752855329 : True := True.intro
theorem tw17843490464661113860 : True := True.intro
theorem tw14143348200573808938 : True := True.intro
theorem tw5983496337302601536 : True := True.intro
theorem tw10914979622086014670 : True := True.intro
theorem tw12070051907170230399 : True := True.intro
theorem tw12861998865439983172 : True := True.intro
theorem tw9850052858527491113 : True := True.intro
theorem tw12940713784782232206 : True := True.intro
theorem tw11319892378374348655 : True := True.intro
theorem tw6506366617586733335 : True := True.intro
theorem tw19140548474820995 : True := True.intro
theorem tw15207398651663016943 : True := True.intro
theorem tw13628142620392400109 : True := True.intro
theorem tw8609351116199087170 : True := True.intro
theorem tw11814627755841444246 : True := True.intro
theorem tw7540655947842036084 : True := True.intro
theorem tw10111801491309104144 : True := True.intro
theorem tw18093812233618175256 : True := True.intro
theorem tw13025047050765560322 : True := True.intro
theorem tw4819202231147424091 : True := True.intro
theorem tw13475242022060392486 : True := True.intro
theorem tw5293500477943481205 : True := True.intro
theorem tw1870067075039425230 : True := True.intro
theorem tw11128854368766332075 : True := True.intro
theorem tw10026777125879992224 : True := True.intro
theorem tw17640862679970642326 : True := True.intro
theorem tw9420132969298855359 : True := True.intro
theorem tw2216850387143573719 : True := True.intro
theorem tw15637593595834871717 : True := True.intro
theorem tw11513968764499736323 : True := True.intro
theorem tw4833718069199227053 : True := True.intro
theorem tw12353913968525425643 : True := True.intro
theorem tw16011055738799735888 : True := True.intro
theorem tw7068711184596962023 : True := True.intro
theorem tw15424705756172794927 : True := True.intro
theorem tw8317466277049474617 : True := True.intro
theorem tw18322514126500204803 : True := True.intro
theorem tw10886004079229075364 : True := True.intro
theorem tw1222794163293265305 : True := True.intro
theorem tw1506431575118746342 : True := True.intro
theorem tw12629568148972539762 : True := True.intro
theorem tw1147470481896660410 : True := True.intro
theorem tw18015809273756184261 : True := True.intro
theorem tw9631708518359487223 : True := True.intro
theorem tw4136554803537287180 : True := True.intro
theorem tw7289601568589263668 : True := True.intro
theorem tw2329189449893159454 : True := True.intro
theorem tw3522803163333685576 : True := True.intro
theorem tw11660266114150955751 : True := True.intro
theorem tw10200926772931222457 : True := True.intro
theorem tw526207354791536317 : True := True.intro
theorem tw469108185253701220 : True := True.intro
theorem tw14106227501169856981 : True := True.intro
theorem tw8312999807965096350 : True := True.intro
theorem tw16227762859984022837 : True := True.intro
theorem tw574300837803046910 : True := True.intro
theorem tw9960721518486171458 : True := True.intro
theorem tw16828841361933241965 : True := True.intro
theorem tw9983995961361265002 : True := True.intro
theorem tw5118731587858937692 : True := True.intro
theorem tw1588505670450824345 : True := True.intro
theorem tw10558106933452604415 : True := True.intro
theorem tw6140570298594658328 : True := True.intro
theorem tw3913528116038191188 : True := True.intro
theorem tw2327210489368252092 : True := True.intro
theorem tw18421049791903953903 : True := True.intro
theorem tw1382963296337349011 : True := True.intro
theorem tw9731375825926819010 : True := True.intro
theorem tw11749099774412794130 : True := True.intro
theorem tw14454528878903484812 : True := True.intro
theorem tw661448573946734008 : True := True.intro
theorem tw9325612240067072397 : True := True.intro
theorem tw2336748640663733628 : True := True.intro
theorem tw7085514621470718492 : True := True.intro
theorem tw5755067337285977880 : True := True.intro
theorem tw10365702040365258594 : True := True.intro
theorem tw5480042469492414594 : True := True.intro
theorem tw4724112764586752083 : True := True.intro
theorem tw6902198413751149823 : True := True.intro
theorem tw12487502673411948298 : True := True.intro
theorem tw13468300074154594103 : True := True.intro
theorem tw6052482589124101219 : True := True.intro
theorem tw7372000682148998216 : True := True.intro
theorem tw15166520500009309586 : True := True.intro
theorem tw9673543361469618366 : True := True.intro
theorem tw13322179722446271537 : True := True.intro
theorem tw16634568088961857937 : True := True.intro
theorem tw5373601922739893978 : True := True.intro
theorem tw8269573656231971908 : True := True.intro
theorem tw9215163618515126356 : True := True.intro
theorem tw17739348878880393726 : True := True.intro
theorem tw4282304852377368616 : True := True.intro
theorem tw11119798521548139033 : True := True.intro
theorem tw1051681510052472703 : True := True.intro
theorem tw1584506945513601688 : True := True.intro
theorem tw833173182276230429 : True := True.intro
theorem tw13616292390063288746 : True := True.intro
theorem tw15102309248680683417 : True := True.intro
theorem tw12050417470231563642 : True := True.intro
theorem tw12590977762386282803 : True := True.intro
theorem tw8587552050624501146 : True := True.intro
theorem tw243823211424636713 : True := True.intro
theorem tw3452591251010201329 : True := True.intro
theorem tw9153386212771759811 : True := True.intro
theorem tw439843181053141970 : True := True.intro
theorem tw18203504233945503714 : True := True.intro
theorem tw4297731678662094536 : True := True.intro
theorem tw9476321141362543215 : True := True.intro
theorem tw4609310046291750870 : True := True.intro
theorem tw3673020696563887462 : True := True.intro
theorem tw8053944837975664402 : True := True.intro
theorem tw18163647496604598072 : True := True.intro
theorem tw14852329139284432860 : True := True.intro
theorem tw4449123307109862055 : True := True.intro
theorem tw4508807971249618078 : True := True.intro
theorem tw7534799579077118603 : True := True.intro
theorem tw368366308016060594 : True := True.intro
theorem tw8735263284916673568 : True := True.intro
theorem tw6482722132109649516 : True := True.intro
theorem tw17213754286329925777 : True := True.intro
theorem tw10292235466723388172 : True := True.intro
theorem tw10601615944963115059 : True := True.intro
theorem tw5464967688985200232 : True := True.intro
theorem tw11032806212648032379 : True := True.intro
theorem tw10778257442750969130 : True := True.intro
theorem tw5107316007074341285 : True := True.intro
theorem tw7676003278276379012 : True := True.intro
theorem tw8268277133935991078 : True := True.intro
theorem tw13368278939475635651 : True := True.intro
theorem tw13372043803930879067 : True := True.intro
theorem tw12112201142124510154 : True := True.intro
theorem tw8117029840178788049 : True := True.intro
theorem tw12631932088317031055 : True := True.intro
theorem tw13218659294841961345 : True := True.intro
theorem tw4310969922304039945 : True := True.intro
theorem tw2578790182627478330 : True := True.intro
theorem tw8789358453043137523 : True := True.intro
theorem tw17679848547673146604 : True := True.intro
theorem tw7252557286763528408 : True := True.intro
theorem tw2922222751358710265 : True := True.intro
theorem tw5343241284826551009 : True := True.intro
theorem tw15833661619300960221 : True := True.intro
theorem tw16056359734778111409 : True := True.intro
theorem tw16158619036321959407 : True := True.intro
theorem tw16246848685605474055 : True := True.intro
theorem tw2871226400543044806 : True := True.intro
theorem tw8502394832462711535 : True := True.intro
theorem tw10835030195340973342 : True := True.intro
theorem tw16669246528665072411 : True := True.intro
theorem tw12211380539166087753 : True := True.intro
theorem tw6109525258741381055 : True := True.intro
theorem tw2788664435532181463 : True := True.intro
theorem tw15416985209724490359 : True := True.intro
theorem tw17335414052712997756 : True := True.intro
theorem tw14492701947808656938 : True := True.intro
theorem tw7153062008950511462 : True := True.intro
theorem tw3953601041324332601 : True := True.intro
theorem tw12778418089203562962 : True := True.intro
theorem tw18152756486534528934 : True := True.intro
theorem tw16487816990975572028 : True := True.intro
theorem tw13893168526513508166 : True := True.intro
theorem tw4091639524402994376 : True := True.intro
theorem tw1256466517863071783 : True := True.intro
theorem tw13217225542625558698 : True := True.intro
theorem tw13699044414388791291 : True := True.intro
theorem tw10404513684093684653 : True := True.intro
theorem tw14896477498954680388 : True := True.intro
theorem tw10030107230732127627 : True := True.intro
theorem tw15220180469806662145 : True := True.intro
theorem tw12127338746724423809 : True := True.intro
theorem tw461538923250603899 : True := True.intro
theorem tw922143313871775805 : True := True.intro
theorem tw10919297434634762262 : True := True.intro
theorem tw7492944070806833698 : True := True.intro
theorem tw6394381022753523788 : True := True.intro
theorem tw3182187488490625086 : True := True.intro
theorem tw9496365245306024149 : True := True.intro
theorem tw17583924267553061668 : True := True.intro
theorem tw7763873220885509757 : True := True.intro
theorem tw8879563391730754479 : True := True.intro
theorem tw16684818696116721337 : True := True.intro
theorem tw2480057099694739299 : True := True.intro
theorem tw18103342009636024947 : True := True.intro
theorem tw17002781174329755331 : True := True.intro
theorem tw17599816209265215132 : True := True.intro
theorem tw16009884308244765898 : True := True.intro
theorem tw8887996145723391905 : True := True.intro
theorem tw13435371860627755909 : True := True.intro
theorem tw16029623286316568529 : True := True.intro
theorem tw15054049728407801353 : True := True.intro
theorem tw8516288146210602744 : True := True.intro
theorem tw13155211650623716127 : True := True.intro
theorem tw14620637471214046174 : True := True.intro
theorem tw16661405048812198066 : True := True.intro
theorem tw6982297934935202809 : True := True.intro
theorem tw9244321171653502345 : True := True.intro
theorem tw2468469042602058204 : True := True.intro
theorem tw12175748835895409678 : True := True.intro
theorem tw11151547217846952531 : True := True.intro
theorem tw7492773218913965947 : True := True.intro
theorem tw2195365466389143174 : True := True.intro
theorem tw578887228443019578 : True := True.intro
theorem tw1760603350576429475 : True := True.intro
theorem tw9386895884608548742 : True := True.intro
theorem tw4867443594122359892 : True := True.intro
theorem tw881544763273948857 : True := True.intro
theorem tw11657935722488395390 : True := True.intro
theorem tw3085183777334472315 : True := True.intro
theorem tw18370931923303237609 : True := True.intro
theorem tw13606922415975196911 : True := True.intro
theorem tw15931116738044738221 : True := True.intro
theorem tw5592821105494180994 : True := True.intro
theorem tw15687388767607454252 : True := True.intro
theorem tw3259873300814134281 : True := True.intro
theorem tw1717729237380139383 : True := True.intro
theorem tw5420774739373220312 : True := True.intro
theorem tw16006246977917349235 : True := True.intro
theorem tw7399621439246259153 : True := True.intro
theorem tw5859118754885311737 : True := True.intro
theorem tw16653525043051678545 : True := True.intro
theorem tw3044193314922437478 : True := True.intro
theorem tw10031445930688152421 : True := True.intro
theorem tw4494801613693538912 : True := True.intro
theorem tw11115866451450875312 : True := True.intro
theorem tw12103701333906454223 : True := True.intro
theorem tw678209747344391502 : True := True.intro
theorem tw9298403506768410418 : True := True.intro
theorem tw7082855905992002993 : True := True.intro
theorem tw3215350286424857435 : True := True.intro
theorem tw11375277706881905925 : True := True.intro
theorem tw4643362625855044894 : True := True.intro
theorem tw697623264460660564 : True := True.intro
theorem tw2863928172549722007 : True := True.intro
theorem tw10654345511274693656 : True := True.intro
theorem tw6785817131721698500 : True := True.intro
theorem tw6291416237084387574 : True := True.intro
theorem tw9976723597467198900 : True := True.intro
theorem tw14189342980343032745 : True := True.intro
theorem tw10849272910044215975 : True := True.intro
theorem tw2051048951616859547 : True := True.intro
theorem tw1792636949448641307 : True := True.intro
theorem tw2315301623876862497 : True := True.intro
theorem tw8025032847418708242 : True := True.intro
theorem tw402640490398009360 : True := True.intro
theorem tw15352081997341112220 : True := True.intro
theorem tw17986969038992634876 : True := True.intro
theorem tw280609765759037681 : True := True.intro
theorem tw9073681462420916055 : True := True.intro
theorem tw14120982254508448379 : True := True.intro
theorem tw7270182246851987180 : True := True.intro
theorem tw7721951785955056133 : True := True.intro
theorem tw8587404781116728655 : True := True.intro
theorem tw5592360268479517082 : True := True.intro
theorem tw7792395482447073224 : True := True.intro
theorem tw5299927114449058123 : True := True.intro
theorem tw5138769234217329475 : True := True.intro
theorem tw14772383043592177042 : True := True.intro
theorem tw26425463804135960 : True := True.intro
theorem tw16169374299450900766 : True := True.intro
theorem tw7541792107247259296 : True := True.intro
theorem tw18406568778348887127 : True := True.intro
theorem tw6293948785866598258 : True := True.intro
theorem tw15344866539931968096 : True := True.intro
theorem tw11228292238239915703 : True := True.intro
theorem tw17085737495109845091 : True := True.intro
theorem tw960944832710211464 : True := True.intro
theorem tw6555240042291301478 : True := True.intro
theorem tw18264374347568628810 : True := True.intro
theorem tw14706022693812145444 : True := True.intro
theorem tw6903541053762270361 : True := True.intro
theorem tw16744898341101239380 : True := True.intro
theorem tw4315991029959535628 : True := True.intro
theorem tw15278966056882409248 : True := True.intro
theorem tw2867327485932766208 : True := True.intro
theorem tw17172931820748874959 : True := True.intro
theorem tw6709418730364537143 : True := True.intro
theorem tw15766875824913328220 : True := True.intro
theorem tw13783031573616600631 : True := True.intro
theorem tw14980023328507725902 : True := True.intro
theorem tw1610171440888473627 : True := True.intro
theorem tw16194383521188589630 : True := True.intro
theorem tw13096558090100123544 : True := True.intro
theorem tw9748044761591592747 : True := True.intro
theorem tw18241275227582772068 : True := True.intro
theorem tw6046454685291232161 : True := True.intro
theorem tw6627881031435992008 : True := True.intro
theorem tw908340440784498289 : True := True.intro
theorem tw15923250282426842828 : True := True.intro
theorem tw10847404155465417027 : True := True.intro
theorem tw1033889070964956483 : True := True.intro
theorem tw5976792059365374437 : True := True.intro
theorem tw5810065557313606291 : True := True.intro
theorem tw13466754112058979494 : True := True.intro
theorem tw10283529075043463162 : True := True.intro
theorem tw8990313861142287110 : True := True.intro
theorem tw12629531694177875297 : True := True.intro
theorem tw8068729725432388964 : True := True.intro
theorem tw9753359207989701909 : True := True.intro
theorem tw12035623454917710897 : True := True.intro
theorem tw12364972598781006883 : True := True.intro
theorem tw17901334829092211166 : True := True.intro
theorem tw567884609423149705 : True := True.intro
theorem tw12900700647772717614 : True := True.intro
theorem tw1445366717492459972 : True := True.intro
theorem tw8244733829118024811 : True := True.intro
theorem tw2887051446865420828 : True := True.intro
theorem tw14439243815434019604 : True := True.intro
theorem tw4916360252006170105 : True := True.intro
theorem tw12509009523430927325 : True := True.intro
theorem tw8242931771332617035 : True := True.intro
theorem tw13944508082162953488 : True := True.intro
theorem tw5562173858411828344 : True := True.intro
theorem tw12872897951434832890 : True := True.intro
theorem tw17956543221229664512 : True := True.intro
theorem tw6988595667528144454 : True := True.intro
theorem tw1976262728313527643 : True := True.intro
theorem tw16713699803418581334 : True := True.intro
theorem tw7754304195085646258 : True := True.intro
theorem tw16332348944364537037 : True := True.intro
theorem tw14333710738500927179 : True := True.intro
theorem tw740920337575284248 : True := True.intro
theorem tw7510230149288206974 : True := True.intro
theorem tw2252305205657439004 : True := True.intro
theorem tw9719896912496429819 : True := True.intro
theorem tw13315533130655954831 : True := True.intro
theorem tw10024716035694756283 : True := True.intro
theorem tw13342606739435360313 : True := True.intro
theorem tw13304987755320994043 : True := True.intro
theorem tw1386097877827089520 : True := True.intro
theorem tw9299267367459917385 : True := True.intro
theorem tw4706079058837389440 : True := True.intro
theorem tw10246146449241189800 : True := True.intro
theorem tw3828038474966422129 : True := True.intro
theorem tw4181196891559700729 : True := True.intro
theorem tw3229955645248102723 : True := True.intro
theorem tw15610959940260225430 : True := True.intro
theorem tw15228807520496212463 : True := True.intro
theorem tw8545014587354053640 : True := True.intro
theorem tw17387473266821786944 : True := True.intro
theorem tw14889214211474231398 : True := True.intro
theorem tw3419581819265744254 : True := True.intro
theorem tw7654286748164834634 : True := True.intro
theorem tw257007361410690125 : True := True.intro
theorem tw4521580383011477154 : True := True.intro
theorem tw16083421223730518785 : True := True.intro
theorem tw2855845756224970109 : True := True.intro
theorem tw4817003022231809500 : True := True.intro
theorem tw6683769817339685419 : True := True.intro
theorem tw17681399029576232318 : True := True.intro
theorem tw12976082216212581069 : True := True.intro
theorem tw2900905267640511130 : True := True.intro
theorem tw10450363280022070651 : True := True.intro
theorem tw2295870552580634182 : True := True.intro
theorem tw14353793391729792155 : True := True.intro
theorem tw5657824000916062451 : True := True.intro
theorem tw10860895700388868024 : True := True.intro
theorem tw4734902545126651661 : True := True.intro
theorem tw10525666975642140466 : True := True.intro
theorem tw10879034167726328663 : True := True.intro
theorem tw15048261121198461528 : True := True.intro
theorem tw5283464899586487735 : True := True.intro
theorem tw11984409736253958808 : True := True.intro
theorem tw10117440562283002822 : True := True.intro
theorem tw13330244855972007585 : True := True.intro
theorem tw3442329435671937591 : True := True.intro
theorem tw10049082858989184355 : True := True.intro
theorem tw9641152695372364146 : True := True.intro
theorem tw226724450230711188 : True := True.intro
theorem tw9429285754427346401 : True := True.intro
theorem tw8004679753235328684 : True := True.intro
theorem tw8600361732997149524 : True := True.intro
theorem tw1452849714261714991 : True := True.intro
theorem tw546821695630378048 : True := True.intro
theorem tw13624431586668435662 : True := True.intro
theorem tw6615107907471364465 : True := True.intro
theorem tw18291419657060728153 : True := True.intro
theorem tw4021928978595405253 : True := True.intro
theorem tw16154546982801380032 : True := True.intro
theorem tw17902569758825723728 : True := True.intro
theorem tw12976186185376257304 : True := True.intro
theorem tw14031261019411111474 : True := True.intro
theorem tw15643275761693703936 : True := True.intro
theorem tw541196102884509978 : True := True.intro
theorem tw17130151131035750659 : True := True.intro
theorem tw15337868472472888810 : True := True.intro
theorem tw858883931015391567 : True := True.intro
theorem tw6528754448969337418 : True := True.intro
theorem tw5715734110848049390 : True := True.intro
theorem tw18342943404816021876 : True := True.intro
theorem tw17232729238497989147 : True := True.intro
theorem tw1582976572388173787 : True := True.intro
theorem tw4870687313549177768 : True := True.intro
theorem tw5220083430330967483 : True := True.intro
theorem tw17893044597097874663 : True := True.intro
theorem tw1810128313956251070 : True := True.intro
theorem tw17336936450418997793 : True := True.intro
theorem tw714852897916480489 : True := True.intro
theorem tw8721321648031231958 : True := True.intro
theorem tw16692772259055178886 : True := True.intro
theorem tw7076163891533521732 : True := True.intro
theorem tw11232374478483605306 : True := True.intro
theorem tw11775305588321162381 : True := True.intro
theorem tw1728934660973012959 : True := True.intro
theorem tw13205855875590784517 : True := True.intro
theorem tw9813410681712176819 : True := True.intro
theorem tw18185714744248944022 : True := True.intro
theorem tw9131607905817354932 : True := True.intro
theorem tw5490696432328200686 : True := True.intro
theorem tw4218252797249083135 : True := True.intro
theorem tw12995909851351757392 : True := True.intro
theorem tw6598312636042714100 : True := True.intro
theorem tw17234923516513369237 : True := True.intro
theorem tw15946388913382835224 : True := True.intro
theorem tw17470177872615007328 : True := True.intro
theorem tw16970440968685349367 : True := True.intro
theorem tw17447410573909459338 : True := True.intro
theorem tw12659318050587179527 : True := True.intro
theorem tw4360684699965382250 : True := True.intro
theorem tw4138081844389336918 : True := True.intro
theorem tw17143746779515762356 : True := True.intro
theorem tw14612060388864693735 : True := True.intro
theorem tw5505332120971382143 : True := True.intro
theorem tw10224846074564989696 : True := True.intro
theorem tw11968265576560266318 : True := True.intro
theorem tw2951005344575393816 : True := True.intro
theorem tw15813434630575017362 : True := True.intro
theorem tw5334465803284312953 : True := True.intro
theorem tw1997569388931296116 : True := True.intro
theorem tw8293946417935249925 : True := True.intro
theorem tw14168552714766633299 : True := True.intro
theorem tw2469616315170818444 : True := True.intro
theorem tw16458374869611993462 : True := True.intro
end hd
set_option Elab.async true
set_option maxRecDepth 100000 in
set_option maxHeartbeats 8000000 in
theorem hd : ∃ T : Prop, Hold T → PySem.Challenge.rw_ik0143_01.Holds := ⟨_, by
  as_aux_lemma =>
    intro h
    refine' Hold.split h ⟨?main, ?hc⟩
    case main =>
      w_on
      o_law
      k_head
      case hw => w_witness2
    case hc => exact h.get⟩
set_option Elab.async false
end Mine
namespace Mine
local macro_rules | `(tactic| walk_at $s:str) => `(tactic| k_extra $s)
local macro_rules | `(tactic| k_enter) => `(tactic| k_extra "k_enter")
local macro_rules | `(tactic| ktr_units) => `(tactic| k_extra "ktr_units")
local macro_rules | `(tactic| ktr_room) => `(tactic| k_extra "ktr_room")
local macro_rules | `(tactic| k_ne) => `(tactic| k_extra "k_ne")
local macro_rules | `(tactic| k_all) => `(tactic| k_extra "k_all")
local macro_rules | `(tactic| k_lt $h:ident) => `(tactic| (replace $h := allLt_of $h; dsimp +zetaDelta only [AllLt] at $h:ident))
theorem fillK_all : PySem.Challenge.rw_ik0143_01 = PySem.Challenge.rw_ik0143_01 ∧ Mine.hd.heap_1_39 = Mine.hd.heap_1_39 := by
  k_fill
  exact ⟨rfl, rfl⟩
theorem top_off : Mine.hd.heap_1_39 = Mine.hd.heap_1_39 := by -- (the head, elaborated apart, has set the lines for the top on; it is through here)
  w_top off
  exact rfl
/-! ## R1 -/
section
open PySem.Calls
section
variable {prog : Program} {w : World} {A : Around} {E : Value → Shared → Prop} {s : Shared}
theorem kind_issub_n : builtinKind "issubclass.nested" = none := by decide +kernel
theorem plain_issub_n : plainId "issubclass.nested" = true := by decide +kernel
theorem args_issub_n (a b c : Value) : argsOk "issubclass.nested" ⟨[a, b, c], []⟩ := by unfold argsOk; kernel_rfl
theorem issub_nested_str {k : Value} {dep : Int} {tk : Tok} {Q : Fin → Shared → Prop} (hk : k = .int dep tk) (hq : Q (.done (.ret (.bool true))) s) :
    wpAny (model prog w) A (Builtin.«issubclass.nested» ⟨[.type "str", .type "str", k], []⟩) Q E s := by
  subst hk
  have hm' := kitMeta_of (show kitMeta "str" = true by decide +kernel)
  have hself : isSubtype (.type "str") (.type "str") = pure true := by rw [isSubtype_type]; kernel_rfl
  unfold Builtin.«issubclass.nested»
  repeat (any_goals (first | assumption | (rw [hm']) | (rw [hself]) | wp_step))
theorem call_issub_n {k : Int} {Q : Value → Shared → Prop} (h : Q (.bool true) s) : wpAny (model prog w) A (call (.builtin "issubclass.nested") [.type "str", .type "str", rawInt k]) Q E s :=
  call_function_entry kind_issub_n plain_issub_n F.entry_issubclass_nested (args_issub_n _ _ _) (issub_nested_str rfl ⟨_, rfl, h⟩)
theorem issub_nested_tup {tp : Addr} {dd : Option Addr} {rest : List Value} {n : Nat} {sl : Array (Option Value)} {tk : Tok} {Q : Fin → Shared → Prop}
    (ho : s.heap.get? tp = some ⟨.type "tuple", dd, .seq (.type "str" :: rest).toArray n, sl⟩) (hq : Q (.done (.ret (.bool true))) s) :
    wpAny (model prog w) A (Builtin.«issubclass.nested» ⟨[.type "str", .ref tp, .int 0 tk], []⟩) Q E s := by
  obtain ⟨h0, g, d, tt, os⟩ := s
  have hT : Shared.TypeIs ⟨h0, g, d, tt, os⟩ (.ref tp) "tuple" := ⟨_, ho, rfl⟩
  have hsub : isSubtype (.type "tuple") (.type "tuple") = pure true := by rw [isSubtype_type]; kernel_rfl
  unfold Builtin.«issubclass.nested» Builtin.Builtins.unionMembers seqItems?
  iterate 40 (try (any_goals (first | assumption | (rw [hsub]) | (with_reducible refine call_issub_n ?_) | ((show wpAny _ _ (forIn ((some (Value.type "str" :: rest).toArray).getD #[]) _ _) _ _ _); (rw [show (some (Value.type "str" :: rest).toArray).getD #[] = (Value.type "str" :: rest).toArray from rfl, List.forIn_toArray, List.forIn_cons])) | wp_step)))
theorem call_issub_str {tp : Addr} {dd : Option Addr} {rest : List Value} {n : Nat} {sl : Array (Option Value)} {Q : Value → Shared → Prop}
    (ho : s.heap.get? tp = some ⟨.type "tuple", dd, .seq (.type "str" :: rest).toArray n, sl⟩) (hq : Q (.bool true) s) :
    wpAny (model prog w) A (call (.builtin "issubclass") [.type "str", .ref tp]) Q E s :=
  call_issubclass (S := fun _ R s => (∃ dd n sl, s.heap.get? tp = some ⟨.type "tuple", dd, .seq (.type "str" :: rest).toArray n, sl⟩) ∧ R (.ok (.ret (.bool true))) s)
    (fun _ _ _ _ _ ⟨⟨_, _, _, ho⟩, hs⟩ => issubclass_outer (issub_nested_tup ho hs)) ⟨⟨_, _, _, ho⟩, hq⟩
end
/-! pins: what stands in a goal again and again is named once -/
theorem fold_q {M : Model} {A : Around} {st : Stmt} {env : Env} {Q : Flow → Shared → Prop} {E : Value → Shared → Prop} {s : Shared} (H : let q := Q; let e := E; let σ := s; wpAny M A (exec st env) q e σ) : wpAny M A (exec st env) Q E s := H
theorem fold_e {M : Model} {A : Around} {env : Env} {body : List Stmt} {Q : Flow → Shared → Prop} {E : Value → Shared → Prop} {s : Shared} (H : let ev := env; let ar := A.deeper ev; let q := Q; let e := E; let σ := s; wpAny M ar (execs body ev) q e σ) : wpAny M (A.deeper env) (execs body env) Q E s := H
theorem room {R d dp k : Nat} (j : Nat) (h : dp + k < R) (e : d = dp + j) (hj : Nat.ble j k = true) : d < R := e ▸ Nat.lt_of_le_of_lt (Nat.add_le_add_left (Nat.le_of_ble_eq_true hj) dp) h
theorem room0 {R d : Nat} (h : Nat.ble (d + 1) R = true) : d < R := Nat.le_of_ble_eq_true h
noncomputable def Pinned (_ : Heap) : Prop := True
theorem pin_chk {g h : Heap} {L : Addr} {m : Str → Option Value} (_ : Fr g L h m) (_ : Pinned h) : True := trivial
theorem pin_m {P : Prop} {g h : Heap} {L : Addr} {m : Str → Option Value} (F : Fr g L h m) (H : let m1 := m; Fr g L h m1 → Pinned h → P) : P := H F trivial
theorem pin_N {P : Prop} {g h : Heap} {L : Addr} {news : List (Addr × Obj)} (N : News g L h news) (H : let n1 := news; News g L h n1 → P) : P := H N

end

theorem words1 : True := by
  k_with "foldE" => ((try (refine Mine.fold_e ?_; intro ev ar qk ek sk)))
  k_with "k_enter" => ((refine' code_def ?k1_38 ?k2_38 ?k3_38 ?k4_38 ?k5_38 ?kA_38 ?kF_38 ?kK_38 ?k6_38 ?k7_38 ?k8_38 ?k9_38 ?kB_38 ?_ ?c2_38 ?c3_38 ?c4_38 ?c5_38; ((case kA_38 => exact rfl); (case kF_38 => exact rfl); (case kK_38 => first | exact rfl | assumption); (case k1_38 => k_asm); (case k2_38 => k_asm); (case k3_38 => k_asm); (case k4_38 => k_asm); (case k5_38 => k_asm); (case k6_38 => k_is); (case k7_38 => k_is); (case k8_38 => ktr_room)); (case k9_38 => first | exact BindsTo.of_eq rfl | exact binds_K (by k_in) rfl (by k_is) rfl rfl rfl); (case c5_38 => decide); (case kB_38 => exact locs rfl); ((case c2_38 => exact rfl); (case c3_38 => exact rfl); (case c4_38 => exact rfl)); k_whole; intro g'z L'z h'z FG'z F'z N'z B'z X'z T'z; k_extra "foldE"))
  k_with "k_enter" => ((kp_kind "rest"; (refine' kp_rest ?k1_39 ?k2_39 ?k3_39 ?k4_39 ?k5_39 ?kA_39 ?kF_39 ?kK_39 ?k6_39 ?k7_39 ?k8_39 ?kV_39 ?kP_39 ?kG_39 ?kB_39 ?_ ?c2_39 ?c3_39 ?c4_39 ?c5_39; ((case kA_39 => exact rfl); (case kF_39 => exact rfl); (case kK_39 => first | exact rfl | assumption); (case k1_39 => k_asm); (case k2_39 => k_asm); (case k3_39 => k_asm); (case k4_39 => k_asm); (case k5_39 => k_asm); (case k6_39 => k_is); (case k7_39 => k_is); (case k8_39 => ktr_room)); (case kV_39 => kl_lit); (case kP_39 => exact rfl); (case kG_39 => exact fun _ => rfl); (case kB_39 => exact fun _ => locs rfl); (case c5_39 => decide); ((case c2_39 => exact rfl); (case c3_39 => exact rfl); (case c4_39 => exact rfl)); k_whole; intro D'z g'z L'z h'z l1z FG'z F'z N'z B'z X'z T'z; (try k_lt l1z); k_extra "foldE")))
  k_with "k_enter" => ((kp_kind "both"; (refine' kp_both ?k1_40 ?k2_40 ?k3_40 ?k4_40 ?k5_40 ?kA_40 ?kF_40 ?kK_40 ?k6_40 ?k7_40 ?k8_40 ?kV_40 ?kX_40 ?kQ_40 ?kM_40 ?kN_40 ?kD_40 ?kR_40 ?kP_40 ?kS_40 ?kT_40 ?kB_40 ?_ ?c2_40 ?c3_40 ?c4_40 ?c5_40; ((case kA_40 => exact rfl); (case kF_40 => exact rfl); (case kK_40 => first | exact rfl | assumption); (case k1_40 => k_asm); (case k2_40 => k_asm); (case k3_40 => k_asm); (case k4_40 => k_asm); (case k5_40 => k_asm); (case k6_40 => k_is); (case k7_40 => k_is); (case k8_40 => ktr_room)); (case kV_40 => kp_lit); (case kX_40 => kp_lit); (case kQ_40 => exact rfl); (case kM_40 => exact rfl); (case kN_40 => exact rfl); (case kD_40 => kp_flats); (case kR_40 => exact rfl); (case kP_40 => exact rfl); (case kS_40 => exact fun _ => rfl); (case kT_40 => exact fun _ _ => rfl); (case kB_40 => exact fun _ _ => locs rfl); (case c5_40 => decide); ((case c2_40 => exact rfl); (case c3_40 => exact rfl); (case c4_40 => exact rfl)); k_whole; intro C'z D'z o'z g'z L'z h'z tk'z l1z l2z lo'z hs'z fs'z FG'z F'z N'z B'z X'z T'z; (try k_lt l1z); (try k_lt2 l2z); k_extra "foldE")))
  k_with "k_enter" => ((refine' code_defC ?k1_41 ?k2_41 ?k3_41 ?k4_41 ?k5_41 ?kA_41 ?kF_41 ?kK_41 ?k6_41 ?k7_41 ?k8_41 ?k9_41 ?kB_41 ?kD_41 ?_ ?c2_41 ?c3_41 ?c4_41; ((case kA_41 => exact rfl); (case kF_41 => exact rfl); (case kK_41 => first | exact rfl | assumption); (case k1_41 => k_asm); (case k2_41 => k_asm); (case k3_41 => k_asm); (case k4_41 => k_asm); (case k5_41 => k_asm); (case k6_41 => k_is); (case k7_41 => k_is); (case k8_41 => ktr_room)); (case k9_41 => first | exact BindsTo.of_eq rfl | exact binds_K (by k_in) rfl (by k_is) rfl rfl rfl); (case kB_41 => exact rfl); (case kD_41 => decide +kernel); ((case c2_41 => exact rfl); (case c3_41 => exact rfl); (case c4_41 => exact rfl)); k_whole; intro g'z L'z h'z tk'z cells'z FG'z F'z N'z Y'z B'z X'z T'z l1z; (try k_lt l1z); k_cells Y'z; (try simp only [List.cons_append, List.nil_append] at N'z); k_extra "foldE"))
  k_with "ktr_room" => ((first | (refine' Mine.room ?j_42 ?h_42 ?e_42 ?hj_42; (case h_42 => with_reducible assumption); (first | ((case j_42 => exact 0); (case e_42 => exact rfl); (case hj_42 => exact rfl)) | ((case j_42 => exact 1); (case e_42 => exact rfl); (case hj_42 => exact rfl)) | ((case j_42 => exact 2); (case e_42 => exact rfl); (case hj_42 => exact rfl)) | ((case j_42 => exact 3); (case e_42 => exact rfl); (case hj_42 => exact rfl)) | ((case j_42 => exact 4); (case e_42 => exact rfl); (case hj_42 => exact rfl)) | ((case j_42 => exact 5); (case e_42 => exact rfl); (case hj_42 => exact rfl)) | ((case j_42 => exact 6); (case e_42 => exact rfl); (case hj_42 => exact rfl)) | ((case j_42 => exact 7); (case e_42 => exact rfl); (case hj_42 => exact rfl)) | ((case j_42 => exact 8); (case e_42 => exact rfl); (case hj_42 => exact rfl)) | ((case j_42 => exact 9); (case e_42 => exact rfl); (case hj_42 => exact rfl)) | ((case j_42 => exact 10); (case e_42 => exact rfl); (case hj_42 => exact rfl)) | ((case j_42 => exact 11); (case e_42 => exact rfl); (case hj_42 => exact rfl)) | ((case j_42 => exact 12); (case e_42 => exact rfl); (case hj_42 => exact rfl)) | ((case j_42 => exact 13); (case e_42 => exact rfl); (case hj_42 => exact rfl)) | fail "room")) | (refine Mine.room0 ?_; exact rfl) | fail "room"))
  k_with "ktr_units" => ((first | (refine' Mine.room ?j_43 ?h_43 ?e_43 ?hj_43; (case h_43 => with_reducible assumption); (first | ((case j_43 => exact 0); (case e_43 => exact rfl); (case hj_43 => exact rfl)) | ((case j_43 => exact 1); (case e_43 => exact rfl); (case hj_43 => exact rfl)) | ((case j_43 => exact 2); (case e_43 => exact rfl); (case hj_43 => exact rfl)) | ((case j_43 => exact 3); (case e_43 => exact rfl); (case hj_43 => exact rfl)) | ((case j_43 => exact 4); (case e_43 => exact rfl); (case hj_43 => exact rfl)) | ((case j_43 => exact 5); (case e_43 => exact rfl); (case hj_43 => exact rfl)) | ((case j_43 => exact 6); (case e_43 => exact rfl); (case hj_43 => exact rfl)) | ((case j_43 => exact 7); (case e_43 => exact rfl); (case hj_43 => exact rfl)) | ((case j_43 => exact 8); (case e_43 => exact rfl); (case hj_43 => exact rfl)) | ((case j_43 => exact 9); (case e_43 => exact rfl); (case hj_43 => exact rfl)) | ((case j_43 => exact 10); (case e_43 => exact rfl); (case hj_43 => exact rfl)) | ((case j_43 => exact 11); (case e_43 => exact rfl); (case hj_43 => exact rfl)) | ((case j_43 => exact 12); (case e_43 => exact rfl); (case hj_43 => exact rfl)) | ((case j_43 => exact 13); (case e_43 => exact rfl); (case hj_43 => exact rfl)) | ((case j_43 => exact 14); (case e_43 => exact rfl); (case hj_43 => exact rfl)) | ((case j_43 => exact 15); (case e_43 => exact rfl); (case hj_43 => exact rfl)) | ((case j_43 => exact 16); (case e_43 => exact rfl); (case hj_43 => exact rfl)) | ((case j_43 => exact 17); (case e_43 => exact rfl); (case hj_43 => exact rfl)) | ((case j_43 => exact 18); (case e_43 => exact rfl); (case hj_43 => exact rfl)) | ((case j_43 => exact 19); (case e_43 => exact rfl); (case hj_43 => exact rfl)) | ((case j_43 => exact 20); (case e_43 => exact rfl); (case hj_43 => exact rfl)) | ((case j_43 => exact 21); (case e_43 => exact rfl); (case hj_43 => exact rfl)) | ((case j_43 => exact 22); (case e_43 => exact rfl); (case hj_43 => exact rfl)) | ((case j_43 => exact 23); (case e_43 => exact rfl); (case hj_43 => exact rfl)) | ((case j_43 => exact 24); (case e_43 => exact rfl); (case hj_43 => exact rfl)) | ((case j_43 => exact 25); (case e_43 => exact rfl); (case hj_43 => exact rfl)) | ((case j_43 => exact 26); (case e_43 => exact rfl); (case hj_43 => exact rfl)) | ((case j_43 => exact 27); (case e_43 => exact rfl); (case hj_43 => exact rfl)) | ((case j_43 => exact 28); (case e_43 => exact rfl); (case hj_43 => exact rfl)) | ((case j_43 => exact 29); (case e_43 => exact rfl); (case hj_43 => exact rfl)) | ((case j_43 => exact 30); (case e_43 => exact rfl); (case hj_43 => exact rfl)) | ((case j_43 => exact 31); (case e_43 => exact rfl); (case hj_43 => exact rfl)) | ((case j_43 => exact 32); (case e_43 => exact rfl); (case hj_43 => exact rfl)) | ((case j_43 => exact 33); (case e_43 => exact rfl); (case hj_43 => exact rfl)) | ((case j_43 => exact 34); (case e_43 => exact rfl); (case hj_43 => exact rfl)) | ((case j_43 => exact 35); (case e_43 => exact rfl); (case hj_43 => exact rfl)) | ((case j_43 => exact 36); (case e_43 => exact rfl); (case hj_43 => exact rfl)) | ((case j_43 => exact 37); (case e_43 => exact rfl); (case hj_43 => exact rfl)) | ((case j_43 => exact 38); (case e_43 => exact rfl); (case hj_43 => exact rfl)) | ((case j_43 => exact 39); (case e_43 => exact rfl); (case hj_43 => exact rfl)) | ((case j_43 => exact 40); (case e_43 => exact rfl); (case hj_43 => exact rfl)) | ((case j_43 => exact 41); (case e_43 => exact rfl); (case hj_43 => exact rfl)) | ((case j_43 => exact 42); (case e_43 => exact rfl); (case hj_43 => exact rfl)) | ((case j_43 => exact 43); (case e_43 => exact rfl); (case hj_43 => exact rfl)) | ((case j_43 => exact 44); (case e_43 => exact rfl); (case hj_43 => exact rfl)) | ((case j_43 => exact 45); (case e_43 => exact rfl); (case hj_43 => exact rfl)) | ((case j_43 => exact 46); (case e_43 => exact rfl); (case hj_43 => exact rfl)) | ((case j_43 => exact 47); (case e_43 => exact rfl); (case hj_43 => exact rfl)) | ((case j_43 => exact 48); (case e_43 => exact rfl); (case hj_43 => exact rfl)) | ((case j_43 => exact 49); (case e_43 => exact rfl); (case hj_43 => exact rfl)) | ((case j_43 => exact 50); (case e_43 => exact rfl); (case hj_43 => exact rfl)) | ((case j_43 => exact 51); (case e_43 => exact rfl); (case hj_43 => exact rfl)) | ((case j_43 => exact 52); (case e_43 => exact rfl); (case hj_43 => exact rfl)) | ((case j_43 => exact 53); (case e_43 => exact rfl); (case hj_43 => exact rfl)) | ((case j_43 => exact 54); (case e_43 => exact rfl); (case hj_43 => exact rfl)) | ((case j_43 => exact 55); (case e_43 => exact rfl); (case hj_43 => exact rfl)) | ((case j_43 => exact 56); (case e_43 => exact rfl); (case hj_43 => exact rfl)) | ((case j_43 => exact 57); (case e_43 => exact rfl); (case hj_43 => exact rfl)) | ((case j_43 => exact 58); (case e_43 => exact rfl); (case hj_43 => exact rfl)) | ((case j_43 => exact 59); (case e_43 => exact rfl); (case hj_43 => exact rfl)) | ((case j_43 => exact 60); (case e_43 => exact rfl); (case hj_43 => exact rfl)) | ((case j_43 => exact 61); (case e_43 => exact rfl); (case hj_43 => exact rfl)) | ((case j_43 => exact 62); (case e_43 => exact rfl); (case hj_43 => exact rfl)) | ((case j_43 => exact 63); (case e_43 => exact rfl); (case hj_43 => exact rfl)) | ((case j_43 => exact 64); (case e_43 => exact rfl); (case hj_43 => exact rfl)) | ((case j_43 => exact 65); (case e_43 => exact rfl); (case hj_43 => exact rfl)) | ((case j_43 => exact 66); (case e_43 => exact rfl); (case hj_43 => exact rfl)) | ((case j_43 => exact 67); (case e_43 => exact rfl); (case hj_43 => exact rfl)) | ((case j_43 => exact 68); (case e_43 => exact rfl); (case hj_43 => exact rfl)) | ((case j_43 => exact 69); (case e_43 => exact rfl); (case hj_43 => exact rfl)) | ((case j_43 => exact 70); (case e_43 => exact rfl); (case hj_43 => exact rfl)) | ((case j_43 => exact 71); (case e_43 => exact rfl); (case hj_43 => exact rfl)) | ((case j_43 => exact 72); (case e_43 => exact rfl); (case hj_43 => exact rfl)) | ((case j_43 => exact 73); (case e_43 => exact rfl); (case hj_43 => exact rfl)) | ((case j_43 => exact 74); (case e_43 => exact rfl); (case hj_43 => exact rfl)) | ((case j_43 => exact 75); (case e_43 => exact rfl); (case hj_43 => exact rfl)) | ((case j_43 => exact 76); (case e_43 => exact rfl); (case hj_43 => exact rfl)) | ((case j_43 => exact 77); (case e_43 => exact rfl); (case hj_43 => exact rfl)) | ((case j_43 => exact 78); (case e_43 => exact rfl); (case hj_43 => exact rfl)) | ((case j_43 => exact 79); (case e_43 => exact rfl); (case hj_43 => exact rfl)) | ((case j_43 => exact 80); (case e_43 => exact rfl); (case hj_43 => exact rfl)) | ((case j_43 => exact 81); (case e_43 => exact rfl); (case hj_43 => exact rfl)) | ((case j_43 => exact 82); (case e_43 => exact rfl); (case hj_43 => exact rfl)) | ((case j_43 => exact 83); (case e_43 => exact rfl); (case hj_43 => exact rfl)) | ((case j_43 => exact 84); (case e_43 => exact rfl); (case hj_43 => exact rfl)) | ((case j_43 => exact 85); (case e_43 => exact rfl); (case hj_43 => exact rfl)) | ((case j_43 => exact 86); (case e_43 => exact rfl); (case hj_43 => exact rfl)) | ((case j_43 => exact 87); (case e_43 => exact rfl); (case hj_43 => exact rfl)) | ((case j_43 => exact 88); (case e_43 => exact rfl); (case hj_43 => exact rfl)) | ((case j_43 => exact 89); (case e_43 => exact rfl); (case hj_43 => exact rfl)) | ((case j_43 => exact 90); (case e_43 => exact rfl); (case hj_43 => exact rfl)) | ((case j_43 => exact 91); (case e_43 => exact rfl); (case hj_43 => exact rfl)) | ((case j_43 => exact 92); (case e_43 => exact rfl); (case hj_43 => exact rfl)) | ((case j_43 => exact 93); (case e_43 => exact rfl); (case hj_43 => exact rfl)) | ((case j_43 => exact 94); (case e_43 => exact rfl); (case hj_43 => exact rfl)) | ((case j_43 => exact 95); (case e_43 => exact rfl); (case hj_43 => exact rfl)) | ((case j_43 => exact 96); (case e_43 => exact rfl); (case hj_43 => exact rfl)) | ((case j_43 => exact 97); (case e_43 => exact rfl); (case hj_43 => exact rfl)) | ((case j_43 => exact 98); (case e_43 => exact rfl); (case hj_43 => exact rfl)) | ((case j_43 => exact 99); (case e_43 => exact rfl); (case hj_43 => exact rfl)) | fail "room")) | (refine Mine.room0 ?_; exact rfl) | fail "room"))
  k_with "k_ne" => ((first | with_reducible assumption | (refine neN ?_; (try dsimp +zetaDelta only); omega)))
  k_with "call builtin:issubclass" => ((k_here; (with_reducible show wpAny _ _ (call (Value.builtin "issubclass") [Value.type "str", Value.ref _]) _ _ _); k_dflt (refine' Mine.call_issub_str ?k1_1 ?_; (case k1_1 => exact News.get (by k_asm) (by k_mem)); k_whole)))
  k_with "call ref" => ((k_here; (with_reducible show wpAny _ _ (call (Value.ref 131) [Value.str _ _]) _ _ _); k_dflt (refine' Mine.fspath_spec ?k1_2 ?k2_2 ?k3_2 ?k4_2 ?k5_2 ?k6_2 ?k7_2 ?k8_2 ?_; (((case k1_2 => k_asm); (case k2_2 => k_asm); (case k3_2 => k_asm); (case k4_2 => k_asm); (case k5_2 => k_asm); (case k6_2 => first | exact rfl | assumption)); (case k7_2 => ktr_room); (case k8_2 => ktr_units)); k_whole); intro h9z tk9z F9z N9z; (try dsimp only)))
  k_with "call ref" => ((k_here; (with_reducible show wpAny _ _ (call (Value.ref 159) [Value.str _ _]) _ _ _); k_dflt (refine' Mine.splitroot_spec ?k1_3 ?k2_3 ?k3_3 ?k4_3 ?k5_3 ?k6_3 ?k7_3 ?k8_3 ?k9_3 ?_; (((case k1_3 => k_asm); (case k2_3 => k_asm); (case k3_3 => k_asm); (case k4_3 => k_asm); (case k5_3 => k_asm); (case k6_3 => first | exact rfl | assumption)); (case k7_3 => ktr_room); (case k8_3 => ktr_units)); (case k9_3 => k_asm); k_whole); intro D9z b9z c9z t91z t92z t93z h9z tk9z e91z e92z F9z N9z; (have l92z : _ ≤ 1048576 := Nat.le_trans (Mine.srP_le e92z) (by k_asm)); (try dsimp only)))
  trivial
/-! ## R2 -/
section
set_option maxRecDepth 100000 in
set_option maxHeartbeats 8000000 in
theorem fspath_spec {w : World} {mean : ExcName → Option Value} {mg mb : Str → Option Value}
    {dp un : Nat} {gd : Option (List Code)} {cn : Str} {cs : Scope} {a : Addr} {ccd : Value} {cl : List (Str × Addr)} {outer : List Env} {A₀ : Around} {base h₀ : Heap} {L : Addr} {m : Str → Option Value} {news : List (Addr × Obj)} {s : Shared} {Q E : Value → Shared → Prop} {x : Str} {t : Tok}
    (B : Below A₀ base outer h₀) (F : Fr h₀ L s.heap m) (X : (Mine.hd.heap_1_39 w.params).In h₀) (N : News h₀ L s.heap news) (T : (Top Mine.hd.view_1_40 (looseW Mine.hd.view_1_40 [Str.ofString "check_arg_types_genericpath", Str.ofString "join_posixpath", Str.ofString "_twin_re_1", Str.ofString "UnsupportedOperation", Str.ofString "IOBase", Str.ofString "BufferedIOBase", Str.ofString "TextIOBase", Str.ofString "BytesIO", Str.ofString "StringIO", Str.ofString "check_arg_types_path", Str.ofString "join_path", Str.ofString "shlex", Str.ofString "split", Str.ofString "_find_unsafe"]) mean mg mb h₀)) (hk : cs.kind = .function)
    (hd : dp + 1 < recursionLimit) (hu : un + 8 < cLine)
    (hret : ∀ (h' : Heap) (tk' : Nat), Fr h₀ L h' m → News h₀ L h' news → Q (.str x t) { s with heap := h', toks := tk' }) :
    wpAny (model PySem.Challenge.rw_ik0143_01.row.prog w) (ktrTop dp un gd cn cs L a ccd cl outer) (call (.ref 131) [.str x t]) Q E s := by
  refine wpAny_call ?_
  k_dflt cell_enter
  k_steps
  all_goals exact hret _ _ (by k_asm) (by first | k_asm | (refine' cb_drop ?cbN ?cbS; (case cbN => assumption); (case cbS => kcj_all)))

end

/-! ## G1 -/
section
open PySem.Calls PySem.Spec
/-- what the callee's base keeps, the caller's ledger keeps -/
theorem news_back {h₀ H g h' : Heap} {L L' : Addr} {m' : Str → Option Value} {news : List (Addr × Obj)} (N : News h₀ L H news) (G : GSub H g []) (F : Fr g L' h' m') : News h₀ L h' news :=
  fun p hp => ⟨F.keep _ _ (G _ _ (N p hp).1 (by simp)), (N p hp).2⟩
theorem news_cons {h₀ h' : Heap} {L : Addr} {kn news : List (Addr × Obj)} {D : Addr} {o : Obj} (hb : News h₀ L h' news) (kN : News h₀ L h' kn) (hm : (D, o) ∈ kn) : News h₀ L h' ((D, o) :: news) :=
  fun p hp => by
    rcases List.mem_cons.mp hp with rfl | hp
    · exact kN _ hm
    · exact hb p hp
theorem list_back {h₀ H g : Heap} {L : Addr} {l : Addr} {its : Array Value} {n : Nat} {news : List (Addr × Obj)} (N : News h₀ L H news) (G : GSub H g []) (hm : (l, listOf its n) ∈ news) : g.IsList l its :=
  ⟨_, G _ _ (N _ hm).1 (by simp), rfl, n, rfl⟩

theorem strsAre_get : ∀ {vs : List Value} {ss : List Str}, StrsAre vs ss → ∀ {i : Nat} {v : Value}, vs[i]? = some v → ∃ c t, ss[i]? = some c ∧ v = .str c t
  | _, _, .nil, i, v, e => by simp at e
  | _, _, .cons y tk r, 0, v, e => ⟨y, tk, rfl, (Option.some.inj e).symm⟩
  | _, _, .cons y tk r, i + 1, v, e => by simpa using strsAre_get r (by simpa using e)

noncomputable def TurnNext (h₀ : Heap) (L I : Addr) (oI : Obj) (cst : List (Addr × Obj)) (Inv : (Str → Option Value) → List (Addr × Obj) → Prop) (s s₂ : Shared) : Prop :=
  ∃ h' tk m' nx', s₂ = { s with heap := h', toks := tk } ∧ Fr h₀ L h' m' ∧ News h₀ L h' ((I, oI) :: (nx' ++ cst)) ∧ (∀ p ∈ nx', p.1 ≠ I) ∧ Inv m' nx'
noncomputable def TurnEnd (h₀ : Heap) (L I : Addr) (oI : Obj) (cst : List (Addr × Obj)) (Inv : (Str → Option Value) → List (Addr × Obj) → Prop) (s : Shared) (Q : Flow → Shared → Prop) (f : Flow) (s₂ : Shared) : Prop :=
  match f with
  | .ret v => Q (.ret v) s₂
  | .brk => Q .next s₂
  | .cont => TurnNext h₀ L I oI cst Inv s s₂
  | .next => TurnNext h₀ L I oI cst Inv s s₂
theorem TurnNext.mk {h₀ : Heap} {L I : Addr} {oI : Obj} {cst : List (Addr × Obj)} {Inv : (Str → Option Value) → List (Addr × Obj) → Prop} {s : Shared} {h' : Heap} {tk : Nat} {m' : Str → Option Value} {all : List (Addr × Obj)} (nx' : List (Addr × Obj))
    (F : Fr h₀ L h' m') (N : News h₀ L h' all) (hs : ∀ p ∈ (I, oI) :: (nx' ++ cst), p ∈ all) (hne : ∀ p ∈ nx', p.1 ≠ I) (hI : Inv m' nx') : TurnNext h₀ L I oI cst Inv s { s with heap := h', toks := tk } :=
  ⟨h', tk, m', nx', rfl, F, fun p hp => N p (hs p hp), hne, hI⟩

section
variable {prog : Program} {w : World} {A : Around} {E : Value → Shared → Prop} {s : Shared} {env : Env} {h₀ : Heap} {x : Str} {body : List Stmt} {Q : Flow → Shared → Prop}
theorem for_strs {l : Addr} {vs : List Value} {ss : List Str} {m₀ : Str → Option Value} {cst nx₀ : List (Addr × Obj)} (Inv : List Str → (Str → Option Value) → List (Addr × Obj) → Prop)
    (hh : A.handled = none) (hl : LCg.SrcAt h₀ l vs.toArray cst) (hS : StrsAre vs ss) (F : Fr h₀ env.locals s.heap m₀) (N : News h₀ env.locals s.heap (nx₀ ++ cst)) (h0 : Inv [] m₀ nx₀)
    (turn : ∀ pre c post t m₁ nx I oI h tk, ss = pre ++ c :: post → (∀ p ∈ nx ++ cst, p.1 ≠ I) → Inv pre m₁ nx → Fr h₀ env.locals h (fun y => if y = x then some (.str c t) else m₁ y) → News h₀ env.locals h ((I, oI) :: (nx ++ cst)) →
      wpAny (model prog w) A (execs body env) (TurnEnd h₀ env.locals I oI cst (Inv (pre ++ [c])) { s with heap := h, toks := tk } Q) E { s with heap := h, toks := tk })
    (done : ∀ m₁ nx h tk, Inv ss m₁ nx → Fr h₀ env.locals h m₁ → News h₀ env.locals h (nx ++ cst) → Q .next { s with heap := h, toks := tk }) :
    wpAny (model prog w) A (pyIter (.ref l)) (fun it s₂ => LoopAtV prog w A h₀ env x body Q E it s₂) E s := by
  have Nc : News h₀ env.locals s.heap cst := fun p hp => N p (List.mem_append_right _ hp)
  have hls : s.heap.IsList l vs.toArray := hl.list F.keep Nc
  have hlt : l < s.heap.objs.size := by obtain ⟨o, ho, _⟩ := hls; exact Heap.lt_size ho
  have hlen : vs.toArray.size = ss.length := by rw [List.size_toArray]; exact hS.length
  refine wpAny_pyIter_list hls ?_
  have W := Walks.list (prog := prog) (w := w) hh s.heap.objs.size l (Nat.ne_of_lt hlt) vs.toArray
  have hLI : env.locals ≠ s.heap.objs.size := Nat.ne_of_lt F.ns.lt
  have hlL : l ≠ env.locals := by
    rcases hl with ⟨o, ho, _⟩ | ⟨o, hm, _⟩
    · exact Nat.ne_of_lt (Nat.lt_of_lt_of_le (Heap.lt_size ho) F.above)
    · exact (Nc _ hm).2.1
  refine ⟨_, _, _, _, _, _, m₀, nx₀ ++ cst, (fun i m news => ∃ nx, news = nx ++ cst ∧ (∀ p ∈ nx ++ cst, p.1 ≠ s.heap.objs.size) ∧ Inv (ss.take i) m nx), rfl, W, ?_, ?_, ?_,
    ⟨⟨_, Heap.get?_push_size _ rfl, rfl, rfl⟩, hls.push _⟩, F.push _, N.grown fun _ _ e => Heap.get?_push_of_some _ e, ⟨nx₀, rfl, fun p hp => Nat.ne_of_lt (Heap.lt_size (N p hp).1), by simpa using h0⟩, ?_, ?_⟩
  · intro hm
    rcases List.mem_cons.mp hm with e | hm
    · exact hLI e
    · exact hlL (List.mem_singleton.mp hm).symm
  · intro b hb
    rw [List.mem_singleton.mp hb]
    exact next_is_new F
  · intro p hp hI
    exact absurd (Heap.lt_size (N p hp).1) ((List.mem_singleton.mp hI) ▸ Nat.lt_irrefl _)
  · rintro i v m₁ news₁ s₁ own ⟨hh', tk', rfl⟩ hin hP ⟨nx, rfl, hoff, hJ⟩ hwr hown hget hall hst F₁ N₁
    have hi : i < ss.length := hlen ▸ hin
    have hP' : vs[i]? = some v := by simpa using hP
    obtain ⟨c, t, hc, rfl⟩ := strsAre_get hS hP'
    obtain ⟨⟨oI, hoI, _⟩, _⟩ := hst
    have hd : ss = ss.take i ++ c :: ss.drop (i + 1) := by
      have e := (List.getElem?_eq_some_iff.mp hc).2
      rw [← e, List.getElem_cons_drop, List.take_append_drop]
    have hI₀ : h₀.get? s.heap.objs.size = none := next_is_new F
    have Nn : News h₀ env.locals hh' ((s.heap.objs.size, oI) :: (nx ++ cst)) := fun p hp => by
      rcases List.mem_cons.mp hp with rfl | hp
      · exact ⟨hoI, Ne.symm hLI, hI₀⟩
      · exact N₁ p (List.mem_append_right _ hp)
    have hs1 : ss.take (i + 1) = ss.take i ++ [c] := by rw [List.take_add_one, hc]; rfl
    refine wpAny_mono (turn _ c _ t m₁ nx s.heap.objs.size oI hh' tk' hd hoff hJ F₁ Nn) (fun f s₂ p => ?_) fun _ _ e => e
    have fin : TurnNext h₀ env.locals s.heap.objs.size oI cst (Inv (ss.take i ++ [c])) { s with heap := hh', toks := tk' } s₂ →
        LoopStepU h₀ env.locals [s.heap.objs.size] own (fun m news => ∃ nx, news = nx ++ cst ∧ (∀ p ∈ nx ++ cst, p.1 ≠ s.heap.objs.size) ∧ Inv (ss.take (i + 1)) m nx) { s with heap := hh', toks := tk' } .next s₂ := by
      rintro ⟨h', tk, m', nx', e, F', N', hne, hJ'⟩
      have hoff' : ∀ p ∈ nx' ++ cst, p.1 ≠ s.heap.objs.size := fun p hp => by
        rcases List.mem_append.mp hp with hp | hp
        · exact hne p hp
        · exact hoff p (List.mem_append_right _ hp)
      refine ⟨rfl, h', tk, m', nx' ++ cst, e, F', fun p hp => ?_, fun p hp hq => hoff' p hp (List.mem_singleton.mp hq), nx', rfl, hoff', hs1 ▸ hJ'⟩
      rcases List.mem_append.mp hp with hp | hp
      · have hfp := hown p hp
        have hg := hget p hp
        have hn₀ := (N₁ p (List.mem_append_left _ hp)).2
        refine ⟨?_, hn₀⟩
        rcases List.mem_cons.mp hfp with e1 | e1
        · rw [e1] at hg ⊢
          have : oI = p.2 := Option.some.inj (hoI.symm.trans hg)
          rw [← this]
          exact (N' _ (List.mem_cons_self ..)).1
        · have e1 := List.mem_singleton.mp e1
          rcases hl with ⟨o, ho, _⟩ | ⟨o, hm, _⟩
          · rw [e1] at hn₀
            exact absurd (ho.symm.trans hn₀.2) (by simp)
          · have h1 := (Nn (l, o) (List.mem_cons_of_mem _ (List.mem_append_right _ hm))).1
            rw [e1] at hg ⊢
            have : o = p.2 := Option.some.inj (h1.symm.trans hg)
            rw [← this]
            exact (N' (l, o) (List.mem_cons_of_mem _ (List.mem_append_right _ hm))).1
      · exact N' p (List.mem_cons_of_mem _ hp)
    cases f with
    | ret v => exact .ret p
    | brk => exact .brk p
    | next => exact .next (fin p)
    | cont => exact .cont (fin p)
  · rintro h' tk m' news' F' N' hwr ⟨nx, rfl, hoff, hJ⟩
    rw [hlen, List.take_length] at hJ
    exact done m' nx h' tk hJ F' N'
end

end

/-! ## G8 -/
section
open PySem.Calls PySem.Spec PySem.Builtin.Str
noncomputable def chS (c : Nat) : Str := ⟨#[c]⟩
theorem slice_nn (x : Str) {a b : Nat} (hab : a ≤ b) (hb : b ≤ x.length) : Txt.slice x (some (a : Int)) (some (b : Int)) = ⟨((x.cps.toList.drop a).take (b - a)).toArray⟩ := by
  have e := StrLaws.sliced_plain x hab hb
  have hl : (strSliceIndices (some (a : Int)) (some (b : Int)) 1 x.length).length = b - a := by
    rw [StrLaws.strSliceIndices_plain hab hb]; simp
  unfold Txt.slice
  split
  · rename_i h
    rw [hl] at h
    simp only [beq_self_eq_true, Bool.true_and, beq_iff_eq] at h
    have ha : a = 0 := by omega
    have hb' : b = x.length := by omega
    subst ha; subst hb'
    simp only [List.drop_zero, Nat.sub_zero]
    cases x with
    | mk cps =>
      show (⟨cps⟩ : Str) = ⟨(List.take cps.size cps.toList).toArray⟩
      rw [List.take_of_length_le (by simp)]
  · rw [e]
theorem ch_law {x : Str} {p : Int} {c : Nat} (h0 : 0 ≤ p) (h : x.cps.toList[p.toNat]? = some c) : Txt.slice (Txt.slice x (some p) (some (p + 1)) ++ Str.ofString " ") none (some (-1)) = chS c := by
  obtain ⟨k, rfl⟩ := Int.eq_ofNat_of_zero_le h0
  have hk : k < x.length := by
    have := (List.getElem?_eq_some_iff.mp h).1
    simpa [Str.length] using this
  have e : Txt.slice x (some (k : Int)) (some ((k : Int) + 1)) = chS c := by
    have := slice_nn x (a := k) (b := k + 1) (by omega) (by omega)
    rw [show ((k : Int) + 1) = ((k + 1 : Nat) : Int) by omega, this]
    have h2 : x.cps.toList.drop k = c :: x.cps.toList.drop (k + 1) := by
      rw [List.drop_eq_getElem_cons (by simpa [Str.length] using hk)]
      congr 1
      have := (List.getElem?_eq_some_iff.mp h).2
      simpa using this
    rw [h2]
    simp [chS, show k + 1 - k = 1 by omega]
  rw [e]
  have : chS c ++ Str.ofString " " = ⟨#[c, 32]⟩ := by
    show (⟨#[c] ++ (Str.ofString " ").cps⟩ : Str) = _
    rw [show (Str.ofString " ").cps = #[32] by decide]
    rfl
  rw [this]
  unfold Txt.slice
  rw [show (⟨#[c, 32]⟩ : Str).length = 2 from rfl, show strSliceIndices none (some (-1)) 1 2 = [0] by decide]
  rfl
theorem occ_none {x y : Str} {lo hi limit : Nat} (h : ∀ i, subAt x y i = false) : occurrences x y lo hi limit = [] := by
  rw [StrLaws.occ_eq]
  have : ∀ (l : List Nat) (st : Array Nat × Nat), (forIn l st (StrLaws.occBody x y hi limit) : Id (Array Nat × Nat)).run = st := by
    intro l
    induction l with
    | nil => intro st; rfl
    | cons a l ih =>
      intro st
      rw [List.forIn_cons]
      have e : StrLaws.occBody x y hi limit a st = pure (.yield st) := by
        unfold StrLaws.occBody
        simp [h]
      rw [e]
      exact ih st
  rw [this]
theorem noNL_sub {x : Str} (h : ∀ c ∈ x.cps.toList, c ≠ 10) (i : Nat) : subAt x (Str.ofString "\n") i = false := by
  unfold subAt
  rw [show (Str.ofString "\n").length = 1 by decide, show (Str.ofString "\n").cps = #[10] by decide]
  rw [beq_eq_false_iff_ne]
  intro e
  have : (10 : Nat) ∈ x.cps.extract i (i + 1) := by rw [e]; simp
  have h2 : (10 : Nat) ∈ x.cps.toList := by
    have := Array.mem_toList_iff.mpr this
    rw [Array.toList_extract] at this
    exact List.mem_of_mem_drop (List.mem_of_mem_take this)
  exact h 10 h2 rfl
theorem find4 {prog : Program} {w : World} {A : Around} {E : Value → Shared → Prop} {s : Shared} {x : Str} {t u v v' : Tok} {i j : Int} {Q : Value → Shared → Prop} (h : ∀ c ∈ x.cps.toList, c ≠ 10) (hq : ∀ t' k, Q (.int (-1) t') { s with toks := k }) :
    wpAny (model prog w) A (call (.builtin "str.find") [.str x t, .str (Str.ofString "\n") u, .int i v, .int j v']) Q E s := by
  have g : Gives (Builtin.«str.find» ⟨[.str x t, .str (Str.ofString "\n") u, .int i v, .int j v'], []⟩) (.int (-1)) := by
    show Gives (match occurrences x (Str.ofString "\n") (fromIndex x.length i) (min (fromIndex x.length j) x.length) 1 with | k :: _ => retInt k | [] => (do rule "str.find.not-found"; retInt (-1))) _
    rw [occ_none (noNL_sub h)]
    exact .rule (.of_eq rfl)
  exact call_gives F.slot_str_find (typeIs_str _ _ _) F.entry_str_find (F.args_str_find_4 _ _ _ _) g (hq _ _)

end

/-! ## L13q -/
section
/-! the plain functions of splitroot, normpath, join and _law_place -/
noncomputable def srI (x : Str) : Str := if (Txt.slice x none (some 1) != Str.ofString "/") = true then Str.ofString "" else if (Txt.slice x (some 1) (some 2) != Str.ofString "/") = true then Str.ofString "/" else if (Txt.slice x (some 2) (some 3) == Str.ofString "/") = true then Str.ofString "/" else Txt.slice x none (some 2)
noncomputable def srP (x : Str) : Str := if (Txt.slice x none (some 1) != Str.ofString "/") = true then x else if (Txt.slice x (some 1) (some 2) != Str.ofString "/") = true then Txt.slice x (some 1) none else if (Txt.slice x (some 2) (some 3) == Str.ofString "/") = true then Txt.slice x (some 1) none else Txt.slice x (some 2) none
noncomputable def npStep (st : List Str) (c : Str) : List Str := if (c.length : Int) = 0 then st else if (c == Str.ofString ".") = true then st else if (c != Str.ofString "..") = true then st ++ [c] else st.dropLast
noncomputable def npEnd (x : Str) : List Str := (Txt.split (srP x) (Str.ofString "/")).foldl npStep []
noncomputable def jnP (x : Str) : Str := if Txt.startswith x (Str.ofString "/") = true then x else Str.ofString "/r/it's" ++ (Str.ofString "/" ++ x)
noncomputable def plStep (st : List Str) (c : Str) : List Str := if (c == Str.ofString "..") = true then st.dropLast else if ([Str.ofString "", Str.ofString "."].any fun x => x == c) = true then st else st ++ [c]
noncomputable def plInit (x : Str) : List Str := if (Txt.slice x none (some 1) == Str.ofString "/") = true then [] else [Str.ofString "r", Str.ofString "it's"]
noncomputable def plEnd (x : Str) : List Str := (Txt.split x (Str.ofString "/")).foldl plStep (plInit x)
noncomputable def plPlace (x : Str) : Str := (if (Txt.slice x none (some 2) == Str.ofString "//") = true ∧ (Txt.slice x (some 2) (some 3) != Str.ofString "/") = true then Str.ofString "//" else Str.ofString "/") ++ Txt.join (Str.ofString "/") (plEnd x)

end

/-! ## R3 -/
section
theorem srP_le {x c : Str} (e : srP x = c) : c.length ≤ x.length := by
  subst e
  unfold srP
  split
  · exact Nat.le_refl _
  · split
    · exact Txt.slice_le ..
    · split <;> exact Txt.slice_le ..
noncomputable abbrev tup3 (a b c : Value) : Obj := { cls := .type "tuple", data := .seq [a, b, c].toArray }
set_option maxRecDepth 100000 in
set_option maxHeartbeats 8000000 in
theorem splitroot_spec {w : World} {mean : ExcName → Option Value} {mg mb : Str → Option Value}
    {dp un : Nat} {gd : Option (List Code)} {cn : Str} {cs : Scope} {a : Addr} {ccd : Value} {cl : List (Str × Addr)} {outer : List Env} {A₀ : Around} {base h₀ : Heap} {L : Addr} {m : Str → Option Value} {news : List (Addr × Obj)} {s : Shared} {Q E : Value → Shared → Prop} {x : Str} {t : Tok}
    (B : Below A₀ base outer h₀) (F : Fr h₀ L s.heap m) (X : (Mine.hd.heap_1_39 w.params).In h₀) (N : News h₀ L s.heap news) (T : (Top Mine.hd.view_1_40 (looseW Mine.hd.view_1_40 [Str.ofString "check_arg_types_genericpath", Str.ofString "join_posixpath", Str.ofString "_twin_re_1", Str.ofString "UnsupportedOperation", Str.ofString "IOBase", Str.ofString "BufferedIOBase", Str.ofString "TextIOBase", Str.ofString "BytesIO", Str.ofString "StringIO", Str.ofString "check_arg_types_path", Str.ofString "join_path", Str.ofString "shlex", Str.ofString "split", Str.ofString "_find_unsafe"]) mean mg mb h₀)) (hk : cs.kind = .function)
    (hd : dp + 3 < recursionLimit) (hu : un + 24 < cLine) (hx : x.length ≤ 1048576)
    (hret : ∀ (D : Addr) (b c : Str) (t1 t2 t3 : Tok) (h' : Heap) (tk' : Nat), srI x = b → srP x = c → Fr h₀ L h' m → News h₀ L h' ((D, tup3 (.str (Str.ofString "") t1) (.str b t2) (.str c t3)) :: news) → Q (.ref D) { s with heap := h', toks := tk' }) :
    wpAny (model PySem.Challenge.rw_ik0143_01.row.prog w) (ktrTop dp un gd cn cs L a ccd cl outer) (call (.ref 159) [.str x t]) Q E s := by
  refine wpAny_call ?_
  k_dflt (refine' code_defG B F X News.nil T ?kA ?kF ?kK ?k6 ?k7 ?k8 ?k9 ?kB ?_ ?c2 ?c3 ?c4 ?c5; (case kA => exact rfl); (case kF => exact rfl); (case kK => exact hk); (case k6 => k_is); (case k7 => k_is); (case k8 => ktr_room); (case k9 => first | exact BindsTo.of_eq rfl | exact binds_K (by k_in) rfl (by k_is) rfl rfl rfl); (case c5 => decide); (case kB => exact locs rfl); (case c2 => exact rfl); (case c3 => exact rfl); (case c4 => exact rfl); k_whole; intro g' L' h' FG' F' N' B' X' T' kG'; (try (refine Mine.fold_e ?_; intro ev ar qk ek sk)))
  k_steps
  all_goals (refine hret _ _ _ _ _ _ _ _ ?_ ?_ (by k_asm) (news_cons (news_back N (by assumption) (by assumption)) (by k_asm) (by k_mem)))
  all_goals (simp only [srI, srP]; simp only [*, if_true, if_false, Bool.false_eq_true])

end

/-! ## G2 -/
section
open PySem.Calls PySem.Spec
/-- a binding that is seen can be put ahead -/
theorem fr_see {g h : Heap} {L : Addr} {m : Str → Option Value} (F : Fr g L h m) (k : Str) (v : Value) (e : m k = some v) : Fr g L h (fun y => if y = k then some v else m y) := by
  have : (fun y => if y = k then some v else m y) = m := by
    funext y
    by_cases h : y = k
    · subst h; simp [e]
    · simp [h]
  rw [this]; exact F

noncomputable def SeeR (ks : List Str) (f m : Str → Option Value) : Prop := ∀ y, y ∉ ks → f y = m y
theorem see_go {f m : Str → Option Value} (h : SeeR [] f m) : f = m := funext fun y => h y (fun q => nomatch q)
theorem see_cons {ks : List Str} {m f : Str → Option Value} {k : Str} {v : Option Value} (e : m k = v) (r : SeeR (k :: ks) f m) : SeeR ks (fun y => if y = k then v else f y) m := fun y hy => by
  by_cases h : y = k
  · subst h; show (if y = y then v else f y) = _; rw [if_pos rfl, e]
  · show (if y = k then v else f y) = _
    rw [if_neg h]
    exact r y (fun q => by
      rcases List.mem_cons.mp q with q | q
      · exact h q
      · exact hy q)
theorem see_refl {ks : List Str} {f : Str → Option Value} : SeeR ks f f := fun _ _ => rfl
theorem see_off {ks : List Str} {m f : Str → Option Value} {k : Str} {v : Option Value} (hk : k ∈ ks) (r : SeeR ks f m) : SeeR ks f (fun y => if y = k then v else m y) := fun y hy => by
  show _ = if y = k then v else m y
  rw [if_neg (fun (q : y = k) => hy (q ▸ hk))]
  exact r y hy
theorem Fr.eq {g h : Heap} {L : Addr} {m m' : Str → Option Value} (F : Fr g L h m) (e : m' = m) : Fr g L h m' := e ▸ F
theorem sub2 {α : Type} {a b : α} {all : List α} (ha : a ∈ all) (hb : b ∈ all) : ∀ p ∈ [a, b], p ∈ all := by
  intro p hp
  rcases List.mem_cons.mp hp with rfl | hp
  · exact ha
  · rw [List.mem_singleton.mp hp]; exact hb
theorem sub3 {α : Type} {a b c : α} {all : List α} (ha : a ∈ all) (hb : b ∈ all) (hc : c ∈ all) : ∀ p ∈ [a, b, c], p ∈ all := by
  intro p hp
  rcases List.mem_cons.mp hp with rfl | hp
  · exact ha
  · exact sub2 hb hc p hp
theorem sub4 {α : Type} {a b c d : α} {all : List α} (ha : a ∈ all) (hb : b ∈ all) (hc : c ∈ all) (hd : d ∈ all) : ∀ p ∈ [a, b, c, d], p ∈ all := by
  intro p hp
  rcases List.mem_cons.mp hp with rfl | hp
  · exact ha
  · exact sub3 hb hc hd p hp
noncomputable abbrev frMap {g h : Heap} {L : Addr} {m : Str → Option Value} (_F : Fr g L h m) : Str → Option Value := m
theorem ite_yes {c : Prop} [Decidable c] {a b : Prop} (h : c) (ha : a) : ite c a b := by rw [if_pos h]; exact ha
theorem ite_no {c : Prop} [Decidable c] {a b : Prop} (h : ¬ c) (hb : b) : ite c a b := by rw [if_neg h]; exact hb
/-- a goal that the walk leaves alone -/
noncomputable def Keep (P : Prop) : Prop := P
theorem news_sub {h₀ h : Heap} {L : Addr} {all sub : List (Addr × Obj)} (N : News h₀ L h all) (hs : ∀ p ∈ sub, p ∈ all) : News h₀ L h sub := fun p hp => N p (hs p hp)
theorem TurnNext.mk' {h₀ : Heap} {L I : Addr} {oI : Obj} {cst : List (Addr × Obj)} {Inv : (Str → Option Value) → List (Addr × Obj) → Prop} {s : Shared} {h' : Heap} {tk : Nat} {m' : Str → Option Value} {all nx' : List (Addr × Obj)}
    (F : Fr h₀ L h' m') (hI : Inv m' nx') (N : News h₀ L h' all) (hs : ∀ p ∈ (I, oI) :: (nx' ++ cst), p ∈ all) (hne : ∀ p ∈ nx', p.1 ≠ I) : TurnNext h₀ L I oI cst Inv s { s with heap := h', toks := tk } :=
  TurnNext.mk nx' F N hs hne hI

end

/-! ## G13 -/
section
open PySem.Calls PySem.Spec LCg LCt
/-! comprehensions of any length, by an invariant -/
section
variable {prog : Program} {w : World} {A : Around} {E : Value → Shared → Prop} {s : Shared} {h₀ : Heap} {L : Addr} {m : Str → Option Value} {env : Env}
theorem CompEnd.weak {s : Shared} {I C D : Addr} {oI oC oD : Obj} {S : List (Addr × Obj) → Prop} {R R' : Value → List (Addr × Obj) → Prop} {y : Value} {s₂ : Shared} (hy : CompEnd h₀ L m s I oI C oC D oD S R y s₂) (f : ∀ y nw, R y nw → R' y nw) : CompEnd h₀ L m s I oI C oC D oD S R' y s₂ := by
  obtain ⟨h', tk', news', e', F', N', off', hS, r⟩ := hy
  exact ⟨h', tk', news', e', F', N', off', hS, f _ _ r⟩
theorem comp_ind {elt : PySem.Expr} {x : Str} {scope : Scope} {cl : List (Str × Addr)} {S : List (Addr × Obj) → Prop} {P : Nat → Value → Prop} {Fin : List Value → List (Addr × Obj) → Prop} {n : Nat} {news : List (Addr × Obj)}
    (Inv : Nat → List Value → List (Addr × Obj) → Prop) (h0 : Inv 0 [] news)
    (turn : ∀ i ys news v I oI C oC D m₂ h tk (E' : Value → Shared → Prop), i < n → Inv i ys news → P i v → NsObj oC m₂ → m₂ x = some v → Fr h₀ L h m → News h₀ L h ((I, oI) :: (C, oC) :: (D, lst ys) :: news) → Off3 I C D news → ((@Ne Nat I C) ∧ (@Ne Nat I D) ∧ (@Ne Nat C D)) →
      wpAny (model prog w) A (eval elt (compEnvC scope cl C env)) (CompEnd h₀ L m { s with heap := h, toks := tk } I oI C oC D (lst ys) S (fun y news' => Inv (i + 1) (ys ++ [y]) news')) E' { s with heap := h, toks := tk })
    (fin : ∀ ys news, Inv n ys news → Fin ys news) : CompRest prog w A h₀ L m env elt x scope cl s S P Fin n 0 [] news := by
  have key : ∀ k i ys news, i + k = n → Inv i ys news → CompRest prog w A h₀ L m env elt x scope cl s S P Fin k i ys news := by
    intro k
    induction k with
    | zero => intro i ys news e hi; obtain rfl : i = n := by omega
              exact CompRest.zero (fin _ _ hi)
    | succ k ih =>
      intro i ys news e hi
      refine CompRest.succ fun v I oI C oC D m₂ h tk E' hP hC hx F N off ne => ?_
      refine wpAny_mono (turn i ys news v I oI C oC D m₂ h tk E' (by omega) hi hP hC hx F N off ne) (fun y s₂ hy => CompEnd.weak hy fun y nw r => ih (i + 1) _ _ (by omega) r) fun _ _ e => e
  exact key n 0 [] news (by omega) h0
noncomputable def IfEnd (ok : Bool) (T F : Prop) : Prop := if ok = true then T else F
theorem IfEnd.yes {T F : Prop} (t : T) : IfEnd true T F := t
theorem IfEnd.no {T F : Prop} (f : F) : IfEnd false T F := f
theorem IfEnd.of_no {T F : Prop} (h : IfEnd false T F) : F := by unfold IfEnd at h; rwa [if_neg (by decide)] at h
theorem compT_ind {ct elt : PySem.Expr} {x : Str} {scope : Scope} {cl : List (Str × Addr)} {S : List (Addr × Obj) → Prop} {P : Nat → Value → Prop} {Fin : List Value → List (Addr × Obj) → Prop} {n : Nat} {news : List (Addr × Obj)}
    (Inv : Nat → List Value → List (Addr × Obj) → Prop) (h0 : Inv 0 [] news)
    (turn : ∀ i ys news v I oI C oC D m₂ h tk (E' : Value → Shared → Prop), i < n → Inv i ys news → P i v → NsObj oC m₂ → m₂ x = some v → Fr h₀ L h m → News h₀ L h ((I, oI) :: (C, oC) :: (D, lst ys) :: news) → Off3 I C D news → ((@Ne Nat I C) ∧ (@Ne Nat I D) ∧ (@Ne Nat C D)) →
      wpAny (model prog w) A (isTrue ct (compEnvC scope cl C env) (eval ct (compEnvC scope cl C env))) (fun ok s' => IfEnd ok
        (wpAny (model prog w) A (eval elt (compEnvC scope cl C env)) (CompEnd h₀ L m { s with heap := h, toks := tk } I oI C oC D (lst ys) S (fun y news' => Inv (i + 1) (ys ++ [y]) news')) E' s')
        (CompEnd h₀ L m { s with heap := h, toks := tk } I oI C oC D (lst ys) S (fun _ news' => Inv (i + 1) ys news') Value.none s')) E' { s with heap := h, toks := tk })
    (fin : ∀ ys news, Inv n ys news → Fin ys news) : CompRestT prog w A h₀ L m env ct elt x scope cl s S P Fin n 0 [] news := by
  have key : ∀ k i ys news, i + k = n → Inv i ys news → CompRestT prog w A h₀ L m env ct elt x scope cl s S P Fin k i ys news := by
    intro k
    induction k with
    | zero => intro i ys news e hi; obtain rfl : i = n := by omega
              exact CompRestT.zero (fin _ _ hi)
    | succ k ih =>
      intro i ys news e hi
      refine CompRestT.succ fun v I oI C oC D m₂ h tk E' hP hC hx F N off ne => ?_
      refine wpAny_mono (turn i ys news v I oI C oC D m₂ h tk E' (by omega) hi hP hC hx F N off ne) (fun ok s₂ hy => ?_) fun _ _ e => e
      have up : ∀ ys' nw, Inv (i + 1) ys' nw → CompRestT prog w A h₀ L m env ct elt x scope cl s S P Fin k (i + 1) ys' nw := fun ys' nw r => ih (i + 1) ys' nw (by omega) r
      cases ok with
      | true => exact wpAny_mono (show wpAny _ _ _ _ _ _ from hy) (fun y s₃ hz => CompEnd.weak hz fun y nw r => up _ nw r) fun _ _ e => e
      | false => exact CompEnd.weak (IfEnd.of_no hy) fun y nw r => up _ nw r
  exact key n 0 [] news (by omega) h0
/-- the same, for a ledger that stays -/
theorem comp_fix {elt : PySem.Expr} {x : Str} {scope : Scope} {cl : List (Str × Addr)} {S : List (Addr × Obj) → Prop} {P : Nat → Value → Prop} {Fin : List Value → List (Addr × Obj) → Prop} {n : Nat} {news : List (Addr × Obj)} (Inv : Nat → List Value → Prop) (h0 : Inv 0 [])
    (turn : ∀ i ys v I oI C oC D m₂ h tk (E' : Value → Shared → Prop), i < n → Inv i ys → P i v → NsObj oC m₂ → m₂ x = some v → Fr h₀ L h m → News h₀ L h ((I, oI) :: (C, oC) :: (D, lst ys) :: news) → Off3 I C D news → ((@Ne Nat I C) ∧ (@Ne Nat I D) ∧ (@Ne Nat C D)) →
      wpAny (model prog w) A (eval elt (compEnvC scope cl C env)) (CompEnd h₀ L m { s with heap := h, toks := tk } I oI C oC D (lst ys) S (fun y nw => nw = news ∧ Inv (i + 1) (ys ++ [y]))) E' { s with heap := h, toks := tk })
    (fin : ∀ ys, Inv n ys → Fin ys news) : CompRest prog w A h₀ L m env elt x scope cl s S P Fin n 0 [] news :=
  comp_ind (fun i ys nw => nw = news ∧ Inv i ys) ⟨rfl, h0⟩ (by rintro i ys _ v I oI C oC D m₂ h tk E' hi ⟨rfl, q⟩ a b c d e f g; exact turn i ys v I oI C oC D m₂ h tk E' hi q a b c d e f g) (by rintro ys _ ⟨rfl, q⟩; exact fin ys q)
theorem compT_fix {ct elt : PySem.Expr} {x : Str} {scope : Scope} {cl : List (Str × Addr)} {S : List (Addr × Obj) → Prop} {P : Nat → Value → Prop} {Fin : List Value → List (Addr × Obj) → Prop} {n : Nat} {news : List (Addr × Obj)} (Inv : Nat → List Value → Prop) (h0 : Inv 0 [])
    (turn : ∀ i ys v I oI C oC D m₂ h tk (E' : Value → Shared → Prop), i < n → Inv i ys → P i v → NsObj oC m₂ → m₂ x = some v → Fr h₀ L h m → News h₀ L h ((I, oI) :: (C, oC) :: (D, lst ys) :: news) → Off3 I C D news → ((@Ne Nat I C) ∧ (@Ne Nat I D) ∧ (@Ne Nat C D)) →
      wpAny (model prog w) A (isTrue ct (compEnvC scope cl C env) (eval ct (compEnvC scope cl C env))) (fun ok s' => IfEnd ok
        (wpAny (model prog w) A (eval elt (compEnvC scope cl C env)) (CompEnd h₀ L m { s with heap := h, toks := tk } I oI C oC D (lst ys) S (fun y nw => nw = news ∧ Inv (i + 1) (ys ++ [y]))) E' s')
        (CompEnd h₀ L m { s with heap := h, toks := tk } I oI C oC D (lst ys) S (fun _ nw => nw = news ∧ Inv (i + 1) ys) Value.none s')) E' { s with heap := h, toks := tk })
    (fin : ∀ ys, Inv n ys → Fin ys news) : CompRestT prog w A h₀ L m env ct elt x scope cl s S P Fin n 0 [] news :=
  compT_ind (fun i ys nw => nw = news ∧ Inv i ys) ⟨rfl, h0⟩ (by rintro i ys _ v I oI C oC D m₂ h tk E' hi ⟨rfl, q⟩ a b c d e f g; exact turn i ys v I oI C oC D m₂ h tk E' hi q a b c d e f g) (by rintro ys _ ⟨rfl, q⟩; exact fin ys q)
/-- a list that the iterable has given: its ground is met only then (reading it may have turned the ground) -/
inductive ListMet (prog : Program) (w : World) (A : Around) (env : Env) (elt : PySem.Expr) (x : Str) (scope : Scope) (cl : List (Str × Addr)) (Q : Value → Shared → Prop) : Value → Shared → Prop
  | intro (h₀ : Heap) (L : Addr) (m : Str → Option Value) (ax : Addr) (its : Array Value) (k : Nat) (news : List (Addr × Obj)) (s₁ : Shared) (hh : A.handled = none) (F : Fr h₀ L s₁.heap m) (N : News h₀ L s₁.heap news) (hm : (ax, ({ cls := .type "list", data := .seq its k } : Obj)) ∈ news) (hsz : its.size ≤ sizeLine)
    (R : ∀ g, CompRest prog w A h₀ L m env elt x scope cl { s₁ with heap := g } (SrcAt h₀ ax its) (fun i v => its[i]? = some v) (FinE h₀ L m { s₁ with heap := g } Q) its.size 0 [] news) : ListMet prog w A env elt x scope cl Q (.ref ax) s₁
theorem ListComp_L {elt iter : PySem.Expr} {x : Str} {px : Pos} {scope : Scope} {cl : List (Str × Addr)} {pos : Pos} {Q : Value → Shared → Prop} (c1 : closureFor scope env = pure cl) (c2 : ∀ y ∈ scope.names, y.2 ≠ .cell) (c3 : scope.kind = .function)
    (c4 : ∀ y ∈ scope.names, y.2 = .local → scope.names.lookup y.1 = some .local) (c5 : scope.names.lookup x = some .local) (c6 : ∀ y, foldedSetIterable iter env y = pure y) (h : wpAny (model prog w) A (eval iter env) (fun v s₁ => Keep (ListMet prog w A env elt x scope cl Q v s₁)) E s) :
    wpAny (model prog w) A (eval (.ListComp elt [⟨.Name x px, iter, [], 0⟩] scope pos) env) Q E s := by
  rw [eval_ListComp]
  refine wpAny_comprehension_free (use := none) rfl c6 c1 c3 c4 (wpAny_mono h ?_ fun _ _ e => e)
  rintro _ s₁ ⟨h₀, L, m, ax, its, k, news, _, hh, F, N, hm, hsz, R⟩
  have src : SrcAt h₀ ax its news := .inr ⟨_, hm, rfl, k, rfl⟩
  have la : s₁.heap.IsList ax its := src.list F.keep N
  have alt : ax < s₁.heap.objs.size := Heap.lt_size (N _ hm).1
  refine wpAny_pyIter_list la ?_
  have W := Walks.list (prog := prog) (w := w) hh s₁.heap.objs.size ax (Nat.ne_of_lt alt) its
  refine block_U W hsz ?io list_st c2 c3 c5 ⟨⟨_, Heap.get?_push_size _ rfl, rfl, rfl⟩, la.push _⟩ ?low (F.push _) (N.grown fun _ _ e => Heap.get?_push_of_some _ e) (Nat.ne_of_lt F.ns.lt) (next_is_new F) (fun p hp => Nat.ne_of_lt (Heap.lt_size (N p hp).1)) src (R _) ?fin
  case io =>
    rintro i h ⟨⟨o, e, -⟩, -⟩
    exact ⟨o, e⟩
  case low =>
    intro b hb
    rw [Heap.size_push]
    rcases List.mem_cons.mp hb with rfl | hb
    · exact Nat.lt_succ_self _
    · exact List.mem_singleton.mp hb ▸ Nat.lt_succ_of_lt alt
  case fin =>
    intro D C h tk m' ys nw F' N' o1 hn c0 _ cL _ dC off fin
    exact ⟨m', hn, fun h'' b => fin D h'' tk (F'.change b cL c0) (fun p hp => ⟨b.extBut _ _ ((List.mem_cons.mp hp).elim (fun e => e ▸ Ne.symm dC) (off p)) (N' p hp).1, (N' p hp).2⟩) o1⟩
theorem strs_snoc {ys : List Value} {ss : List Str} {f : Str → Str} {i : Nat} {c : Str} {t : Tok} (h : StrsAre ys ((ss.take i).map f)) (hc : ss[i]? = some c) : StrsAre (ys ++ [.str (f c) t]) ((ss.take (i + 1)).map f) := by
  rw [List.take_add_one, hc]
  show StrsAre _ ((ss.take i ++ [c]).map f)
  rw [List.map_append]
  exact h.append' (.cons _ _ .nil)
end

end

/-! ## G14 -/
section
open PySem.Calls PySem.Spec LCg LCt
theorem small_up {a b : Int} (ha : -(2 ^ 62) ≤ a) (ha' : a < 2 ^ 62) (hb : -(2 ^ 62) ≤ b) (hb' : b < 2 ^ 62) : Builtin.Range.small a b 1 = true := by
  unfold Builtin.Range.small
  rw [rangeSize_one]
  simp only [Builtin.Range.rangeFitsLong, Bool.and_eq_true, Bool.or_eq_true, decide_eq_true_eq, beq_iff_eq, show ((1 : Int) > 0) by decide, if_true]
  split <;> omega
/-! the kit's comprehension rules, their source kept for the hand -/
section
variable {prog : Program} {w : World} {A : Around} {E : Value → Shared → Prop} {s : Shared} {h₀ : Heap} {L : Addr} {m : Str → Option Value} {env : Env}
theorem ListComp_V {elt iter : PySem.Expr} {x : Str} {px : Pos} {scope : Scope} {cl : List (Str × Addr)} {pos : Pos} {Q : Value → Shared → Prop} (F₀ : Fr h₀ L s.heap m)
    (hclos : closureFor scope env = pure cl) (hcell : ∀ z ∈ scope.names, z.2 ≠ .cell) (hkind : scope.kind = .function)
    (hnames : ∀ z ∈ scope.names, z.2 = .local → scope.names.lookup z.1 = some .local) (hx : scope.names.lookup x = some .local)
    (h : wpAny (model prog w) A (eval iter env) (fun xv s₁ => Keep (CompSrc prog w A h₀ L m env elt x scope cl (fun s₂ => FinE h₀ L m s₂ Q) xv s₁)) E s)
    (hs : ∀ x, foldedSetIterable iter env x = pure x) :
    wpAny (model prog w) A (eval (.ListComp elt [⟨.Name x px, iter, [], 0⟩] scope pos) env) Q E s := ListComp_U F₀ hclos hcell hkind hnames hx h hs
theorem Assign_ListComp_V {elt iter : PySem.Expr} {x y : Str} {px py : Pos} {scope : Scope} {cl : List (Str × Addr)} {pos spos : Pos} {Q : Flow → Shared → Prop} (F₀ : Fr h₀ L s.heap m) (hLe : env.locals = L)
    (hsw : swapsWith (.ListComp elt [⟨.Name x px, iter, [], 0⟩] scope pos) (some (.Name y py)) spos.line env = pure true)
    (hclos : closureFor scope env = pure cl) (hcell : ∀ z ∈ scope.names, z.2 ≠ .cell) (hkind : scope.kind = .function)
    (hnames : ∀ z ∈ scope.names, z.2 = .local → scope.names.lookup z.1 = some .local) (hx : scope.names.lookup x = some .local)
    (hy : env.kindOf y = some .local) (hp : (env.scope.kind == .class || (env.scope.kind == .module && env.locals != env.globals)) = false)
    (h : wpAny (model prog w) A (eval iter env) (fun xv s₁ => Keep (CompSrc prog w A h₀ L m env elt x scope cl (fun s₂ => FinA h₀ L m s₂ y Q) xv s₁)) E s)
    (hs : ∀ x, foldedSetIterable iter env x = pure x) :
    wpAny (model prog w) A (exec (.Assign [.Name y py] (.ListComp elt [⟨.Name x px, iter, [], 0⟩] scope pos) spos) env) Q E s := Assign_ListComp_U F₀ hLe hsw hclos hcell hkind hnames hx hy hp h hs
theorem ListComp_TV {ct elt iter : PySem.Expr} {x : Str} {px : Pos} {scope : Scope} {cl : List (Str × Addr)} {pos : Pos} {Q : Value → Shared → Prop} (F₀ : Fr h₀ L s.heap m)
    (hclos : closureFor scope env = pure cl) (hcell : ∀ z ∈ scope.names, z.2 ≠ .cell) (hkind : scope.kind = .function)
    (hnames : ∀ z ∈ scope.names, z.2 = .local → scope.names.lookup z.1 = some .local) (hx : scope.names.lookup x = some .local)
    (h : wpAny (model prog w) A (eval iter env) (fun xv s₁ => Keep (CompSrcT prog w A h₀ L m env ct elt x scope cl (fun s₂ => FinE h₀ L m s₂ Q) xv s₁)) E s)
    (hs : ∀ x, foldedSetIterable iter env x = pure x) :
    wpAny (model prog w) A (eval (.ListComp elt [⟨.Name x px, iter, [ct], 0⟩] scope pos) env) Q E s := ListComp_T F₀ hclos hcell hkind hnames hx h hs
theorem Assign_ListComp_TV {ct elt iter : PySem.Expr} {x y : Str} {px py : Pos} {scope : Scope} {cl : List (Str × Addr)} {pos spos : Pos} {Q : Flow → Shared → Prop} (F₀ : Fr h₀ L s.heap m) (hLe : env.locals = L)
    (hsw : swapsWith (.ListComp elt [⟨.Name x px, iter, [ct], 0⟩] scope pos) (some (.Name y py)) spos.line env = pure true)
    (hclos : closureFor scope env = pure cl) (hcell : ∀ z ∈ scope.names, z.2 ≠ .cell) (hkind : scope.kind = .function)
    (hnames : ∀ z ∈ scope.names, z.2 = .local → scope.names.lookup z.1 = some .local) (hx : scope.names.lookup x = some .local)
    (hy : env.kindOf y = some .local) (hp : (env.scope.kind == .class || (env.scope.kind == .module && env.locals != env.globals)) = false)
    (h : wpAny (model prog w) A (eval iter env) (fun xv s₁ => Keep (CompSrcT prog w A h₀ L m env ct elt x scope cl (fun s₂ => FinA h₀ L m s₂ y Q) xv s₁)) E s)
    (hs : ∀ x, foldedSetIterable iter env x = pure x) :
    wpAny (model prog w) A (exec (.Assign [.Name y py] (.ListComp elt [⟨.Name x px, iter, [ct], 0⟩] scope pos) spos) env) Q E s := Assign_ListComp_T F₀ hLe hsw hclos hcell hkind hnames hx hy hp h hs
end

end

/-! ## G3 -/
section
open PySem.Calls PySem.Spec
section
variable {prog : Program} {w : World} {A : Around} {E : Value → Shared → Prop} {s : Shared} {h₀ : Heap} {L l D a b : Addr} {m : Str → Option Value} {news news' : List (Addr × Obj)} {value slice : PySem.Expr} {vs ws : List Value} {ss rs ms : List Str} {vl vu : Value} {lo hi : Option Int} {x y : Int} {n : Nat} {Q : Value → Shared → Prop}
theorem st_lt (hi' : StrsAre vs ss) (hz : ss.length ≤ sizeLine) : (vs.toArray.size : Int) < 2 ^ 63 := by
  rw [List.size_toArray, hi'.length]; rw [sizeLine_eq] at hz; omega
theorem le_size {n : Nat} (h : n ≤ 1000) : n ≤ sizeLine := Nat.le_trans h (by rw [sizeLine_eq]; decide)
theorem st_size (hi' : StrsAre vs ss) (hz : ss.length ≤ sizeLine) : vs.toArray.size ≤ sizeLine := by
  rw [List.size_toArray, hi'.length]; exact hz
theorem st_add (F : Fr h₀ L s.heap m) (N : News h₀ L s.heap news) (ha : s.heap.IsList a vs.toArray) (hb : s.heap.IsList b ws.toArray) (hi : StrsAre vs ss) (hj : StrsAre ws rs)
    (h : ∀ D us h', Fr h₀ L h' m → News h₀ L h' ((D, listOf (List.toArray us) 0) :: news) → (∀ p ∈ news, p.1 < D) → StrsAre us (ss ++ rs) → Q (.ref D) { s with heap := h' })
    (hz : ss.length + rs.length ≤ sizeLine) : wpAny (model prog w) A (binaryOp .Add (.ref a) (.ref b)) Q E s :=
  kmk_add_lit F N ha hb rfl (fun D h' F' N' l1 => h D _ h' F' N' l1 (StrsAre.append' hi hj)) (by simpa [hi.length, hj.length] using hz)
theorem st_slice (F : Fr h₀ L s.heap m) (N : News h₀ L s.heap news) (hl : s.heap.IsList l vs.toArray) (pl : IsPart vl lo) (pu : IsPart vu hi) (hi' : StrsAre vs ss) (hm : StrsAre (slicePick vs.toArray lo hi none).toList ms)
    (h : ∀ D ws h', Fr h₀ L h' m → News h₀ L h' ((D, listOf (List.toArray ws) 0) :: news) → (∀ p ∈ news, p.1 < D) → StrsAre ws ms → Q (.ref D) { s with heap := h' })
    (hs : subscripted slice false (.ref l) (.ref s.heap.objs.size) = operate [.ref s.heap.objs.size, .ref l] (getItem (.ref l) (.ref s.heap.objs.size))) (ht : ∀ r, letTemporaryGo value (.ref l) r = pure ()) (hz : ss.length ≤ sizeLine) :
    wpAny (model prog w) A (subscriptTail value slice (.ref l) (.ref s.heap.objs.size)) Q E { s with heap := s.heap.push { cls := .type "slice", data := .fields #[vl, vu, .none] } } :=
  kmk_slice_lit F N hl pl pu rfl (fun D h' F' N' l1 => h D _ h' F' N' l1 hm) hs ht (st_size hi' hz)
theorem st_upto (hi' : StrsAre vs ss) (h : 0 ≤ y) : StrsAre (slicePick vs.toArray none (some y) none).toList (ss.take y.toNat) := by
  obtain ⟨k, rfl⟩ := Int.eq_ofNat_of_zero_le h
  rw [slicePick_upto']
  exact hi'.take' _
theorem st_from (hi' : StrsAre vs ss) (h : 0 ≤ x) : StrsAre (slicePick vs.toArray (some x) none none).toList (ss.drop x.toNat) := by
  obtain ⟨k, rfl⟩ := Int.eq_ofNat_of_zero_le h
  rw [slicePick_from']
  exact hi'.drop' _
theorem st_but1 (hi' : StrsAre vs ss) : StrsAre (slicePick vs.toArray none (some (-1)) none).toList ss.dropLast := by
  rw [show (-1 : Int) = -((1 : Nat) : Int) from rfl, slicePick_butLast _ 1 (Nat.le_refl _)]
  show StrsAre (vs.take (vs.toArray.size - 1)) _
  rw [List.size_toArray, hi'.length, List.dropLast_eq_take]
  exact hi'.take' _
theorem st_append {c : Str} {t : Tok} (F : Fr h₀ L s.heap m) (N : News h₀ L s.heap news) (U : Upd D (listOf vs.toArray n) (listOf (vs ++ [Value.str c t]).toArray (n + 1)) news news') (hi' : StrsAre vs ss)
    (h : ∀ h', Fr h₀ L h' m → News h₀ L h' news' → StrsAre (vs ++ [Value.str c t]) (ss ++ [c]) → Q .none { s with heap := h' }) (hz : ss.length ≤ sizeLine) : wpAny (model prog w) A (call (.builtin "list.append") [.ref D, .str c t]) Q E s :=
  append_K (its := vs.toArray) (n := n) F N (by rw [List.push_toArray]; exact U) (fun h' F' N' => h h' F' N' (hi'.append' (.cons _ _ .nil))) (hsz := st_size hi' hz)
theorem st_last {us : List Value} {l : List Str} (h : StrsAre us l) : l ≠ [] → ∃ c t, us = us.dropLast ++ [Value.str c t] ∧ l = l.dropLast ++ [c] ∧ StrsAre us.dropLast l.dropLast := by
  induction h with
  | nil => exact fun e => absurd rfl e
  | cons c t r ih =>
    intro _
    cases r with
    | nil => exact ⟨c, t, rfl, rfl, .nil⟩
    | cons c' t' r' =>
      obtain ⟨d, u, h1, h2, h3⟩ := ih (List.cons_ne_nil _ _)
      exact ⟨d, u, congrArg (List.cons (Value.str c t)) h1, congrArg (List.cons c) h2, .cons c t h3⟩
theorem st_pop (F : Fr h₀ L s.heap m) (N : News h₀ L s.heap news) (U : Upd D (listOf vs.toArray n) (listOf vs.dropLast.toArray (n + 1)) news news') (hi : StrsAre vs ss) (hne : ss ≠ [])
    (hz : ss.length ≤ sizeLine) (h : ∀ h' c t, ss = ss.dropLast ++ [c] → Fr h₀ L h' m → News h₀ L h' news' → StrsAre vs.dropLast ss.dropLast → Q (.str c t) { s with heap := h' }) : wpAny (model prog w) A (call (.builtin "list.pop") [.ref D]) Q E s := by
  obtain ⟨c, t, h1, h2, h3⟩ := st_last hi hne
  refine kl_pop F N (p := vs.dropLast) (y := .str c t) ?_ U (by show vs.length ≤ _; rw [hi.length]; exact hz) fun h' F' N' => h h' c t h2 F' N' h3
  have e := kpa_last (.str c t) vs.dropLast
  rw [← h1] at e
  simpa using e
theorem st_truthy {Q : Bool → Shared → Prop} (hl : s.heap.IsList l vs.toArray) (hi : StrsAre vs ss) (hz : ss.length ≤ sizeLine) (h0 : ss = [] → ∀ k, Q false { s with toks := k }) (h1 : ss ≠ [] → ∀ k, Q true { s with toks := k }) : wpAny (model prog w) A (truthy (.ref l)) Q E s := by
  refine wpAny_truthy_list hl (st_lt hi hz) ?_
  cases hi with
  | nil => exact h0 rfl _
  | cons c t r => exact h1 (by simp) _
theorem str_truthy {x : Str} {t : Tok} {Q : Bool → Shared → Prop} (hx : x.length ≠ 0) (hz : x.length ≤ 1048576) (h : ∀ k, Q true { s with toks := k }) : wpAny (model prog w) A (truthy (.str x t)) Q E s :=
  KXt.truthy_pos (by omega) hz (by decide) h
theorem st_neg1 {u : Tok} (hl : s.heap.IsList l vs.toArray) (hi : StrsAre vs ss) (hne : ss ≠ []) (h : ∀ c t, ss = ss.dropLast ++ [c] → Q (.str c t) s)
    (hs : subscripted slice false (.ref l) (.int (-1) u) = operate [.ref l, .int (-1) u] (getItem (.ref l) (.int (-1) u))) :
    wpAny (model prog w) A (subscriptTail value slice (.ref l) (.int (-1) u)) Q E s := by
  obtain ⟨c, t, h1, h2, h3⟩ := st_last hi hne
  have hv : 0 < vs.length := by rw [h1]; simp
  refine kde_neg (j := vs.length - 1) hl (by decide) (by decide) ?_ (v := .str c t) ?_ (h c t h2) hs
  · unfold seqIndex?; simp; omega
  · rw [h1]; simp
theorem st_item {i : Int} {u : Tok} (hl : s.heap.IsList l vs.toArray) (hi : StrsAre vs ss) (h0 : 0 ≤ i) (h1 : i < (ss.length : Int)) (hz : ss.length ≤ sizeLine) (h : ∀ c t, ss[i.toNat]? = some c → Q (.str c t) s)
    (hs : subscripted slice false (.ref l) (.int i u) = operate [.ref l, .int i u] (getItem (.ref l) (.int i u))) :
    wpAny (model prog w) A (subscriptTail value slice (.ref l) (.int i u)) Q E s := by
  have hlt : i.toNat < ss.length := by omega
  obtain ⟨t', e⟩ := hi.get i.toNat ss[i.toNat] (List.getElem?_eq_getElem hlt)
  exact tail_any hl.typeIs slot_list_getitem.lookup (wpAny_getItem_list hl h0 (by rw [sizeLine_eq] at hz; omega) (x := .str _ t') (by simpa using e) (h _ t' (List.getElem?_eq_getElem hlt))) hs
theorem st_itemN {i : Nat} {u : Tok} (hl : s.heap.IsList l vs.toArray) (hi : StrsAre vs ss) (h1 : i < ss.length) (hz : ss.length ≤ 1000) (h : ∀ c t, ss[i]? = some c → Q (.str c t) s)
    (hs : subscripted slice false (.ref l) (.int (i : Int) u) = operate [.ref l, .int (i : Int) u] (getItem (.ref l) (.int (i : Int) u))) :
    wpAny (model prog w) A (subscriptTail value slice (.ref l) (.int (i : Int) u)) Q E s :=
  st_item hl hi (Int.natCast_nonneg i) (Int.ofNat_lt.mpr h1) (le_size hz) (fun c t e => h c t (by rwa [Int.toNat_natCast] at e)) hs
theorem out_le {i : Nat} (hi : StrsAre vs ss) (hn : ¬ i < ss.length) : (vs.toArray.size : Int) ≤ (i : Int) := by rw [List.size_toArray, hi.length]; omega
theorem nat_63 {i n : Nat} (h : i ≤ n) (hz : n ≤ 1000) : (i : Int) < 2 ^ 63 := by omega
theorem st_out {i : Nat} {u : Tok} (hh : A.handled = none) (hl : s.heap.IsList l vs.toArray) (hi : StrsAre vs ss) (hn : ¬ i < ss.length) (hle : i ≤ ss.length) (hz : ss.length ≤ 1000) (h : ∀ h' tk e, Heap.NewExc s.heap h' e "IndexError" → E (.ref e) { s with heap := h', toks := tk })
    (hs : subscripted slice false (.ref l) (.int (i : Int) u) = operate [.ref l, .int (i : Int) u] (getItem (.ref l) (.int (i : Int) u))) : wpAny (model prog w) A (subscriptTail value slice (.ref l) (.int (i : Int) u)) Q E s :=
  item_outK hh hl (Or.inr (out_le hi hn)) (by omega) (nat_63 hle hz) h hs
end

end

/-! ## G16 -/
section
open PySem.Calls PySem.Spec
section
variable {prog : Program} {w : World} {A : Around} {E : Value → Shared → Prop} {s : Shared} {h₀ : Heap} {L D b : Addr} {m : Str → Option Value} {news : List (Addr × Obj)} {vs ws : List Value} {ss rs : List Str} {n n2 : Nat}
theorem upd_sub {d : Addr} {o o1 o2 : Obj} {l l1 l2 : List (Addr × Obj)} (U1 : Upd d o o1 l l1) (U2 : Upd d o o2 l l2) {h : Heap} (N : News h₀ L h l1) (e : o1 = o2) : News h₀ L h l2 := by
  subst e
  obtain ⟨p1, q1, e1, e2, a1, c1⟩ := U1.split
  obtain ⟨p2, q2, e3, e4, a2, c2⟩ := U2.split
  subst e2 e4
  intro p hp
  by_cases hd : p.1 = d
  · have : p = (d, o1) := by
      rcases List.mem_append.mp hp with hp | hp
      · exact absurd hd (a2 p hp)
      · rcases List.mem_cons.mp hp with rfl | hp
        · rfl
        · exact absurd hd (c2 p hp)
    rw [this]
    exact N _ (List.mem_append_right _ (List.mem_cons_self ..))
  · have hl : p ∈ l := by
      rw [e3]
      rcases List.mem_append.mp hp with hp | hp
      · exact List.mem_append_left _ hp
      · rcases List.mem_cons.mp hp with rfl | hp
        · exact absurd rfl hd
        · exact List.mem_append_right _ (List.mem_cons_of_mem _ hp)
    rw [e1] at hl
    refine N p ?_
    rcases List.mem_append.mp hl with hl | hl
    · exact List.mem_append_left _ hl
    · rcases List.mem_cons.mp hl with rfl | hl
      · exact absurd rfl hd
      · exact List.mem_append_right _ (List.mem_cons_of_mem _ hl)
theorem st_extend {news' : Nat → List (Addr × Obj)} {Q : Value → Shared → Prop} (F : Fr h₀ L s.heap m) (N : News h₀ L s.heap news) (hb : (b, listOf ws.toArray n2) ∈ news) (U : ∀ k, Upd D (listOf vs.toArray n) (listOf (vs ++ ws).toArray k) news (news' k))
    (hi : StrsAre vs ss) (hj : StrsAre ws rs) (hz : ss.length + rs.length ≤ sizeLine) (h : ∀ h' k, Fr h₀ L h' m → News h₀ L h' (news' k) → StrsAre (vs ++ ws) (ss ++ rs) → Q .none { s with heap := h' }) :
    wpAny (model prog w) A (call (.builtin "list.extend") [.ref D, .ref b]) Q E s := by
  obtain ⟨pre, post, rfl, e, a, c⟩ := (U 0).split
  refine extend_in F N a c (N _ hb).1 (fun h' k F' N' => h h' k F' ?_ (hi.append' hj)) (by rw [List.size_toArray, hi.length, hj.length]; exact hz)
  have U2 : Upd D (listOf vs.toArray n) (listOf (vs ++ ws).toArray k) (pre ++ (D, listOf vs.toArray n) :: post) (pre ++ (D, listOf (vs ++ ws).toArray k) :: post) := by
    clear N N' hb U e
    induction pre with
    | nil => exact Upd.head c
    | cons p r ih => exact Upd.tail (a p (List.mem_cons_self ..)) (ih fun q hq => a q (List.mem_cons_of_mem _ hq))
  refine upd_sub U2 (U k) ?_ rfl
  simpa using N'
end

end

/-! ## G17 -/
section
open PySem.Calls PySem.Spec
theorem rm_at {x : Str} : ∀ {vs : List Value} {ss : List Str}, StrsAre vs ss → x ∈ ss → ∃ j, ∃ hj : j < vs.length, isStrOf x vs[j] = true ∧ (∀ i (hi : i < vs.length), i < j → isStrOf x vs[i] = false) ∧ StrsAre (vs.eraseIdx j) (ss.erase x)
  | _, _, .nil, h => nomatch h
  | _, _, .cons (vs := vs) (ys := ss) y t r, h => by
    by_cases e : (y == x) = true
    · refine ⟨0, by simp, e, fun i _ q => absurd q (Nat.not_lt_zero i), ?_⟩
      rw [List.eraseIdx_cons_zero]
      have := eq_of_beq e
      subst this
      rw [List.erase_cons_head]; exact r
    · have hne : y ≠ x := fun q => e (by rw [q]; exact beq_self_eq_true _)
      have hm : x ∈ ss := by
        rcases List.mem_cons.mp h with q | q
        · exact absurd q.symm hne
        · exact q
      obtain ⟨j, hj, h1, h2, h3⟩ := rm_at r hm
      refine ⟨j + 1, by simp; omega, by simpa using h1, fun i hi hlt => ?_, ?_⟩
      · cases i with
        | zero => show (y == x) = false; simpa using e
        | succ i => simpa using h2 i (by simpa using hi) (by omega)
      · rw [List.eraseIdx_cons_succ, List.erase_cons_tail (by simpa using e)]
        exact .cons _ _ h3
theorem rm_none {x : Str} {vs : List Value} {ss : List Str} (h : StrsAre vs ss) (hx : x ∉ ss) : ∀ i (hi : i < vs.length), isStrOf x vs[i] = false := by
  intro i hi
  have h1 : vs.any (isStrOf x) = false := by
    rw [any_isStrOf x h, List.any_eq_false]
    intro y hy q
    exact hx (by rw [← eq_of_beq q]; exact hy)
  rw [List.any_eq_false] at h1
  simpa using h1 _ (List.getElem_mem hi)
section
variable {prog : Program} {w : World} {A : Around} {E : Value → Shared → Prop} {s : Shared} {h₀ : Heap} {L D : Addr} {m : Str → Option Value} {news : List (Addr × Obj)} {vs : List Value} {ss : List Str} {n : Nat} {x : Str} {t : Tok} {Q : Value → Shared → Prop}
theorem st_remove {news' : List Value → List (Addr × Obj)} (F : Fr h₀ L s.heap m) (N : News h₀ L s.heap news) (hi : StrsAre vs ss) (hx : x ∈ ss) (U : ∀ us, Upd D (listOf vs.toArray n) (listOf us.toArray (n + 1)) news (news' us)) (hz : ss.length ≤ sizeLine)
    (h : ∀ h' us, Fr h₀ L h' m → News h₀ L h' (news' us) → StrsAre us (ss.erase x) → Q .none { s with heap := h' }) : wpAny (model prog w) A (call (.builtin "list.remove") [.ref D, .str x t]) Q E s := by
  obtain ⟨j, hj, h1, h2, h3⟩ := rm_at hi hx
  obtain ⟨pre, post, rfl, e, a, b⟩ := (U (vs.eraseIdx j)).split
  have z := N (D, listOf vs.toArray n) (List.mem_append.mpr (.inr (.head _)))
  refine call_meets PySem.F.slot_list_remove ⟨_, z.1, rfl⟩ PySem.F.entry_list_remove (PySem.F.args_list_remove_2 _ _)
    (MeetsSeq.list_remove D vs.toArray n (.str x t) (isStrOf x) (fun y hy => eq_isStrOf x t hi y (by simpa using hy)) j (by simpa using hj) (by simpa using h1) (fun i hi' hlt => by simpa using h2 i (by simpa using hi') hlt) (by rw [List.size_toArray, hi.length]; exact hz))
    ⟨z.1, h _ (vs.eraseIdx j) (F.change (Heap.SameBut.update ..) z.2.1 z.2.2) ?_ h3⟩
  rw [e]
  refine kl_turn _ N a b ?_ ?_
  · simp [Array.eraseIdxIfInBounds, hj]
  · rw [List.size_toArray, List.size_toArray, List.length_eraseIdx]
    simp [hj]; omega
theorem st_remove_none (hA : A.handled = none) (N : News h₀ L s.heap news) (hm : (D, listOf vs.toArray n) ∈ news) (hi : StrsAre vs ss) (hx : x ∉ ss)
    (h : ∀ h' tk e, Heap.NewExc s.heap h' e "ValueError" → E (.ref e) { s with heap := h', toks := tk }) : wpAny (model prog w) A (call (.builtin "list.remove") [.ref D, .str x t]) Q E s :=
  call_meets PySem.F.slot_list_remove ⟨_, (N _ hm).1, rfl⟩ PySem.F.entry_list_remove (PySem.F.args_list_remove_2 _ _)
    (MeetsSeq.list_remove_none D vs.toArray n (.str x t) (isStrOf x) (fun y hy => eq_isStrOf x t hi y (by simpa using hy)) (fun i hi' => by simpa using rm_none hi hx i (by simpa using hi')))
    ⟨(N _ hm).1, hA, h⟩
end

end

/-! ## G18 -/
section
open PySem.Calls PySem.Spec
section
variable {prog : Program} {w : World} {A : Around} {E : Value → Shared → Prop} {s : Shared} {h₀ : Heap} {L : Addr} {m : Str → Option Value} {news : List (Addr × Obj)} {vs : List Value} {ss : List Str} {l : Addr} {Q : Value → Shared → Prop}
theorem st_sorted (F : Fr h₀ L s.heap m) (N : News h₀ L s.heap news) (hl : s.heap.IsList l vs.toArray) (hS : StrsAre vs ss) (h64 : ss.length < 64)
    (h : ∀ D h' vs' ss' k, Fr h₀ L h' m → News h₀ L h' ((D, listOf (List.toArray vs') k) :: news) → (∀ p ∈ news, p.1 < D) → StrsAre vs' ss' → ss'.Perm ss → sortedS ss' = true → Q (.ref D) { s with heap := h' }) :
    wpAny (model prog w) A (call (.builtin "sorted") [.ref l]) Q E s :=
  sorted_N_str F N hl hS (by rw [hS.length]; exact h64) fun h' vs' ss' e F' N' a b c => h _ h' vs' ss' e F' N' (fun p hp => Nat.lt_succ_of_lt (Heap.lt_size (N p hp).1)) a b c
end

end

/-! ## G19 -/
section
open PySem.Calls PySem.Spec LCg LCt
/-! a comprehension over a range, with one test, whose name is kept in a cell (an inner comprehension reads it) -/
theorem ifEnd_no {T F : Prop} (h : IfEnd false T F) : F := by unfold IfEnd at h; rwa [if_neg (by decide)] at h
section
variable {prog : Program} {w : World} {A : Around} {E : Value → Shared → Prop} {s : Shared} {h₀ : Heap} {L : Addr} {m : Str → Option Value} {env : Env} {x : Str} {scope : Scope} {cl : List (Str × Addr)}
theorem env_cell {globals : Addr} {qual : Str} {Q : Env → Shared → Prop} (hcf : ∀ n, cellsFrom n scope.names cl = (x, n) :: cl) (hpc : ∀ h, pushCells h scope.names = h.push { cls := .type "cell", data := .cell none })
    (h : Q { scope, locals := s.heap.objs.size, globals, cells := (x, s.heap.objs.size + 1) :: cl, qual, func := none, code := env.code, frame := env.frame, builtins := env.builtins }
      { s with heap := (s.heap.push { cls := .type "dict", data := .dict #[] }).push { cls := .type "cell", data := .cell none } }) :
    wpAny (model prog w) A (newFunctionEnv scope globals cl [] qual none .none (some env)) Q E s := by
  simp only [newFunctionEnv, Option.isSome_some, if_true]
  refine wpAny_bind (wpAny_alloc ?_)
  refine wpAny_bind (wpAny_layCells _ (fun name kind cells => by cases hkc : kind == NameKind.cell <;> simp [hkc]) _ _ _ _ ?_)
  rw [hcf, hpc]
  rw [show ({ s with heap := s.heap.push { cls := .type "dict", data := .dict #[] } } : Shared).heap.objs.size = s.heap.objs.size + 1 from Heap.size_push ..]
  simp only [List.forIn_nil]
  exact wpAny_bind (wpAny_pure (wpAny_pure h))
noncomputable def CellTurn (prog : Program) (w : World) (A : Around) (h₀ : Heap) (L : Addr) (m : Str → Option Value) (env : Env) (ct elt : PySem.Expr) (x : Str) (scope : Scope) (cl : List (Str × Addr)) (s : Shared) (a : Int) (n : Nat) (Inv : Nat → List Value → List (Addr × Obj) → Prop) : Prop :=
  ∀ i ys news t I oI C oC K oK D h tk (E' : Value → Shared → Prop), i < n → Inv i ys news → oK.data = .cell (some (.int (a + (i : Int)) t)) → Fr h₀ L h m → News h₀ L h ((I, oI) :: (C, oC) :: (D, lst ys) :: (K, oK) :: news) → Off3 I C D ((K, oK) :: news) → ((@Ne Nat I C) ∧ (@Ne Nat I D) ∧ (@Ne Nat C D)) → (∀ p ∈ news, p.1 ≠ K) →
    wpAny (model prog w) A (isTrue ct (compEnvC scope ((x, K) :: cl) C env) (eval ct (compEnvC scope ((x, K) :: cl) C env))) (fun ok s' => IfEnd ok
      (wpAny (model prog w) A (eval elt (compEnvC scope ((x, K) :: cl) C env)) (CompEnd h₀ L m { s with heap := h, toks := tk } I oI C oC D (lst ys) (fun _ => True) (fun y nw => ∃ nw', nw = (K, oK) :: nw' ∧ (∀ p ∈ nw', p.1 ≠ K) ∧ Inv (i + 1) (ys ++ [y]) nw')) E' s')
      (CompEnd h₀ L m { s with heap := h, toks := tk } I oI C oC D (lst ys) (fun _ => True) (fun _ nw => ∃ nw', nw = (K, oK) :: nw' ∧ (∀ p ∈ nw', p.1 ≠ K) ∧ Inv (i + 1) ys nw') Value.none s')) E' { s with heap := h, toks := tk }
noncomputable def CellSrc (prog : Program) (w : World) (A : Around) (h₀ : Heap) (L : Addr) (m : Str → Option Value) (env : Env) (ct elt : PySem.Expr) (x : Str) (scope : Scope) (cl : List (Str × Addr)) (Fin : Shared → List Value → List (Addr × Obj) → Prop) (xv : Value) (s₁ : Shared) : Prop :=
  ∃ r a b t u v n news Inv, xv = .ref r ∧ A.handled = none ∧ Fr h₀ L s₁.heap m ∧ News h₀ L s₁.heap news ∧ IsRange s₁.heap r a b 1 t u v ∧ Builtin.Range.small a b 1 = true ∧ Builtin.Range.rangeSize a b 1 = ((n : Nat) : Int) ∧ n ≤ sizeLine ∧ Inv 0 [] news ∧
    ∀ g, CellTurn prog w A h₀ L m env ct elt x scope cl { s₁ with heap := g } a n Inv ∧ ∀ ys nw, Inv n ys nw → Fin { s₁ with heap := g } ys nw
/-- ahead of a turn of the comprehension -/
inductive CellAt (h₀ : Heap) (L : Addr) (m : Str → Option Value) (I C D K : Addr) (a : Int) (n : Nat) (Inv : Nat → List Value → List (Addr × Obj) → Prop) (s₁ : Shared) : Nat → Shared → Prop
  | intro (h' : Heap) (tk i : Nat) (ys : List Value) (oI oC oK : Obj) (nw : List (Addr × Obj)) (m₂ : Str → Option Value) (hi : i ≤ n) (hyl : ys.length ≤ i) (hst : IsRangeIter h' I (a + (i : Nat) * 1) ((n : Int) - (i : Nat)) 1) (F : Fr h₀ L h' m)
    (N : News h₀ L h' ((I, oI) :: (C, oC) :: (D, lst ys) :: (K, oK) :: nw)) (hns : NsObj oC m₂) (hcv : ∃ cv, oK.data = .cell cv) (off : Off3 I C D ((K, oK) :: nw)) (offK : ∀ p ∈ nw, p.1 ≠ K) (hinv : Inv i ys nw) : CellAt h₀ L m I C D K a n Inv s₁ (n + 1 - i) { s₁ with heap := h', toks := tk }
theorem cell_loop {ct elt iter : PySem.Expr} {px pos : Pos} {Q : Value → Shared → Prop} {s₁ : Shared} {I D C K : Addr} {a : Int} {n : Nat} {news : List (Addr × Obj)} {Inv : Nat → List Value → List (Addr × Obj) → Prop} {H3 : Heap} {oit oC0 oK0 : Obj}
    (hkind : scope.kind = .function) (hx : ∀ C cl', (compEnvC scope cl' C env).kindOf x = some .cell) (hh : A.handled = none) (F3 : Fr h₀ L H3 m) (N3 : News h₀ L H3 ((I, oit) :: (C, oC0) :: (D, lst []) :: (K, oK0) :: news)) (hnC : NsObj oC0 fun _ => none) (hcK : ∃ cv, oK0.data = .cell cv)
    (hst0 : IsRangeIter H3 I (a + (0 : Nat) * 1) ((n : Int) - (0 : Nat)) 1) (off0 : Off3 I C D ((K, oK0) :: news)) (offK0 : ∀ p ∈ news, p.1 ≠ K) (hIC : @Ne Nat I C) (hID : @Ne Nat I D) (hDC : @Ne Nat D C) (hIK : @Ne Nat I K) (hCK : @Ne Nat C K) (hDK : @Ne Nat D K)
    (h0 : Inv 0 [] news) (hsz : n ≤ sizeLine) (hT : ∀ g, CellTurn prog w A h₀ L m env ct elt x scope cl { s₁ with heap := g } a n Inv ∧ ∀ ys nw, Inv n ys nw → FinE h₀ L m { s₁ with heap := g } Q ys nw) :
    codeAny (model prog w) A (.compLoop (.ListComp elt [⟨.Name x px, iter, [ct], 0⟩] scope pos) 0 (.ref I) (.ref D) (compEnvC scope ((x, K) :: cl) C env)) (compPost (model prog w) A E none Q (.ref D) C) { s₁ with heap := H3 } := by
  have W := range_walks (prog := prog) (w := w) (I := I) hh a n
  have zI := (N3 _ (.head _)).2
  have zC := (N3 _ (.tail _ (.head _))).2
  have zD := (N3 _ (.tail _ (.tail _ (.head _)))).2
  have zK := (N3 _ (.tail _ (.tail _ (.tail _ (.head _))))).2
  obtain ⟨hLI, hI0⟩ := zI
  obtain ⟨hLC, hC0⟩ := zC
  obtain ⟨hLD, hD0⟩ := zD
  obtain ⟨hLK, hK0⟩ := zK
  replace hLI := Ne.symm hLI
  replace hLC := Ne.symm hLC
  replace hLD := Ne.symm hLD
  replace hLK := Ne.symm hLK
  refine codeAny_compLoop_tests
    (CellAt h₀ L m I C D K a n Inv s₁) ?_ (n + 1)
    (.intro H3 _ 0 [] oit oC0 oK0 news (fun _ => none) (Nat.zero_le _) (Nat.le_refl _) hst0 F3 N3 hnC hcK off0 offK0 h0)
  · rintro _ _ ⟨h', tk, i, ys, oI, oC, oK, nw, m₂, hi, hyl, hst, F', N', hns, ⟨cv, hcv⟩, off, offK, hinv⟩
    have NI := N' _ (.head _)
    have NC := N' _ (.tail _ (.head _))
    have ND := N' _ (.tail _ (.tail _ (.head _)))
    have NK := N' _ (.tail _ (.tail _ (.tail _ (.head _))))
    have offm := off.mem
    by_cases hlt : i < n
    · refine W.item i _ _ _ hlt hst fun v h₂ tk₂ hv hst₂ hk₂ => ?_
      obtain ⟨t, rfl⟩ := hv
      have k2 : ∀ {q : Addr} {o : Obj}, q ≠ I → h'.get? q = some o → h₂.get? q = some o := fun hq e => hk₂ _ _ (by simpa using hq) e
      have F2 : Fr h₀ L h₂ m := fr_but F' hk₂ hLI hI0
      refine wpAny_assign_Name (wpAny_storeName_cell (c := K) (by simp [compEnvC, relabel, hkind]) (hx _ _) (by simp [compEnvC]) ⟨oK, k2 (Ne.symm hIK) NK.1, hcv⟩ (fun h₃ hc₃ hs₃ => ?_))
      refine wpAny_tests_one ?_
      obtain ⟨oK3, hK3', hd3⟩ := hc₃
      have k3 : ∀ {q : Addr} {o : Obj}, q ≠ I → q ≠ K → h'.get? q = some o → h₃.get? q = some o := fun hq hq' e => hs₃.extBut _ _ hq' (k2 hq e)
      have hst₃ : IsRangeIter h₃ I (a + ((i + 1 : Nat) : Int) * 1) ((n : Int) - ((i + 1 : Nat) : Int)) 1 := hs₃.extBut _ _ hIK hst₂
      obtain ⟨oI3, hI3'⟩ : ∃ o, h₃.get? I = some o := ⟨_, hst₃⟩
      have F3 : Fr h₀ L h₃ m := F2.change hs₃ (Ne.symm hLK) hK0
      have N3 : News h₀ L h₃ ((I, oI3) :: (C, oC) :: (D, lst ys) :: (K, oK3) :: nw) := fun p hp => by
        rcases List.mem_cons.mp hp with rfl | hp
        · exact ⟨hI3', Ne.symm hLI, hI0⟩
        rcases List.mem_cons.mp hp with rfl | hp
        · exact ⟨k3 (Ne.symm hIC) hCK NC.1, NC.2⟩
        rcases List.mem_cons.mp hp with rfl | hp
        · exact ⟨k3 (Ne.symm hID) hDK ND.1, ND.2⟩
        rcases List.mem_cons.mp hp with rfl | hp
        · exact ⟨hK3', NK.2⟩
        · have z := N' p (.tail _ (.tail _ (.tail _ (.tail _ hp))))
          exact ⟨k3 (offm p (.tail _ hp)).1 (offK p hp) z.1, z.2⟩
      have off3 : Off3 I C D ((K, oK3) :: nw) := ⟨off.1, off.2⟩
      refine wpAny_mono ((hT H3).1 i ys nw t I oI3 C oC K oK3 D h₃ tk₂ _ hlt hinv hd3 F3 N3 off3 ⟨hIC, hID, Ne.symm hDC⟩ offK) (fun ok s₄ h₄ => ?_) fun _ _ e => e
      cases ok with
      | true =>
        rw [if_pos rfl]
        refine wpAny_mono (show wpAny _ _ _ _ _ _ from h₄) (fun y s₅ h₅ => ?_) fun _ _ e => e
        obtain ⟨h4, tk4, nw4, rfl, F4, N4, off4, _, nw', rfl, offK', hinv'⟩ := h₅
        have M := fun p hp => N4 p hp
        refine append_at (its := ys.toArray) (n := ys.length) (M (D, lst ys) (.tail _ (.tail _ (.head _)))).1 (fun h5 hs5 hD5 => ?_) (by rw [List.size_toArray]; omega)
        have off4m := off4.mem
        refine ⟨n + 1 - (i + 1), by omega, .intro h5 tk4 (i + 1) (ys ++ [y]) oI3 oC oK3 nw' m₂ hlt (by rw [List.length_append, List.length_singleton]; omega) ?_ (F4.change hs5 (Ne.symm hLD) hD0) (fun p hp => ?_) hns ⟨_, hd3⟩ off4 offK' hinv'⟩
        · have e1 : h₃.get? I = some _ := hst₃
          show h5.get? I = some _
          rw [← e1, hI3']
          exact hs5.extBut _ _ hID (M (I, oI3) (.head _)).1
        · rcases List.mem_cons.mp hp with rfl | hp
          · exact ⟨hs5.extBut _ _ hID (M (I, oI3) (.head _)).1, Ne.symm hLI, hI0⟩
          rcases List.mem_cons.mp hp with rfl | hp
          · exact ⟨hs5.extBut _ _ (Ne.symm hDC) (M (C, oC) (.tail _ (.head _))).1, NC.2⟩
          rcases List.mem_cons.mp hp with rfl | hp
          · exact ⟨hD5.trans (congrArg some (lst_snoc ys y)), ND.2⟩
          · have z := M p (.tail _ (.tail _ (.tail _ hp)))
            exact ⟨hs5.extBut _ _ (off4m p hp).2.2 z.1, z.2⟩
      | false =>
        rw [if_neg (by decide)]
        obtain ⟨h4, tk4, nw4, rfl, F4, N4, off4, _, nw', rfl, offK', hinv'⟩ := ifEnd_no h₄
        refine ⟨n + 1 - (i + 1), by omega, .intro h4 tk4 (i + 1) ys oI3 oC oK3 nw' m₂ hlt (by omega) ?_ F4 N4 hns ⟨_, hd3⟩ off4 offK' hinv'⟩
        have e1 : h₃.get? I = some _ := hst₃
        show h4.get? I = some _
        rw [← e1, hI3']
        exact (N4 (I, oI3) (.head _)).1
    · obtain rfl : i = n := by omega
      refine W.done _ _ _ hst fun h₂ tk₂ hk₂ => ?_
      have k2 : ∀ {q : Addr} {o : Obj}, q ≠ I → h'.get? q = some o → h₂.get? q = some o := fun hq e => hk₂ _ _ (by simpa using hq) e
      have F2 : Fr h₀ L h₂ m := fr_but F' hk₂ hLI hI0
      refine ⟨m₂, hns.ns (k2 (Ne.symm hIC) NC.1), fun h₃ hs₃ => (hT H3).2 ys nw hinv D h₃ tk₂ (F2.change hs₃ (Ne.symm hLC) hC0) (fun p hp => ?_) ?_⟩
      · rcases List.mem_cons.mp hp with rfl | hp
        · exact ⟨hs₃.extBut _ _ hDC (k2 (Ne.symm hID) ND.1), ND.2⟩
        · have z := N' p (.tail _ (.tail _ (.tail _ (.tail _ hp))))
          have o3 := offm p (.tail _ hp)
          exact ⟨hs₃.extBut _ _ o3.2.1 (k2 o3.1 z.1), z.2⟩
      · exact Off3.one off.2
theorem ListComp_C {ct elt iter : PySem.Expr} {px : Pos} {pos : Pos} {Q : Value → Shared → Prop} (F₀ : Fr h₀ L s.heap m)
    (hclos : closureFor scope env = pure cl) (hkind : scope.kind = .function)
    (hnames : ∀ y ∈ scope.names, y.2 = .local → scope.names.lookup y.1 = some .local)
    (hcf : ∀ n, cellsFrom n scope.names cl = (x, n) :: cl) (hpc : ∀ h, pushCells h scope.names = h.push { cls := .type "cell", data := .cell none }) (hx : ∀ C cl', (compEnvC scope cl' C env).kindOf x = some .cell)
    (h : wpAny (model prog w) A (eval iter env) (fun xv s₁ => Keep (CellSrc prog w A h₀ L m env ct elt x scope cl (fun s₂ => FinE h₀ L m s₂ Q) xv s₁)) E s)
    (hs : ∀ x, foldedSetIterable iter env x = pure x) :
    wpAny (model prog w) A (eval (.ListComp elt [⟨.Name x px, iter, [ct], 0⟩] scope pos) env) Q E s := by
  rw [eval_ListComp]
  refine wpAny_comprehension_free (use := none) rfl hs hclos hkind hnames (wpAny_mono h (fun xv s₁ h₁ => ?_) fun _ _ e => e)
  obtain ⟨r, a, b, t, u, v, n, news, Inv, rfl, hh, F, N, hr, hsm, hn, hsz, h0, hT⟩ := h₁
  refine wpAny_pyIter_range hr hsm ?_
  -- the iterator
  generalize hit : ({ cls := .type "range_iterator", data := _ } : Obj) = oit
  have hI : (s₁.heap.push oit).get? s₁.heap.objs.size = some oit := Heap.get?_push_size _ (by rw [← hit]; rfl)
  have hst0 : IsRangeIter (s₁.heap.push oit) s₁.heap.objs.size (a + (0 : Nat) * 1) ((n : Int) - (0 : Nat)) 1 := by
    show _ = some _
    rw [hI, ← hit, hn]; simp
  have hz1 : (s₁.heap.push oit).objs.size = s₁.heap.objs.size + 1 := Heap.size_push ..
  generalize hH1 : s₁.heap.push oit = H1 at hI hst0 hz1 ⊢
  refine wpAny_newObj_type (env_cell hcf hpc ?_)
  dsimp only
  generalize hH2 : H1.push { cls := .type "list", dict := none, data := .seq ([] : List Value).toArray } = H2
  have hz2 : H2.objs.size = s₁.heap.objs.size + 2 := by rw [← hH2, Heap.size_push, hz1]
  generalize hH3 : (H2.push { cls := .type "dict", data := .dict #[] }).push { cls := .type "cell", data := .cell none } = H3
  have old : ∀ b o, s₁.heap.get? b = some o → H3.get? b = some o := fun b o e => by
    rw [← hH3, ← hH2, ← hH1]; exact Heap.get?_push_of_some _ (Heap.get?_push_of_some _ (Heap.get?_push_of_some _ (Heap.get?_push_of_some _ e)))
  have hI3 : H3.get? s₁.heap.objs.size = some oit := by
    rw [← hH3, ← hH2]; exact Heap.get?_push_of_some _ (Heap.get?_push_of_some _ (Heap.get?_push_of_some _ hI))
  have hD3 : H3.get? H1.objs.size = some (lst []) := by
    rw [← hH3, ← hH2]; exact Heap.get?_push_of_some _ (Heap.get?_push_of_some _ (Heap.get?_push_size _ rfl))
  have hC3 : H3.get? H2.objs.size = some { cls := .type "dict", data := .dict #[] } := by
    rw [← hH3]; exact Heap.get?_push_of_some _ (Heap.get?_push_size _ rfl)
  have hK3 : H3.get? (H2.objs.size + 1) = some { cls := .type "cell", data := .cell none } := by
    rw [← hH3, show H2.objs.size + 1 = (H2.push { cls := .type "dict", data := .dict #[] }).objs.size from (Heap.size_push ..).symm]; exact Heap.get?_push_size _ rfl
  have hst3 : IsRangeIter H3 s₁.heap.objs.size (a + (0 : Nat) * 1) ((n : Int) - (0 : Nat)) 1 := by
    show _ = some _
    rw [hI3, ← hI]; exact hst0
  have fresh₀ : ∀ q, s₁.heap.objs.size ≤ q → h₀.get? q = none := fun q hq => kts_none F.keep (Heap.get?_none_of_le hq)
  have lL : ∀ q, s₁.heap.objs.size ≤ q → q ≠ L := fun q hq => Nat.ne_of_gt (Nat.lt_of_lt_of_le F.ns.lt hq)
  have ln : ∀ q, s₁.heap.objs.size ≤ q → ∀ p ∈ news, p.1 ≠ q := fun q hq p hp => Nat.ne_of_lt (Nat.lt_of_lt_of_le (Heap.lt_size (N p hp).1) hq)
  have q1 : s₁.heap.objs.size ≤ H1.objs.size := hz1 ▸ Nat.le_succ _
  have q2 : s₁.heap.objs.size ≤ H2.objs.size := hz2 ▸ Nat.le_add_right _ 2
  have q3 : s₁.heap.objs.size ≤ H2.objs.size + 1 := Nat.le_succ_of_le q2
  have a1 : s₁.heap.objs.size < H1.objs.size := hz1 ▸ Nat.lt_succ_self _
  have a2 : H1.objs.size < H2.objs.size := by rw [hz1, hz2]; exact Nat.lt_succ_self _
  have key := cell_loop (E := E) (ct := ct) (elt := elt) (iter := iter) (px := px) (pos := pos) (I := s₁.heap.objs.size) (D := H1.objs.size) (C := H2.objs.size) (K := H2.objs.size + 1) (H3 := H3) (oit := oit) hkind hx hh (F.keeps old)
    (fun p hp => by
      rcases List.mem_cons.mp hp with rfl | hp
      · exact ⟨hI3, lL _ (Nat.le_refl _), fresh₀ _ (Nat.le_refl _)⟩
      rcases List.mem_cons.mp hp with rfl | hp
      · exact ⟨hC3, lL _ q2, fresh₀ _ q2⟩
      rcases List.mem_cons.mp hp with rfl | hp
      · exact ⟨hD3, lL _ q1, fresh₀ _ q1⟩
      rcases List.mem_cons.mp hp with rfl | hp
      · exact ⟨hK3, lL _ q3, fresh₀ _ q3⟩
      · exact ⟨old _ _ (N p hp).1, (N p hp).2⟩) ⟨#[], 0, rfl, (by intro e he; simp at he), fun _ => rfl⟩ ⟨_, rfl⟩ hst3
    (Off3.of fun p hp => by
      rcases List.mem_cons.mp hp with rfl | hp
      · exact ⟨Nat.ne_of_gt (Nat.lt_of_le_of_lt q2 (Nat.lt_succ_self _)), Nat.ne_of_gt (Nat.lt_succ_self _), Nat.ne_of_gt (Nat.lt_succ_of_lt a2)⟩
      · exact ⟨ln _ (Nat.le_refl _) p hp, ln _ q2 p hp, ln _ q1 p hp⟩) (ln _ q3) (Nat.ne_of_lt (Nat.lt_trans a1 a2)) (Nat.ne_of_lt a1) (Nat.ne_of_lt a2) (Nat.ne_of_lt (Nat.lt_of_le_of_lt q2 (Nat.lt_succ_self _))) (Nat.ne_of_lt (Nat.lt_succ_self _)) (Nat.ne_of_lt (Nat.lt_succ_of_lt a2)) h0 hsz hT
  exact codeAny_compStart_list key ((range_walks (prog := prog) (w := w) (I := s₁.heap.objs.size) hh a n).self 0 _ _ _ hst3 key)
end

end

/-! ## G20 -/
section
open PySem.Calls PySem.Spec PySem.SeqAt
theorem countIn_strs (x : Str) : ∀ l : List Str, Spec.countIn (.str x) (l.map .str) = ((l.count x : Nat) : Int)
  | [] => rfl
  | n :: r => by
    rw [List.map_cons, Spec.countIn, countIn_strs x r, List.count_cons]
    by_cases h : n = x
    · subst h; simp [Spec.same]; omega
    · have h' : (n == x) = false := by simpa using h
      simp [Spec.same, h']
section
variable {prog : Program} {w : World} {A : Around} {E : Value → Shared → Prop} {s : Shared} {vs : List Value} {ss : List Str} {l : Addr} {x : Str} {t : Tok} {Q : Value → Shared → Prop}
theorem st_len (hl : s.heap.IsList l vs.toArray) (hi : StrsAre vs ss) (hz : ss.length ≤ sizeLine)
    (h : Q (.int ((ss.length : Nat) : Int) (s.toks + 1)) { s with toks := s.toks + 1 + 1 }) : wpAny (model prog w) A (call (.builtin "len") [.ref l]) Q E s := by
  have hs : vs.toArray.size = ss.length := by rw [List.size_toArray, hi.length]
  refine call_len_list hl (by rw [hs]; rw [sizeLine_eq] at hz; omega) ?_
  rw [hs]; exact h
theorem any_eq_mem (x : Str) (l : List Str) : l.any (· == x) = decide (x ∈ l) := by
  rw [Bool.eq_iff_iff, List.any_eq_true, decide_eq_true_iff]
  exact ⟨fun ⟨y, hy, e⟩ => by rw [← eq_of_beq e]; exact hy, fun hy => ⟨x, hy, beq_self_eq_true _⟩⟩
theorem st_notin (hl : s.heap.IsList l vs.toArray) (hi : StrsAre vs ss) (hy : x ∉ ss → Q (.bool true) s) (hn : x ∈ ss → Q (.bool false) s) : wpAny (model prog w) A (compareOp .NotIn (.str x t) (.ref l)) Q E s := by
  refine notin_list_strs hl hi ?_
  rw [any_eq_mem]
  by_cases h : x ∈ ss
  · rw [decide_eq_true h]; exact hn h
  · rw [decide_eq_false h]; exact hy h
theorem st_in (hl : s.heap.IsList l vs.toArray) (hi : StrsAre vs ss) (hy : x ∈ ss → Q (.bool true) s) (hn : x ∉ ss → Q (.bool false) s) : wpAny (model prog w) A (compareOp .In (.str x t) (.ref l)) Q E s := by
  refine in_list_strs hl hi ?_
  rw [any_eq_mem]
  by_cases h : x ∈ ss
  · rw [decide_eq_true h]; exact hy h
  · rw [decide_eq_false h]; exact hn h
theorem st_count (hl : s.heap.IsList l vs.toArray) (hi : StrsAre vs ss)
    (h : Q (.int ((ss.count x : Nat) : Int) s.toks) { s with toks := s.toks + 1 }) : wpAny (model prog w) A (call (.builtin "list.count") [.ref l, .str x t]) Q E s := by
  refine count_list_strs hl hi ?_
  rw [countIn_strs]; exact h
theorem ifEnd_dec {p : Prop} [Decidable p] {T F : Prop} (y : p → T) (n : ¬p → F) : IfEnd (decide p) T F := by
  by_cases h : p
  · rw [decide_eq_true h]; exact y h
  · rw [decide_eq_false h]; exact n h
theorem ifEnd_bool {b : Bool} {T F : Prop} (y : b = true → T) (n : b = false → F) : IfEnd b T F := by
  cases b
  · exact n rfl
  · exact y rfl
theorem all_true (n : Nat) : (List.range n).all (fun _ => true) = true := by simp
theorem eqat_str (A : Around) (s : Shared) (x : Str) (t u : Tok) : EqAt A s (.str x t) (.str x u) true := by
  have := (eqGives_str x x t u).at A s
  rwa [beq_self_eq_true] at this
theorem eqat_strs {A : Around} {s : Shared} {vs us : List Value} {ss : List Str} (hv : StrsAre vs ss) (hu : StrsAre us ss) (j : Nat) (h1 : j < vs.toArray.size) (h2 : j < us.toArray.size) : EqAt A s vs.toArray[j] us.toArray[j] true := by
  rw [List.size_toArray] at h1 h2
  have hj : j < ss.length := by rw [← hv.length]; exact h1
  obtain ⟨t, e1⟩ := StrsAre.get hv j ss[j] (List.getElem?_eq_getElem hj)
  obtain ⟨u, e2⟩ := StrsAre.get hu j ss[j] (List.getElem?_eq_getElem hj)
  rw [List.getElem?_eq_getElem h1] at e1
  rw [List.getElem?_eq_getElem h2] at e2
  have f1 : vs.toArray[j]'(by rw [List.size_toArray]; exact h1) = Value.str ss[j] t := by simpa using e1
  have f2 : us.toArray[j]'(by rw [List.size_toArray]; exact h2) = Value.str ss[j] u := by simpa using e2
  rw [f1, f2]
  exact eqat_str A s _ t u
theorem rc_strs {A : Around} {s : Shared} {l b : Addr} {vs us : List Value} {ss : List Str} (hl : s.heap.IsList l vs.toArray) (hb : s.heap.IsList b us.toArray) (hv : StrsAre vs ss) (hu : StrsAre us ss) (hc : A.units < cLine) : RcAt A s (.ref l) (.ref b) true := by
  have := RcAt.lists (e := fun _ => true) hl hb (by rw [List.size_toArray, List.size_toArray, hv.length, hu.length]) hc (eqat_strs hv hu)
  rwa [all_true] at this
theorem eqat_lists {A : Around} {s : Shared} {l b : Addr} {vs us : List Value} {ss : List Str} (hl : s.heap.IsList l vs.toArray) (hb : s.heap.IsList b us.toArray) (hv : StrsAre vs ss) (hu : StrsAre us ss) (hc : A.units < cLine) : EqAt A s (.ref l) (.ref b) true := by
  by_cases e : l = b
  · subst e; exact EqAt.same _
  · exact EqAt.of_refs e (rc_strs hl hb hv hu hc)
theorem two_at {A : Around} {s : Shared} {a b c d : Value} (h1 : EqAt A s a c true) (h2 : EqAt A s b d true) (j : Nat) (p : j < [a, b].toArray.size) (q : j < [c, d].toArray.size) : EqAt A s [a, b].toArray[j] [c, d].toArray[j] true := by
  match j, p, q with
  | 0, _, _ => exact h1
  | 1, _, _ => exact h2
theorem two_ne {l b : Addr} {a₁ b₁ c₁ d₁ : Value} (hl : s.heap.IsList l [a₁, b₁].toArray) (hb : s.heap.IsList b [c₁, d₁].toArray) (h1 : EqAt A.in1 s a₁ c₁ true) (h2 : EqAt A.in1 s b₁ d₁ true) (hc : A.units < cLine)
    (h : Q (.bool false) s) : wpAny (model prog w) A (compareOp .NotEq (.ref l) (.ref b)) Q E s := by
  have := RcNeAt.lists (e := fun _ => true) hl hb rfl hc (two_at h1 h2)
  rw [all_true] at this
  exact this prog w E Q h
theorem two_eq {l b : Addr} {a₁ b₁ c₁ d₁ : Value} (hl : s.heap.IsList l [a₁, b₁].toArray) (hb : s.heap.IsList b [c₁, d₁].toArray) (h1 : EqAt A.in1 s a₁ c₁ true) (h2 : EqAt A.in1 s b₁ d₁ true) (hc : A.units < cLine)
    (h : Q (.bool true) s) : wpAny (model prog w) A (compareOp .Eq (.ref l) (.ref b)) Q E s := by
  have := RcAt.lists (e := fun _ => true) hl hb rfl hc (two_at h1 h2)
  rw [all_true] at this
  exact this prog w E Q h
theorem st_eq_nil {b : Addr} (hl : s.heap.IsList l vs.toArray) (hb : s.heap.IsList b #[]) (hi : StrsAre vs ss) (hc : A.units < cLine) (h0 : ss = [] → Q (.bool true) s) (h1 : ss ≠ [] → Q (.bool false) s) : wpAny (model prog w) A (compareOp .Eq (.ref l) (.ref b)) Q E s := by
  cases hi with
  | nil => exact rc_strs (us := []) hl hb .nil .nil hc prog w E Q (h0 rfl)
  | cons c t r => exact RcAt.lists_lengths hl hb (by simp) hc prog w E Q (h1 (by simp))
end

end

/-! ## G5 -/
section
open PySem.Calls PySem.Spec
set_option maxRecDepth 100000
noncomputable def srCode : Array Nat := #[14, 17, 4, 1, 1, 21, 9, 0, 604043296, 1, 0, 0, 0, 0, 0, 8, 4, 0, 13, 14, 21, 9, 0, 604043296, 1, 0, 0, 0, 0, 0, 8, 4, 0, 1]
noncomputable def srTup : Obj := { cls := .type "tuple", data := .seq #[.int 14 0, .int 17 0, .int 4 0, .int 1 0, .int 1 0, .int 21 0, .int 9 0, .int 0 0, .int 604043296 0, .int 1 0, .int 0 0, .int 0 0, .int 0 0, .int 0 0, .int 0 0, .int 8 0, .int 4 0, .int 0 0, .int 13 0, .int 14 0, .int 21 0, .int 9 0, .int 0 0, .int 604043296 0, .int 1 0, .int 0 0, .int 0 0, .int 0 0, .int 0 0, .int 0 0, .int 8 0, .int 4 0, .int 0 0, .int 1 0] }
noncomputable def srPat : Obj := { cls := .type "re.Pattern", data := .fields #[.str (Str.ofString "[^\\w@%+=:,./-]") 516, .int 256 553, .int 0 0, .none, .none, .ref 170, .int 0 0] }
noncomputable def srBound : Obj := { cls := .type "builtin_function_or_method", data := .fields #[.builtin "re.Pattern.search", .ref 171] }
noncomputable def srK : Frag := [(867, srBound), (171, srPat), (170, srTup)]
theorem srK_in {h : Heap} (h1 : h.get? 867 = some srBound) (h2 : h.get? 171 = some srPat) (h3 : h.get? 170 = some srTup) : srK.In h := by
  intro a o e
  unfold srK at e
  simp only [List.lookup] at e
  split at e
  · rename_i q; rw [eq_of_beq q]; exact h1.trans e
  · split at e
    · rename_i q; rw [eq_of_beq q]; exact h2.trans e
    · split at e
      · rename_i q; rw [eq_of_beq q]; exact h3.trans e
      · cases e
noncomputable def srT (x : Str) (t : Tok) : Builtin.Re.ReTarget := { pattern := .ref 171, string := .str x t, code := srCode, text := x.cps, kind := 0, groups := 0, pos := min (0 : Int).toNat x.cps.size, lim := min (2 ^ 63 - 1 : Int).toNat x.cps.size }
theorem sr_target (x : Str) (t : Tok) (S : Setting) : peek srK S (Builtin.Re.reTarget "re.Pattern.search" "search" ⟨[.ref 171, .str x t], []⟩) = some (srT x t) := by kernel_rfl

noncomputable def drv : Nat → Sre.M → Option Sre.M
  | 0, _ => none
  | n + 1, m => if (m.runFor 4).outcome.isSome then some (m.runFor 4) else drv n (m.runFor 4)
noncomputable def srRun (x : Str) : Option Sre.M := drv 3 (Sre.forSearch srCode x.cps 0 (min (0 : Int).toNat x.cps.size) (min (2 ^ 63 - 1 : Int).toNat x.cps.size) false)
/-- some true: a sign that asks for quotes was found -/
noncomputable def srFound (x : Str) : Option Bool := match srRun x with
  | some m => (match m.outcome with
    | some .matched => some true
    | some .failed => some false
    | _ => none)
  | none => none
section
variable {prog : Program} {w : World} {M : Model} {A : Around} {E : Value → Shared → Prop} {s : Shared} {h₀ : Heap} {L : Addr} {m : Str → Option Value} {news : List (Addr × Obj)}
theorem drive_ok {Q : Sre.M → Shared → Prop} {k : Nat} {m' : Sre.M} : ∀ (n : Nat) (m : Sre.M), drv n m = some m' → Q m' s → wpAny M A (Builtin.Re.reDrive (k + n) m) Q E s := by
  intro n
  induction n with
  | zero => intro m e; cases e
  | succ n ih =>
    intro m e q
    show wpAny M A (if (m.runFor 4).outcome.isSome then pure (m.runFor 4) else do rule "sre.turn"; Builtin.Re.reDrive (k + n) (m.runFor 4)) Q E s
    unfold drv at e
    split
    · rename_i c
      rw [if_pos c] at e
      cases e
      exact wpAny_pure q
    · rename_i c
      rw [if_neg c] at e
      exact wpAny_bind (wpAny_rule (ih _ e q))
theorem toEnd_ok {m m' : Sre.M} {Q : Option Sre.M → Shared → Prop} (e : drv 3 m = some m') (h1 : m'.outcome = some .matched → Q (some m') s) (h0 : m'.outcome = some .failed → Q none s) (ho : m'.outcome = some .matched ∨ m'.outcome = some .failed) :
    wpAny M A (Builtin.Re.reRunToEnd m) Q E s := by
  unfold Builtin.Re.reRunToEnd
  refine wpAny_bind ?_
  rw [show (2 : Nat) ^ 64 = (2 ^ 64 - 3) + 3 from rfl]
  refine drive_ok 3 m e ?_
  refine wpAny_bind (wpAny_forIn_list _ (fun _ _ s' => s' = s) _ (fun x rest b s' e => ?_) (fun b s' e => ?_) _ _ rfl)
  · subst e
    split
    · exact wpAny_bind (wpAny_rule (wpAny_pure rfl))
    · exact wpAny_pure rfl
  subst e
  rcases ho with ho | ho
  · rw [ho]; exact wpAny_pure (h1 ho)
  · rw [ho]; exact wpAny_pure (h0 ho)
theorem newMatch_ok {p st : Value} {a b : Nat} {m' : Sre.M} {Q : Value → Shared → Prop} (F : Fr h₀ L s.heap m) (N : News h₀ L s.heap news)
    (h : ∀ D h', Fr h₀ L h' m → News h₀ L h' news → Q (.ref D) { s with heap := h' }) : wpAny M A (Builtin.Re.reNewMatch p st 0 a b m') Q E s := by
  unfold Builtin.Re.reNewMatch
  refine wpAny_bind (wpAny_newTuple (items := [rawInt m'.start, rawInt m'.handed]) ?_ (Nat.le_of_ble_eq_true rfl))
  refine wpAny_newObj_type ?_
  have N1 := News.push F N ({ cls := .type "tuple", data := .seq (rawInt m'.start :: rawInt m'.handed :: []).toArray } : Obj) rfl
  have F1 := F.push ({ cls := .type "tuple", data := .seq (rawInt m'.start :: rawInt m'.handed :: []).toArray } : Obj)
  exact h _ _ (F1.push _) (fun p hp => (News.push F1 N1 _ rfl) p (List.mem_cons_of_mem _ (List.mem_cons_of_mem _ hp)))
theorem entry_search : entryFor table "re.Pattern.search" = some Builtin.«re.Pattern.search» := entryFor_of_tree (by kernel_rfl)
theorem quiet_search {as : Args} : (Code.builtin "re.Pattern.search" as).quiet = true := Code.quiet_builtin _ (by decide +kernel)
theorem check_search (x : Str) (t : Tok) (S : Setting) : peek srK S (checkBoundCall "re.Pattern.search" ⟨[.ref 171, .str x t], []⟩) = some () := by kernel_rfl
theorem search_tree {x : Str} {t : Tok} {P : Fin → Shared → Prop} (X : srK.In s.heap) (F : Fr h₀ L s.heap m) (N : News h₀ L s.heap news)
    (h0 : srFound x = some false → P (.done (.ret .none)) s) (h1 : srFound x = some true → ∀ D h', Fr h₀ L h' m → News h₀ L h' news → P (.done (.ret (.ref D))) { s with heap := h' }) (hs : (srFound x).isSome = true) :
    wpAny M A (Builtin.«re.Pattern.search» ⟨[.ref 171, .str x t], []⟩) P E s := by
  unfold Builtin.«re.Pattern.search»
  refine wpAny_bind ((Looks.of_peek (M := M) X (sr_target x t _)).here ?_)
  unfold Builtin.Re.reAnswer
  refine wpAny_bind ?_
  obtain ⟨m', e⟩ : ∃ m', srRun x = some m' := by
    unfold srFound at hs
    split at hs
    · exact ⟨_, by assumption⟩
    · cases hs
  have hf : ∀ b, srFound x = some b ↔ m'.outcome = some (if b then .matched else .failed) := by
    intro b
    unfold srFound
    rw [e]
    dsimp only
    cases ho : m'.outcome with
    | none => simp
    | some o => cases o <;> cases b <;> simp
  obtain ⟨b, hb⟩ := Option.isSome_iff_exists.mp hs
  refine toEnd_ok e (fun ho => ?_) (fun ho => ?_) ?_
  · exact wpAny_bind (newMatch_ok F N fun D h' F' N' => wpAny_pure (h1 ((hf true).mpr ho) D h' F' N'))
  · exact wpAny_pure (h0 ((hf false).mpr ho))
  · have := (hf b).mp hb
    cases b
    · exact .inr this
    · exact .inl this
theorem call_search {x : Str} {t : Tok} {Q : Value → Shared → Prop} (X : srK.In s.heap) (F : Fr h₀ L s.heap m) (N : News h₀ L s.heap news)
    (h0 : srFound x = some false → Q .none s) (h1 : srFound x = some true → ∀ D h', Fr h₀ L h' m → News h₀ L h' news → Q (.ref D) { s with heap := h' }) (hs : (srFound x).isSome = true) :
    wpAny (model prog w) A (call (.ref 867) [.str x t]) Q E s := by
  refine wpAny_call (codeAny_of_tree ?_)
  show wpAny _ A.in1 (callAny (.ref 867) ⟨[.str x t], []⟩) _ _ s
  simp only [callAny]
  refine wpAny_bind (wpAny_load (X 867 srBound rfl) ?_)
  simp only [srBound, show (Value.type "builtin_function_or_method" == Value.type "method" || Value.type "builtin_function_or_method" == Value.type "builtin_function_or_method" || Value.type "builtin_function_or_method" == Value.type "method-wrapper") = true by decide, if_true]
  refine KFB.if_so (by decide) ?_
  refine wpAny_bind ((Looks.of_peek (M := model prog w) X (check_search x t _)).here ?_)
  refine wpAny_bind (wpAny_pure (wpAny_pure ?_))
  exact ⟨quiet_search, codeAny_builtin entry_search (search_tree X F N h0 h1 hs)⟩
theorem callWith_search {pos : Pos} {first : List Value} {args : List (Bool × Sem Value)} {Q : Value → Shared → Prop} (hplain : args.any (·.1) = false)
    (h : wpAny M A (evalArgs (.ref 867) true args []) (fun x s₁ => srK.In s₁.heap ∧ wpAny M A (call (.ref 867) (first ++ x.pos) x.kw) Q E s₁) E s) : wpAny M A (callWith pos (.ref 867) first args []) Q E s := by
  unfold callWith
  refine wpAny_bind (wpAny_holding (wpAny_mono h (fun x s₁ h₁ => wpAny_bind (wpAny_standAt ?_)) fun _ _ x => x))
  obtain ⟨ho, hcall⟩ := h₁
  simp only [hplain, List.any_nil, Bool.or_false]
  refine wpAny_bind (m := keeperOf (.ref 867)) ?_
  unfold keeperOf
  refine wpAny_bind (wpAny_load (ho 867 srBound rfl) ?_)
  simp only [srBound, show (Value.type "builtin_function_or_method" != Value.type "method") = true by decide, show (Value.type "builtin_function_or_method" == Value.type "builtin_function_or_method" || Value.type "builtin_function_or_method" == Value.type "method-wrapper") = true by decide, if_true]
  refine wpAny_pure ?_
  exact wpAny_bind (wpAny_mono hcall (fun r s₂ hr => wpAny_bind (wpAny_holding (wpAny_point (wpAny_pure hr)))) fun _ _ x => x)
theorem callWith_find {pos : Pos} {first : List Value} {env : Env} {e : Expr} {rest : List Expr} {Q : Value → Shared → Prop}
    (h : wpAny M A (spliced (backTo pos (starEach (e :: rest) env))) (fun vs s₁ => srK.In s₁.heap ∧ wpAny M A (call (.ref 867) (first ++ vs)) Q E s₁) E s)
    (he : starEach (e :: rest) env = (false, eval e env) :: starEach rest env) (hplain : (backTo pos (starEach rest env)).any (·.1) = false) :
    wpAny M A (callWith pos (.ref 867) first (backTo pos (starEach (e :: rest) env)) []) Q E s := by
  rw [he] at h ⊢
  refine callWith_search (by show (false || (backTo pos (starEach rest env)).any (·.1)) = false; rw [hplain]; rfl) ?_
  exact evalArgs_plain h
end

end

/-! ## G9 -/
section
open PySem.Calls PySem.Spec
section
variable {prog : Program} {w : World} {A : Around} {E : Value → Shared → Prop} {env : Env} {test : PySem.Expr} {body orelse : List Stmt} {Q : Flow → Shared → Prop} {pos : Pos}
noncomputable def WhlTurn {ι : Type} (meas : ι → Nat) (Inv : ι → Shared → Prop) (i : ι) (Q : Flow → Shared → Prop) (f : Flow) (s : Shared) : Prop :=
  match f with
  | .next => ∃ j, meas j < meas i ∧ Inv j s
  | .cont => ∃ j, meas j < meas i ∧ Inv j s
  | .brk => Q .next s
  | .ret v => Q (.ret v) s
theorem whl_inv {ι : Type} (meas : ι → Nat) (Inv : ι → Shared → Prop) (hE : PassesOwn (model prog w) A env E)
    (turn : ∀ i s, Inv i s → wpAny (model prog w) A (isTrue test env (eval test env)) (fun b s₂ => WhlIf b (wpAny (model prog w) A (execs body env) (WhlTurn meas Inv i Q) E s₂) (wpAny (model prog w) A (execs orelse env) Q E s₂)) E s)
    (i : ι) (s : Shared) (h : Inv i s) : wpAny (model prog w) A (exec (.While test body orelse pos) env) Q E s := by
  refine whl_start 0 ?_
  have key : ∀ n i s, meas i = n → Inv i s → WhlRest prog w A E env test body orelse Q 0 s := by
    intro n
    induction n using Nat.strongRecOn with
    | ind n ih =>
      intro i s hn hi
      refine whl_turn (k := 0) hE (wpAny_mono (turn i s hi) (fun b s₂ hb => ?_) fun _ _ e => e)
      cases b with
      | false => exact hb
      | true =>
        refine WhlIf.yes rfl (wpAny_mono hb (fun f s₃ hf => ?_) fun _ _ e => e)
        cases f with
        | next => obtain ⟨j, hj, hi'⟩ := hf; exact ih _ (hn ▸ hj) j s₃ rfl hi'
        | cont => obtain ⟨j, hj, hi'⟩ := hf; exact ih _ (hn ▸ hj) j s₃ rfl hi'
        | brk => exact hf
        | ret v => exact hf
  exact key _ i s rfl h
end
/-- the states of the lexer: between words, in a word, in single quotes, in double quotes, past the end -/
inductive LS | s0 | a | q1 | q2 | e
@[reducible] noncomputable def lsVal : LS → Tok → Value
  | .s0, t => .str (Str.ofString " ") t
  | .a, t => .str (Str.ofString "a") t
  | .q1, t => .str (Str.ofString "'") t
  | .q2, t => .str (Str.ofString "\"") t
  | .e, _ => .none
/-- what read_token reads, as a function on the signs that are left -/
noncomputable def rtF : List Nat → LS → Str → Bool → Option (Str × Bool × LS × List Nat)
  | [], .s0, tok, q => some (tok, q, .e, [])
  | [], .a, tok, q => some (tok, q, .e, [])
  | [], .e, _, q => some (Str.ofString "", q, .e, [])
  | [], _, _, _ => none
  | _ :: _, .e, _, _ => none
  | c :: cs, .s0, tok, q => if c = 39 then rtF cs .q1 tok q else if c = 35 then (if cs.isEmpty then none else some (tok, q, .e, [])) else if c = 46 ∨ c = 47 then rtF cs .a (chS' c) q else none
  | c :: cs, .q1, tok, q => if c = 39 then rtF cs .a tok true else if c = 10 ∨ c = 92 then none else rtF cs .q1 (tok ++ chS' c) true
  | c :: cs, .q2, tok, q => if c = 34 then rtF cs .a tok true else if c = 39 then rtF cs .q2 (tok ++ chS' c) true else none
  | c :: cs, .a, tok, q => if c = 32 then (if tok.length ≠ 0 ∨ q = true then some (tok, q, .s0, cs) else none) else if c = 39 then rtF cs .q1 tok q else if c = 34 then rtF cs .q2 tok q
    else if c = 46 ∨ c = 47 then rtF cs .a (tok ++ chS' c) q else none
where chS' (c : Nat) : Str := ⟨#[c]⟩

end

/-! ## L4q -/
section
noncomputable def qtOf (x : Str) : Str := if (x.length : Int) = 0 then Str.ofString "''" else if srFound x = some false then x else Str.ofString "'" ++ Txt.replace x (Str.ofString "'") (Str.ofString "'\"'\"'") ++ Str.ofString "'"

end

/-! ## A2 -/
section
open PySem.Spec
/-! the plain law of the lexer: what quote writes is read back -/
noncomputable def mkS (l : List Nat) : Str := ⟨l.toArray⟩
theorem mkS_cps (x : Str) : mkS x.cps.toList = x := Str.ext' (by simp [mkS])
theorem cps_mkS (l : List Nat) : (mkS l).cps.toList = l := by simp [mkS]
theorem cps_app (x y : Str) : (x ++ y).cps.toList = x.cps.toList ++ y.cps.toList := by
  show (x.cps ++ y.cps).toList = _
  simp
theorem str_ext {x y : Str} (h : x.cps.toList = y.cps.toList) : x = y := Str.ext' (Array.toList_inj.mp h)
theorem mkS_app (a b : List Nat) : mkS (a ++ b) = mkS a ++ mkS b := str_ext (by rw [cps_app]; simp [mkS])
theorem mkS_nil_app (x : Str) : x ++ mkS [] = x := str_ext (by rw [cps_app]; simp [mkS])
theorem app_assoc (x y z : Str) : x ++ y ++ z = x ++ (y ++ z) := str_ext (by simp only [cps_app]; simp)
noncomputable def jn (g : List Nat) : List (List Nat) → List Nat
  | [] => []
  | [x] => x
  | x :: y :: r => x ++ g ++ jn g (y :: r)
theorem jn_cps (g : Str) : ∀ ps : List Str, (Str.join g ps).cps.toList = jn g.cps.toList (ps.map (·.cps.toList))
  | [] => by show (Str.empty).cps.toList = []; rfl
  | [x] => rfl
  | x :: y :: r => by
    show (x ++ g ++ Str.join g (y :: r)).cps.toList = _
    rw [cps_app, cps_app, jn_cps g (y :: r)]
    rfl
theorem chS'_eq (c : Nat) : rtF.chS' c = mkS [c] := rfl
theorem rt_q1 : ∀ (l cs : List Nat) (tok : Str) (q : Bool), (∀ c ∈ l, c ≠ 39 ∧ c ≠ 10 ∧ c ≠ 92) → ∃ q', rtF (l ++ cs) .q1 tok q = rtF cs .q1 (tok ++ mkS l) q'
  | [], cs, tok, q, _ => ⟨q, by rw [mkS_nil_app]; rfl⟩
  | c :: l, cs, tok, q, h => by
    have hc := h c (List.mem_cons_self ..)
    obtain ⟨q', e⟩ := rt_q1 l cs (tok ++ mkS [c]) true fun d hd => h d (List.mem_cons_of_mem _ hd)
    refine ⟨q', ?_⟩
    rw [List.cons_append]
    conv => lhs; unfold rtF
    rw [if_neg hc.1, if_neg (by omega), chS'_eq, e, app_assoc, ← mkS_app]
    rfl
theorem rt_z (cs : List Nat) (tok : Str) (q : Bool) : rtF ([39, 34, 39, 34, 39] ++ cs) .q1 tok q = rtF cs .q1 (tok ++ mkS [39]) true := by
  simp [rtF, chS'_eq]
theorem rt_parts : ∀ (ps : List (List Nat)) (cs : List Nat) (tok : Str) (q : Bool), (∀ p ∈ ps, ∀ c ∈ p, c ≠ 39 ∧ c ≠ 10 ∧ c ≠ 92) → rtF (jn [39, 34, 39, 34, 39] ps ++ 39 :: cs) .q1 tok q = rtF cs .a (tok ++ mkS (jn [39] ps)) true
  | [], cs, tok, q, _ => by
    show rtF (39 :: cs) .q1 tok q = rtF cs .a (tok ++ mkS []) true
    rw [mkS_nil_app]
    simp [rtF]
  | [p], cs, tok, q, h => by
    obtain ⟨q', e⟩ := rt_q1 p (39 :: cs) tok q (h p (List.mem_cons_self ..))
    show rtF (p ++ 39 :: cs) .q1 tok q = rtF cs .a (tok ++ mkS p) true
    rw [e]
    simp [rtF]
  | p :: p' :: ps, cs, tok, q, h => by
    obtain ⟨q', e⟩ := rt_q1 p ([39, 34, 39, 34, 39] ++ (jn [39, 34, 39, 34, 39] (p' :: ps) ++ 39 :: cs)) tok q (h p (List.mem_cons_self ..))
    have e2 : jn [39, 34, 39, 34, 39] (p :: p' :: ps) ++ 39 :: cs = p ++ ([39, 34, 39, 34, 39] ++ (jn [39, 34, 39, 34, 39] (p' :: ps) ++ 39 :: cs)) := by
      show p ++ [39, 34, 39, 34, 39] ++ jn [39, 34, 39, 34, 39] (p' :: ps) ++ 39 :: cs = _
      simp only [List.append_assoc]
    rw [e2, e, rt_z, rt_parts (p' :: ps) cs _ _ fun p hp => h p (List.mem_cons_of_mem _ hp)]
    rw [app_assoc, app_assoc, ← mkS_app, ← mkS_app]
    show _ = rtF cs .a (tok ++ mkS (p ++ [39] ++ jn [39] (p' :: ps))) true
    rw [List.append_assoc]
theorem rt_a : ∀ (l cs : List Nat) (tok : Str) (q : Bool), (∀ c ∈ l, c = 46 ∨ c = 47) → rtF (l ++ cs) .a tok q = rtF cs .a (tok ++ mkS l) q
  | [], cs, tok, q, _ => by rw [mkS_nil_app]; rfl
  | c :: l, cs, tok, q, h => by
    have hc := h c (List.mem_cons_self ..)
    rw [List.cons_append]
    conv => lhs; unfold rtF
    rw [if_neg (by omega), if_neg (by omega), if_neg (by omega), if_pos hc, chS'_eq, rt_a l cs _ q fun d hd => h d (List.mem_cons_of_mem _ hd), app_assoc, ← mkS_app]
    rfl
/-- a path that the law writes: its signs, and what the search finds in it -/
structure Pth (p : Str) : Prop where
  sg : ∀ c ∈ p.cps.toList, c ≠ 10 ∧ c ≠ 92
  sr : (srFound p = some false ∧ ∀ c ∈ p.cps.toList, c = 46 ∨ c = 47) ∨ srFound p = some true
theorem of39 : Str.ofString "'" = ⟨#[39]⟩ := by decide
theorem ofZ : (Str.ofString "'\"'\"'").cps.toList = [39, 34, 39, 34, 39] := by decide
theorem len_cps (x : Str) : x.length = x.cps.toList.length := by rw [Array.length_toList]; rfl
theorem len0 {x : Str} (h : (x.length : Int) = 0) : x = mkS [] := by
  refine str_ext ?_
  rw [cps_mkS]
  refine List.length_eq_zero_iff.mp ?_
  rw [← len_cps]; omega
theorem s0_39 (cs : List Nat) (tok : Str) (q : Bool) : rtF (39 :: cs) .s0 tok q = rtF cs .q1 tok q := by simp [rtF]
theorem tok_law {p : Str} (h : Pth p) (cs : List Nat) : ∃ q, (p.length ≠ 0 ∨ q = true) ∧ rtF ((qtOf p).cps.toList ++ cs) .s0 (mkS []) false = rtF cs .a p q := by
  unfold qtOf
  split
  · rename_i h0
    obtain rfl := len0 h0
    refine ⟨true, Or.inr rfl, ?_⟩
    rw [show (Str.ofString "''").cps.toList = [39, 39] by decide]
    simp [rtF]
  · rename_i h0
    rcases h.sr with ⟨hs, hc⟩ | hs
    · rw [if_pos hs]
      refine ⟨false, Or.inl (by omega), ?_⟩
      cases hp : p.cps.toList with
      | nil => rw [len_cps, hp] at h0; simp at h0
      | cons c l =>
        rw [hp] at hc
        have h1 := hc c (List.mem_cons_self ..)
        rw [List.cons_append]
        conv => lhs; unfold rtF
        rw [if_neg (by omega), if_neg (by omega), if_pos h1, chS'_eq, rt_a l cs _ _ fun d hd => hc d (List.mem_cons_of_mem _ hd), ← mkS_app]
        rw [show mkS ([c] ++ l) = p by rw [← mkS_cps p, hp]; rfl]
    · rw [if_neg (by rw [hs]; simp)]
      refine ⟨true, Or.inr rfl, ?_⟩
      rw [cps_app, cps_app, of39, StrLaws.replace_one, jn_cps, ofZ]
      have hj : jn [39] ((Txt.split p ⟨#[39]⟩).map (·.cps.toList)) = p.cps.toList := by
        have := jn_cps ⟨#[39]⟩ (Txt.split p ⟨#[39]⟩)
        rw [StrLaws.join_split] at this
        exact this.symm
      have hm : ∀ x ∈ (Txt.split p ⟨#[39]⟩).map (·.cps.toList), ∀ c ∈ x, c ≠ 39 ∧ c ≠ 10 ∧ c ≠ 92 := by
        intro x hx c hc
        obtain ⟨y, hy, rfl⟩ := List.mem_map.mp hx
        have h1 : c ≠ 39 := fun e => StrLaws.split_free p 39 y hy (e ▸ hc)
        have h2 : c ∈ p.cps.toList := by
          rw [← hj]
          have : ∀ (g : List Nat) (ps : List (List Nat)), y.cps.toList ∈ ps → c ∈ jn g ps := by
            intro g ps
            induction ps with
            | nil => intro q; cases q
            | cons a r ih =>
              intro q
              cases r with
              | nil =>
                rw [List.mem_singleton] at q
                show c ∈ a
                rw [← q]; exact hc
              | cons b r =>
                show c ∈ a ++ g ++ jn g (b :: r)
                rcases List.mem_cons.mp q with q | q
                · rw [q] at hc; simp [hc]
                · have := ih q; simp [this]
          exact this _ _ hx
        exact ⟨h1, h.sg c h2⟩
      show rtF (([39] ++ _ ++ [39]) ++ cs) .s0 (mkS []) false = _
      rw [show ∀ (u : List Nat), ([39] ++ u ++ [39]) ++ cs = 39 :: (u ++ 39 :: cs) by intro u; simp, s0_39, rt_parts _ _ _ _ hm, hj, mkS_cps]
      rw [show mkS [] ++ p = p by refine str_ext ?_; rw [cps_app]; simp [mkS]]
/-- the words of a line: read_token again and again -/
noncomputable def lexF : Nat → List Nat → LS → Option (List Str)
  | 0, _, _ => none
  | n + 1, cs, ls => match rtF cs ls (Str.ofString "") false with
    | none => none
    | some (tok, q, ls', cs') => if tok.length = 0 ∧ q = false then some [] else (lexF n cs' ls').map (tok :: ·)
theorem ofNil : Str.ofString "" = mkS [] := by decide
theorem lex_end (n : Nat) : lexF (n + 1) [] .e = some [] := by
  unfold lexF
  simp only [rtF]
  exact if_pos (by decide)
theorem lex_one {p : Str} (h : Pth p) (n : Nat) : lexF (n + 2) (qtOf p).cps.toList .s0 = some [p] := by
  obtain ⟨q, hq, e⟩ := tok_law h []
  rw [List.append_nil] at e
  unfold lexF
  rw [ofNil, e]
  simp only [rtF]
  rw [if_neg (by rintro ⟨h1, h2⟩; rcases hq with hq | hq; exact hq h1; rw [hq] at h2; cases h2), lex_end]
  rfl
theorem lex_cons {p : Str} (h : Pth p) (n : Nat) (cs : List Nat) : lexF (n + 1) ((qtOf p).cps.toList ++ 32 :: cs) .s0 = (lexF n cs .s0).map (p :: ·) := by
  obtain ⟨q, hq, e⟩ := tok_law h (32 :: cs)
  conv => lhs; unfold lexF
  rw [ofNil, e]
  have : rtF (32 :: cs) .a p q = some (p, q, .s0, cs) := by
    conv => lhs; unfold rtF
    rw [if_pos rfl, if_pos hq]
  rw [this]
  dsimp only
  rw [if_neg (by rintro ⟨h1, h2⟩; rcases hq with hq | hq; exact hq h1; rw [hq] at h2; cases h2)]
theorem lex_rem (n : Nat) (c : Nat) (cs : List Nat) : lexF (n + 1) (35 :: c :: cs) .s0 = some [] := by
  unfold lexF
  have : rtF (35 :: c :: cs) .s0 (Str.ofString "") false = some (Str.ofString "", false, .e, []) := by simp [rtF]
  rw [this]
  dsimp only
  rw [if_pos ⟨by decide, rfl⟩]
/-- a line of words -/
theorem lex_line : ∀ (ps : List Str) (n : Nat), ps ≠ [] → (∀ p ∈ ps, Pth p) → ps.length < n → lexF n (jn [32] (ps.map fun p => (qtOf p).cps.toList)) .s0 = some ps
  | [], _, h, _, _ => absurd rfl h
  | [p], n, _, h, hn => by
    obtain ⟨k, rfl⟩ : ∃ k, n = k + 2 := ⟨n - 2, by simp at hn; omega⟩
    exact lex_one (h p (List.mem_cons_self ..)) k
  | p :: p' :: ps, n, _, h, hn => by
    obtain ⟨k, rfl⟩ : ∃ k, n = k + 1 := ⟨n - 1, by simp at hn; omega⟩
    have ih := lex_line (p' :: ps) k (by simp) (fun q hq => h q (List.mem_cons_of_mem _ hq)) (by simp at hn ⊢; omega)
    show lexF (k + 1) ((qtOf p).cps.toList ++ [32] ++ jn [32] ((p' :: ps).map fun p => (qtOf p).cps.toList)) .s0 = _
    rw [List.append_assoc, List.singleton_append, lex_cons (h p (List.mem_cons_self ..)), ih]
    rfl
theorem lex_line2 : ∀ (ps : List Str) (n : Nat) (c : Nat) (cs : List Nat), ps ≠ [] → (∀ p ∈ ps, Pth p) → ps.length < n → lexF n (jn [32] (ps.map fun p => (qtOf p).cps.toList) ++ 32 :: 35 :: c :: cs) .s0 = some ps
  | [], _, _, _, h, _, _ => absurd rfl h
  | [p], n, c, cs, _, h, hn => by
    obtain ⟨k, rfl⟩ : ∃ k, n = k + 1 + 1 := ⟨n - 2, by simp at hn; omega⟩
    show lexF (k + 1 + 1) ((qtOf p).cps.toList ++ 32 :: 35 :: c :: cs) .s0 = _
    rw [lex_cons (h p (List.mem_cons_self ..)), lex_rem]
    rfl
  | p :: p' :: ps, n, c, cs, _, h, hn => by
    obtain ⟨k, rfl⟩ : ∃ k, n = k + 1 := ⟨n - 1, by simp at hn; omega⟩
    have ih := lex_line2 (p' :: ps) k c cs (by simp) (fun q hq => h q (List.mem_cons_of_mem _ hq)) (by simp at hn ⊢; omega)
    show lexF (k + 1) ((qtOf p).cps.toList ++ [32] ++ jn [32] ((p' :: ps).map fun p => (qtOf p).cps.toList) ++ 32 :: 35 :: c :: cs) .s0 = _
    rw [List.append_assoc, List.append_assoc, List.singleton_append, lex_cons (h p (List.mem_cons_self ..)), ih]
    rfl

end

/-! ## G4 -/
section
open PySem.Calls PySem.Spec
section
variable {prog : Program} {w : World} {A₀ A : Around} {s : Shared} {base h₀ : Heap} {outer : List Env} {L : Addr} {m : Str → Option Value} {env : Env} {news : List (Addr × Obj)}
  {R : Result → Shared → Prop} {name qual : Str} {params : Arguments} {body : List Stmt} {scope : Scope} {cl : List (Str × Addr)} {dV kV doc pm cdv ct : Value} {an : Option Addr} {f : Addr} {args : Args} {binds : List (Str × Value)}
theorem frameG {E : Value → Shared → Prop} (B : Below A₀ base outer h₀) (F : Fr h₀ L s.heap m) (N : News h₀ L s.heap news) (hlim : h₀.NoLimit) (hA : A.frames = some (env :: outer)) (hf : env.frame = some L) (hke : env.scope.kind = .function)
    (hloc : ∀ y ∈ binds, scope.names.lookup y.1 = some .local)
    (h : ∀ g L' h₁, Fr h₀ L g m → Fr g L' h₁ (fun y => binds.reverse.lookup y) → News g L' h₁ news → Below A base (env :: outer) g → h₀.StaysIn g → GSub s.heap g (news.map (·.1)) →
      wpAny (model prog w) (A.deeper (envX qual scope L' f cdv cl)) (execs body (envX qual scope L' f cdv cl))
        (fun fl s' => LeaveK h₀ L m g R (match fl with | .ret v => v | _ => .none) s')
        (fun e s' => wpAny (model prog w) (A.deeper (envX qual scope L' f cdv cl)) (leaving (envX qual scope L' f cdv cl) e) (fun _ s'' => R (.error e) s'') (fun e' s'' => R (.error e') s'') s')
        { s with heap := h₁, toks := s.toks + binds.length })
    (hcell : ∀ x ∈ scope.names, x.2 ≠ .cell) (hk : scope.kind = .function) :
    wpAny (model prog w) A.in1 (newFunctionEnv scope mainGlobals cl binds (qual ++ ".<locals>.") (some f) cdv none builtinsNs) (fun env' s₂ => s₂.heap.NoLimit ∧ codeAny (model prog w) A (.func body env') R s₂) E s := by
  obtain ⟨FG, BG, st, lv⟩ := groundX (R := R) B F N hA hf hke
  refine wpAny_newFunctionEnv hcell hloc (fun h₁ hns hsb => ⟨(hlim.keeps F.keep).fresh _ hsb, codeAny_func ?_⟩) hk
  have hk₁ : ∀ b o, s.heap.get? b = some o → h₁.get? b = some o := fun b o e => hsb.extBut b o (Nat.ne_of_lt (Heap.lt_size e)) (Heap.get?_push_of_some _ e)
  show wpAny (model prog w) (A.deeper (envX qual scope s.heap.objs.size f cdv cl)) (execs body (envX qual scope s.heap.objs.size f cdv cl)) _ _ _
  exact wpAny_mono (h _ s.heap.objs.size h₁ FG ⟨hns, fun b o e => hk₁ b o (of_hideAll _ e), Nat.le_of_eq (hideAll_size _ _)⟩
    (fun p hp => ⟨hk₁ _ _ (N p hp).1, Nat.ne_of_lt (Heap.lt_size (N p hp).1), hideAll_none _ (List.mem_map_of_mem hp)⟩) BG st (fun b o e n => hideAll_get _ e n)) (fun fl s' hl => lv _ _ hl) fun _ _ y => y
end
section
variable {prog : Program} {w : World} {A A₀ : Around} {s : Shared} {K : Frag} {L : Addr} {h₀ base : Heap} {m mg mb : Str → Option Value} {news : List (Addr × Obj)} {p : Program} {loose : List Str} {mean : ExcName → Option Value}
theorem restG {env : Env} {outer : List Env} {R : Result → Shared → Prop} {name qual : Str} {params : Arguments} {body : List Stmt} {scope : Scope} {dV kV doc pm cdv ct oc : Value} {an od : Option Addr} {osl : Array (Option Value)} {f : Addr} {args : Args} {vs : List Value} {g₁ : Addr → Option (List (Str × Value))} {binds : Addr → List (Str × Value)}
    (B : Below A₀ base outer h₀) (F : Fr h₀ L s.heap m) (X₀ : K.In h₀) (N : News h₀ L s.heap news) (T : Top p loose mean mg mb h₀) (hA : A.frames = some (env :: outer)) (hf : env.frame = some L) (hke : env.scope.kind = .function)
    (ho : K.lookup f = some ⟨oc, od, .func (fnOf name qual params body scope dV kV doc pm an cdv ct), osl⟩) (hcd : codeIn K cdv qual = true) (hroom : A.depth < recursionLimit)
    (hv : args.pos.drop (params.posonlyargs.length + params.args.length) = vs)
    (hp : peek1 K ⟨prog, w.params⟩ (bindArgs (fnOf name qual params body scope dV kV doc pm an cdv ct) args) = some (({ cls := .type "tuple", data := .seq vs.toArray } : Obj), g₁))
    (hg : ∀ D, g₁ D = some (binds D)) (hloc : ∀ D, ∀ y ∈ binds D, scope.names.lookup y.1 = some .local)
    (h : ∀ D g L' h₁, Fr h₀ L g m → Fr g L' h₁ (fun y => (binds D).reverse.lookup y) → News g L' h₁ [(D, ({ cls := .type "tuple", data := .seq vs.toArray } : Obj))] → Below A base (env :: outer) g → K.In g → Top p loose mean mg mb g → (∀ p ∈ news, g.get? p.1 = some p.2) →
      wpAny (model prog w) (A.deeper (envOf qual scope L' f cdv)) (execs body (envOf qual scope L' f cdv))
        (fun fl s' => LeaveK h₀ L m g R (match fl with | .ret v => v | _ => .none) s')
        (fun e s' => wpAny (model prog w) (A.deeper (envOf qual scope L' f cdv)) (leaving (envOf qual scope L' f cdv) e) (fun _ s'' => R (.error e) s'') (fun e' s'' => R (.error e') s'') s')
        { s with heap := h₁, toks := s.toks + (binds D).length })
    (hco : scope.isCoroutine = false) (hgen : scope.isGenerator = false) (hk : scope.kind = .function)
    (hcell : ∀ x ∈ scope.names, x.2 ≠ .cell) : codeAny (model prog w) A (.call (.ref f) args) R s := by
  have _ := hv
  refine codeAny_call_function (fd := fnOf name qual params body scope dV kV doc pm an cdv ct) (body := body) hroom ((X₀.keeps F.keep) _ _ ho) rfl hco hgen rfl (codeRec_of (X₀.keeps F.keep) hcd) ?_
  refine wp_of_peek1 (o := ({ cls := .type "tuple", data := .seq vs.toArray } : Obj)) F N (X₀.keeps F.keep) rfl (r := binds) (fun D h' F' N' l => ?_) _ g₁ hp hg
  have N1 : News h₀ L h' [(D, ({ cls := .type "tuple", data := .seq vs.toArray } : Obj))] := fun p hp => N' p (by rw [List.mem_singleton.mp hp]; exact List.mem_cons_self ..)
  exact frameG (cl := []) (s := { s with heap := h' }) B F' N1 T.nolimit hA hf hke (hloc D) (fun g L' h₁ FG FL NG BG st GS => h D g L' h₁ FG FL NG BG (X₀.keeps st) (T.keeps st) (fun p hp => GS _ _ (N' p (List.mem_cons_of_mem _ hp)).1 (by simp only [List.map_cons, List.map_nil, List.mem_singleton]; exact Nat.ne_of_lt (l p hp)))) hcell hk
end
theorem news_backR {h₀ H g h' : Heap} {L L' : Addr} {m' : Str → Option Value} {news : List (Addr × Obj)} (N : News h₀ L H news) (G : ∀ p ∈ news, g.get? p.1 = some p.2) (F : Fr g L' h' m') : News h₀ L h' news :=
  fun p hp => ⟨F.keep _ _ (G p hp), (N p hp).2⟩

end

/-! ## G12 -/
section
open PySem.Calls PySem.Spec
/-! exceptions in a deep frame: the ground of the caller turns (the slots of the frames below) -/
noncomputable abbrev frs (l : List Env) : List Addr := l.filterMap (·.frame)
theorem turn_nilF {g g' h : Heap} {L : Addr} {m : Str → Option Value} (T : KtsTurn [] g g') (F : Fr g' L h m) : Fr g L h m :=
  ⟨F.ns, fun b o e => F.keep b o (T.other b o e (by simp)), T.size ▸ F.above⟩
theorem turn_nilN {g g' h : Heap} {L : Addr} {news : List (Addr × Obj)} (T : KtsTurn [] g g') (N : News g' L h news) : News g L h news :=
  fun p hp => ⟨(N p hp).1, (N p hp).2.1, by
    cases q : g.get? p.1 with
    | none => rfl
    | some o => have := T.other _ _ q (by simp); rw [(N p hp).2.2] at this; cases this⟩
theorem newsT_back {A₀ : Around} {base h₀ H g g' h' h₀' : Heap} {env : Env} {outer : List Env} {L L' : Addr} {m' : Str → Option Value} {news : List (Addr × Obj)} (hf : env.frame = some L) (B : Below A₀ base outer h₀) (N : News h₀ L H news) (G : GSub H g []) (T : KtsTurn (frs (env :: outer)) g g') (F : Fr g' L' h' m') (T1 : KtsTurn (frs outer) h₀ h₀') : News h₀' L h' news :=
  fun p hp => ⟨F.keep _ _ (T.other _ _ (G _ _ (N p hp).1 (by simp)) fun hm => by
    obtain ⟨e, he, q⟩ := List.mem_filterMap.mp hm
    rcases List.mem_cons.mp he with rfl | he
    · exact (N p hp).2.1 (Option.some.inj (hf.symm.trans q)).symm
    · obtain ⟨_, o, ho, _⟩ := B.frames.mem (List.mem_filterMap.mpr ⟨e, he, q⟩)
      exact absurd ((N p hp).2.2.symm.trans ho) (by simp)), (N p hp).2.1, T1.none_ _ (N p hp).2.2⟩
noncomputable def LeaveT (A₀ : Around) (base : Heap) (env : Env) (outer : List Env) (h₀ : Heap) (L : Addr) (m : Str → Option Value) (g : Heap) (R : Result → Shared → Prop) (v : Value) (s' : Shared) : Prop :=
  ∃ g' L' m' news', KtsTurn (frs (env :: outer)) g g' ∧ Fr g' L' s'.heap m' ∧ News g' L' s'.heap news' ∧ ∀ h₀', KtsTurn (frs outer) h₀ h₀' → Below A₀ base outer h₀' → Fr h₀' L s'.heap m → News h₀' L s'.heap news' → R (.ok (.ret v)) s'
theorem leaveT_ {A₀ : Around} {base : Heap} {env : Env} {outer : List Env} {h₀ g g' : Heap} {L L' : Addr} {m m' : Str → Option Value} {news' : List (Addr × Obj)} {R : Result → Shared → Prop} {v : Value} {s' : Shared} (T : KtsTurn (frs (env :: outer)) g g') (F' : Fr g' L' s'.heap m') (N' : News g' L' s'.heap news')
    (k : ∀ h₀', KtsTurn (frs outer) h₀ h₀' → Below A₀ base outer h₀' → Fr h₀' L s'.heap m → News h₀' L s'.heap news' → R (.ok (.ret v)) s') : LeaveT A₀ base env outer h₀ L m g R v s' := ⟨g', L', m', news', T, F', N', k⟩
section
variable {prog : Program} {w : World} {A₀ A : Around} {s : Shared} {base h₀ : Heap} {env : Env} {outer : List Env} {L : Addr} {m : Str → Option Value} {news : List (Addr × Obj)} {K : Frag} {p : Program} {loose : List Str} {mean : ExcName → Option Value} {mg mb : Str → Option Value}
    {R : Result → Shared → Prop} {name qual : Str} {params : Arguments} {body : List Stmt} {scope : Scope} {dV kV doc pm cdv ct oc : Value} {an od : Option Addr} {osl : Array (Option Value)} {f : Addr} {args : Args} {binds : List (Str × Value)}
theorem mem_frs {b : Addr} (hf : env.frame = some L) (hb : b ∈ frs (env :: outer)) : b = L ∨ b ∈ frs outer := by
  obtain ⟨e, he, q⟩ := List.mem_filterMap.mp hb
  rcases List.mem_cons.mp he with rfl | he
  · exact .inl (Option.some.inj (hf.symm.trans q)).symm
  · exact .inr (List.mem_filterMap.mpr ⟨e, he, q⟩)
theorem code_defT (B : Below A₀ base outer h₀) (F : Fr h₀ L s.heap m) (X₀ : K.In h₀) (N : News h₀ L s.heap news) (T : Top p loose mean mg mb h₀) (hA : A.frames = some (env :: outer)) (hf : env.frame = some L) (hke : env.scope.kind = .function)
    (ho : K.lookup f = some ⟨oc, od, .func (fnOf name qual params body scope dV kV doc pm an cdv ct), osl⟩) (hcd : codeIn K cdv qual = true) (hroom : A.depth < recursionLimit)
    (hbind : BindsTo s (fnOf name qual params body scope dV kV doc pm an cdv ct) args binds) (hloc : ∀ y ∈ binds, scope.names.lookup y.1 = some .local)
    (h : ∀ g L' h₁, Fr h₀ L g m → Fr g L' h₁ (fun y => binds.reverse.lookup y) → News g L' h₁ news → Below A base (env :: outer) g → K.In g → Top p loose mean mg mb g → GSub s.heap g (news.map (·.1)) →
      wpAny (model prog w) (A.deeper (envOf qual scope L' f cdv)) (execs body (envOf qual scope L' f cdv))
        (fun fl s' => LeaveT A₀ base env outer h₀ L m g R (match fl with | .ret v => v | _ => .none) s')
        (fun e s' => wpAny (model prog w) (A.deeper (envOf qual scope L' f cdv)) (leaving (envOf qual scope L' f cdv) e) (fun _ s'' => R (.error e) s'') (fun e' s'' => R (.error e') s'') s')
        { s with heap := h₁, toks := s.toks + binds.length })
    (hco : scope.isCoroutine = false) (hgen : scope.isGenerator = false) (hk : scope.kind = .function)
    (hcell : ∀ x ∈ scope.names, x.2 ≠ .cell) : codeAny (model prog w) A (.call (.ref f) args) R s := by
  obtain ⟨FG, BG, st, _⟩ := groundX (R := R) B F N hA hf hke
  have nL₀ : h₀.get? L = none := kts_self F
  refine codeAny_call_def (fd := fnX name qual params body scope [] dV kV doc pm an cdv ct) (body := body) (binds := binds) hroom ((X₀.keeps F.keep) _ _ ho) rfl (T.nolimit.keeps F.keep) (codeRec_of (X₀.keeps F.keep) hcd) rfl hbind hcell hloc (fun h₁ hns hk₁ => ?_) hco hgen hk
  refine wpAny_mono (h _ s.heap.objs.size h₁ FG ⟨hns, fun b o e => hk₁ b o (of_hideAll _ e), Nat.le_of_eq (hideAll_size _ _)⟩
    (fun p hp => ⟨hk₁ _ _ (N p hp).1, Nat.ne_of_lt (Heap.lt_size (N p hp).1), hideAll_none _ (List.mem_map_of_mem hp)⟩) BG (X₀.keeps st) (T.keeps st) (fun b o e n => hideAll_get _ e n)) (fun fl s' hl => ?_) fun _ _ y => y
  obtain ⟨g', L', m', news', T', F', N', k⟩ := hl
  obtain ⟨oL, es, ep, hLg, hLd, hLk, hLf⟩ := FG.ns
  obtain ⟨sl, hs⟩ := T'.up hLg
  obtain ⟨T₁, S₁⟩ := kts_turn_at (h := s'.heap) (fs := frs outer) (g := h₀)
    (fun b hb => by
      obtain ⟨_, o, ho', _⟩ := B.frames.mem hb
      exact ⟨o, ho'⟩)
    (fun b o e nmem => F'.keep b o (T'.other b o (st b o e) (fun q => by
      rcases mem_frs hf q with z | z
      · rw [z, nL₀] at e
        cases e
      · exact nmem z)))
    (fun b o e hm => by
      obtain ⟨sl', hs'⟩ := T'.up (st b o e)
      exact ⟨sl', F'.keep _ _ hs'⟩)
  have B₃ : Below A₀ base outer (ktsHeap s'.heap (frs outer) h₀) := ⟨B.stack, fun b o e => T₁.other b o (B.stays b o e) (fun hm => by
    rw [(B.frames.mem hm).1] at e
    cases e), B.frames.of_keeps fun b o e _ => by
    obtain ⟨sl', hs'⟩ := T₁.up e
    exact ⟨_, hs', rfl⟩⟩
  refine k _ T₁ B₃ ⟨⟨_, es, ep, F'.keep _ _ hs, hLd, hLk, hLf⟩, S₁, by rw [T₁.size]; exact F.above⟩ (fun p hp => ⟨(N' p hp).1, fun q => ?_, ?_⟩)
  · have := (N' p hp).2.2; rw [q, hs] at this; cases this
  · refine T₁.none_ _ ?_
    cases q : h₀.get? p.1 with
    | none => rfl
    | some o =>
      obtain ⟨sl', hs'⟩ := T'.up (st _ _ q)
      have := (N' p hp).2.2
      rw [hs'] at this
      cases this
end
section
variable {M : Model} {A : Around} {E : Value → Shared → Prop} {s : Shared} {h₀ G base : Heap} {L : Addr} {m : Str → Option Value} {A₀ : Around}
theorem owit_stopS {Q : Option Value → Shared → Prop} {env : Env} {outer : List Env} {e t : Addr} {vs : List Value} {news : List (Addr × Obj)} {X : String} (hf : env.frame = some L)
    (R : RaisedS base G (env :: outer) e (.type X) t vs news s.heap) (hsm : G.UpToSlots s.heap) (F : Fr h₀ L G m) (K : Below A₀ base outer h₀) (hsub : isSubtype (.type X) (.type "StopIteration") = pure true)
    (k : ∀ (g' B' : Heap), KtsTurn (frs outer) h₀ g' → Below A₀ base outer g' → Fr g' L s.heap m → News g' L s.heap news → (∀ b o, G.get? b = some o → b ∉ frs (env :: outer) → B'.get? b = some o) → (∀ b o, B'.get? b = some o → s.heap.get? b = some o) → Q none s) : OwitStop M A Q E (.ref e) s := by
  obtain ⟨⟨B, hB, hBG, hl, hfl, hnew⟩, htup⟩ := R
  have hL : B.get? L = none := by
    obtain ⟨_, ⟨L', _, hf', hn', _⟩, _⟩ := hfl.2.2.1
    obtain rfl : L = L' := Option.some.inj (hf.symm.trans hf')
    exact hn'
  have hf' := flyingW_base hB hfl
  obtain ⟨ob, hob, hobc⟩ := hf'.there
  have hT : s.TypeIs (.ref e) X := (show ∃ o, s.heap.get? e = some o ∧ o.cls = .type X from ⟨ob, hob, hobc⟩)
  unfold OwitStop
  refine wpAny_isInstance hT hsub ?_
  show (if true = true then Q none s else E (.ref e) s)
  rw [if_pos rfl]
  have nL₀ : h₀.get? L = none := kts_self F
  obtain ⟨T, S⟩ := kts_turn_at (h := s.heap) (fs := frs outer) (g := h₀)
    (fun b hb => by
      obtain ⟨_, o, ho, _⟩ := K.frames.mem hb
      exact ⟨o, ho⟩)
    (fun b o e nm => hfl.1 b o (hBG b o (F.keep b o e) (fun hm => by
      rcases mem_frs hf hm with z | z
      · rw [z, nL₀] at e
        cases e
      · exact nm z)))
    (fun b o e hm => by
      obtain ⟨_, o', ho', hd⟩ := K.frames.mem hm
      rw [e] at ho'
      cases ho'
      exact hsm b o (F.keep b o e) hd)
  refine k _ B T ⟨K.stack, fun b o e => T.other b o (K.stays b o e) (fun hm => by
    rw [(K.frames.mem hm).1] at e
    cases e), K.frames.of_keeps fun b o e _ => ?_⟩ ⟨hsm.ns F.ns, S, by rw [T.size]; exact F.above⟩ (fun q hq => ⟨hfl.1 _ _ (hl q hq).1, (fun z => by have := (hl q hq).1; rw [z, hL] at this; cases this), T.none_ _ (kts_none F.keep (hl q hq).2.1)⟩) hBG hfl.1
  obtain ⟨sl, hs⟩ := T.up e
  exact ⟨_, hs, rfl⟩
end

end

/-! ## G15 -/
section
open PySem.Calls PySem.Spec
set_option maxRecDepth 100000
/-! exceptions raised and caught in a deep frame: the exception and its traceback stand in the ledger -/
noncomputable def XNew (g : Heap) (L : Addr) (h : Heap) (news : List (Addr × Obj)) (X : String) (c : Value) (e : Addr) : Prop :=
  ∃ oe vs, News g L h ((e, oe) :: news) ∧ oe.cls = .type X ∧ oe.data = .fields vs ∧ vs[1]? = some .none ∧ vs[2]? = some c ∧ ∀ p ∈ news, p.1 ≠ e
structure XAt (g : Heap) (L : Addr) (h : Heap) (news : List (Addr × Obj)) (X : String) (fl c : Value) (e T : Addr) (oe oT : Obj) : Prop where
  N : News g L h ((e, oe) :: (T, oT) :: news)
  cls : oe.cls = .type X
  fe : ∃ vs, oe.data = .fields vs ∧ vs[1]? = some (.ref T) ∧ vs[2]? = some c
  fT : ∃ ts, oT.data = .fields ts ∧ ts[3]? = some fl
  ne : e ≠ T
  off : ∀ p ∈ news, p.1 ≠ e ∧ p.1 ≠ T
theorem XNew.sub {g h : Heap} {L : Addr} {news news' : List (Addr × Obj)} {X : String} {c : Value} {e : Addr} (x : XNew g L h news X c e) (hs : ∀ p ∈ news', p ∈ news) : XNew g L h news' X c e := by
  obtain ⟨oe, vs, N, hc, hd, h1, h2, hoff⟩ := x
  refine ⟨oe, vs, fun p hp => N p ?_, hc, hd, h1, h2, fun p hp => hoff p (hs p hp)⟩
  rcases List.mem_cons.mp hp with rfl | hp
  · exact List.mem_cons_self ..
  · exact List.mem_cons_of_mem _ (hs p hp)
theorem XAt.sub {g h : Heap} {L : Addr} {news news' : List (Addr × Obj)} {X : String} {fl c : Value} {e T : Addr} {oe oT : Obj} (x : XAt g L h news X fl c e T oe oT) (hs : ∀ p ∈ news', p ∈ news) : XAt g L h news' X fl c e T oe oT := by
  refine ⟨fun p hp => x.N p ?_, x.cls, x.fe, x.fT, x.ne, fun p hp => x.off p (hs p hp)⟩
  rcases List.mem_cons.mp hp with rfl | hp
  · exact List.mem_cons_self ..
  · rcases List.mem_cons.mp hp with rfl | hp
    · exact List.mem_cons_of_mem _ (List.mem_cons_self ..)
    · exact List.mem_cons_of_mem _ (List.mem_cons_of_mem _ (hs p hp))
section
variable {M : Model} {A A₀ : Around} {E : Value → Shared → Prop} {s : Shared} {base g h : Heap} {env : Env} {outer : List Env} {L : Addr} {m : Str → Option Value} {news : List (Addr × Obj)} {X : String} {e T : Addr} {oe oT : Obj} {fl c : Value} {Q : Unit → Shared → Prop}
theorem slots_T {h₁ : Heap} (hf : env.frame = some L) (K : Below A₀ base outer g) (F : Fr g L h m) (N : News g L h news) (hs : Heap.SlotsOnly (frs (env :: outer)) h h₁) :
    ∃ g₁, KtsTurn (frs outer) g g₁ ∧ Below A₀ base outer g₁ ∧ Fr g₁ L h₁ m ∧ News g₁ L h₁ news := by
  have nL := kts_self F
  have hup : h.UpToSlots h₁ := fun b o e _ => hs.2.2 b o e
  obtain ⟨T, S⟩ := kts_turn_at (h := h₁) (fs := frs outer) (g := g)
    (fun b hb => by obtain ⟨_, o, ho, _⟩ := K.frames.mem hb; exact ⟨o, ho⟩)
    (fun b o e nm => (hs.2.1 b (fun hm => by
      rcases mem_frs hf hm with z | z
      · rw [z, nL] at e; cases e
      · exact nm z)).trans (F.keep b o e))
    (fun b o e _ => hs.2.2 b o (F.keep b o e))
  refine ⟨_, T, ⟨K.stack, fun b o e => T.other b o (K.stays b o e) (fun hm => by rw [(K.frames.mem hm).1] at e; cases e), K.frames.of_keeps fun b o e _ => ?_⟩, ⟨hup.ns F.ns, S, by rw [T.size]; exact F.above⟩, fun p hp => ⟨(hs.2.1 p.1 fun hm => ?_).trans (N p hp).1, (N p hp).2.1, T.none_ _ (N p hp).2.2⟩⟩
  · obtain ⟨sl, hs'⟩ := T.up e; exact ⟨_, hs', rfl⟩
  · rcases mem_frs hf hm with z | z
    · exact (N p hp).2.1 z
    · obtain ⟨_, o, ho, _⟩ := K.frames.mem z
      rw [(N p hp).2.2] at ho; cases ho
theorem xnew_of {h' : Heap} (F : Fr g L h m) (N : News g L h news) (hx : Heap.NewExc h h' e X) : Fr g L h' m ∧ XNew g L h' news X .none e := by
  obtain ⟨ob, t, he, hc, hd⟩ := hx.there
  refine ⟨F.keeps hx.keeps, ob, _, fun p hp => ?_, hc, hd, rfl, rfl, fun p hp q => ?_⟩
  · rcases List.mem_cons.mp hp with rfl | hp
    · refine ⟨he, fun q => ?_, kts_none F.keep hx.new⟩
      obtain ⟨oL, _, _, hL, _⟩ := F.ns
      have h2 := hx.new
      rw [show e = L from q, hL] at h2; cases h2
    · exact ⟨hx.keeps _ _ (N p hp).1, (N p hp).2⟩
  · have h1 := (N p hp).1
    rw [q, hx.new] at h1; cases h1
theorem funFrames_T (hf : env.frame = some L) (hmod : env.scope.kind ≠ .module) (K : Below A₀ base outer g) (F : Fr g L h m) : h.FunFrames base (env :: outer) := by
  obtain ⟨oL, es, ep, hL, hd, _⟩ := F.ns
  refine ⟨hmod, ⟨L, oL, hf, ?_, hL, fun vs q => by rw [hd] at q; cases q⟩, K.frames.of_keeps fun b o e _ => ⟨o, F.keep b o e, rfl⟩⟩
  exact kts_none K.stays (kts_self F)
theorem note_new (hfr : A.frames = some (env :: outer)) (hf : env.frame = some L) (hmod : env.scope.kind ≠ .module) (K : Below A₀ base outer g) (F : Fr g L s.heap m) (x : XNew g L s.heap news X c e)
    (k : ∀ g₁ h₁ T oe oT, KtsTurn (frs outer) g g₁ → Below A₀ base outer g₁ → Fr g₁ L h₁ m → XAt g₁ L h₁ news X (rawInt L) c e T oe oT → Q () { s with heap := h₁ }) :
    wpAny M A (noteFrame (.ref e) env) Q E s := by
  obtain ⟨oe, vs, N, hc, hd, h1, h2, hoff⟩ := x
  have he := (N _ (List.mem_cons_self ..)).1
  unfold noteFrame
  simp only [hf]
  refine wpAny_bind (wpAny_field he hd h1 ?_)
  rw [if_neg (by decide)]
  refine wpAny_bind (wpAny_frameOf_fun hfr (funFrames_T hf hmod K F) hf fun h₁ hs₁ => ?_)
  obtain ⟨g₁, T1, K1, F1, N1⟩ := slots_T hf K F N hs₁
  refine wpAny_bind (wpAny_entryPlaceOf fun pl hpl => ?_)
  unfold EntryCells.newEntry newFields
  refine wpAny_bind (wpAny_newObj_type ?_ (hpl.sizeOk5 _ _ _ _ _))
  have he1 := (N1 _ (List.mem_cons_self ..)).1
  have heT : e ≠ h₁.objs.size := Nat.ne_of_lt (Heap.lt_size he1)
  have hsz : 1 < vs.size := (Array.getElem?_eq_some_iff.mp h1).1
  generalize hoT : ({ cls := .type "traceback", dict := none, data := .fields ([Value.none, .ref L, .none, rawInt L, .none] ++ (if pl.isEmpty then List.replicate 6 Value.none else pl)).toArray } : Obj) = oT
  have he2 := Heap.get?_push_of_some oT he1
  refine wpAny_setField he2 hd hsz ?_
  have hd3 := Obj.data_mapFields hd (·.setIfInBounds 1 (Value.ref h₁.objs.size))
  have he3 := Heap.get?_update_self (Obj.mapFields (·.setIfInBounds 1 (Value.ref h₁.objs.size))) he2 (Obj.isFreed_of_fields hd3)
  have hb := Heap.SameBut.update (h₁.push oT) e (Obj.mapFields (·.setIfInBounds 1 (Value.ref h₁.objs.size)))
  refine k g₁ _ h₁.objs.size _ oT T1 K1 ((F1.push oT).change hb (N1 _ (List.mem_cons_self ..)).2.1 (N1 _ (List.mem_cons_self ..)).2.2) ⟨fun p hp => ?_, (Obj.cls_mapFields _ _).trans hc, ⟨_, hd3, by simp [hsz], by rw [Array.getElem?_setIfInBounds_ne (by decide)]; exact h2⟩, ?_, heT, fun p hp => ⟨hoff p hp, Nat.ne_of_lt (Heap.lt_size (N1 p (List.mem_cons_of_mem _ hp)).1)⟩⟩
  · rcases List.mem_cons.mp hp with rfl | hp
    · exact ⟨he3, (N1 _ (List.mem_cons_self ..)).2⟩
    · rcases List.mem_cons.mp hp with rfl | hp
      · refine ⟨(hb.2 _ (Ne.symm heT)).trans (Heap.get?_push_size h₁ ?_), fun q => absurd F1.ns.lt (by rw [← q]; exact Nat.lt_irrefl _), next_is_new F1⟩
        rw [← hoT]; rfl
      · have N2 := N1 p (List.mem_cons_of_mem _ hp)
        exact ⟨(hb.2 _ (hoff p hp)).trans (Heap.get?_push_of_some _ N2.1), N2.2⟩
  · refine ⟨_, by rw [← hoT], ?_⟩
    first | (simp; done) | (rcases hpl with rfl | ⟨_, _, _, _, _, _, _, rfl⟩ <;> simp)
theorem flight_T {f : Option Addr} (F : Fr g L s.heap m) (x : XAt g L s.heap news X fl c e T oe oT)
    (k : ∀ h₁ oT', Fr g L h₁ m → XAt g L h₁ news X (f.elim .none fun f => rawInt f) c e T oe oT' → Q () { s with heap := h₁ }) : wpAny M A (setFlight (.ref e) f) Q E s := by
  obtain ⟨N, hc, ⟨vs, hd, h1, h2⟩, ⟨ts, hdT, h3⟩, hne, hoff⟩ := x
  have he := N _ (List.mem_cons_self ..)
  have hT := N _ (List.mem_cons_of_mem _ (List.mem_cons_self ..))
  have hsz : 3 < ts.size := (Array.getElem?_eq_some_iff.mp h3).1
  unfold setFlight
  refine wpAny_bind (wpAny_field he.1 hd h1 ?_)
  rw [if_pos (show (Value.ref T != Value.none) = true from by simp)]
  refine wpAny_setField hT.1 hdT hsz ?_
  have hd3 := Obj.data_mapFields hdT (·.setIfInBounds 3 (f.elim Value.none fun f => rawInt f))
  have hT3 := Heap.get?_update_self (Obj.mapFields (·.setIfInBounds 3 (f.elim Value.none fun f => rawInt f))) hT.1 (Obj.isFreed_of_fields hd3)
  have hb := Heap.SameBut.update s.heap T (Obj.mapFields (·.setIfInBounds 3 (f.elim Value.none fun f => rawInt f)))
  refine k _ _ (F.change hb hT.2.1 hT.2.2) ⟨fun p hp => ?_, hc, ⟨vs, hd, h1, h2⟩, ⟨_, hd3, by simp [hsz]⟩, hne, hoff⟩
  rcases List.mem_cons.mp hp with rfl | hp
  · exact ⟨(hb.2 _ hne).trans he.1, he.2⟩
  · rcases List.mem_cons.mp hp with rfl | hp
    · exact ⟨hT3, hT.2⟩
    · have N2 := N p (List.mem_cons_of_mem _ (List.mem_cons_of_mem _ hp))
      exact ⟨(hb.2 _ (hoff p hp).2).trans N2.1, N2.2⟩
theorem note_again (hf : env.frame = some L) (x : XAt g L s.heap news X (rawInt L) c e T oe oT) (k : Q () s) : wpAny M A (noteFrame (.ref e) env) Q E s := by
  obtain ⟨N, hc, ⟨vs, hd, h1, h2⟩, ⟨ts, hdT, h3⟩, hne, hoff⟩ := x
  unfold noteFrame
  simp only [hf]
  refine wpAny_bind (wpAny_field (N _ (List.mem_cons_self ..)).1 hd h1 ?_)
  rw [if_pos (show (Value.ref T != Value.none) = true from by simp)]
  refine wpAny_bind (wpAny_field (N _ (List.mem_cons_of_mem _ (List.mem_cons_self ..))).1 hdT h3 ?_)
  rw [if_pos (show (rawInt L == rawInt L) = true from by simp)]
  exact wpAny_pure k
noncomputable def XAny (A₀ : Around) (base : Heap) (outer : List Env) (g : Heap) (L : Addr) (h : Heap) (m : Str → Option Value) (news : List (Addr × Obj)) (X : String) (c : Value) (e : Addr) : Prop :=
  (Below A₀ base outer g ∧ Fr g L h m ∧ XNew g L h news X c e) ∨ ∃ g1 T oe oT, KtsTurn (frs outer) g g1 ∧ Below A₀ base outer g1 ∧ Fr g1 L h m ∧ XAt g1 L h news X (rawInt L) c e T oe oT
theorem note_any (hfr : A.frames = some (env :: outer)) (hf : env.frame = some L) (hmod : env.scope.kind ≠ .module) (x : XAny A₀ base outer g L s.heap m news X c e)
    (k : ∀ g₁ h₁ T oe oT, KtsTurn (frs outer) g g₁ → Below A₀ base outer g₁ → Fr g₁ L h₁ m → XAt g₁ L h₁ news X (rawInt L) c e T oe oT → Q () { s with heap := h₁ }) :
    wpAny M A (noteFrame (.ref e) env) Q E s := by
  rcases x with ⟨K, F, x⟩ | ⟨g1, T, oe, oT, T1, K1, F1, xa⟩
  · exact note_new hfr hf hmod K F x k
  · exact note_again hf xa (k g1 _ T oe oT T1 K1 F1 xa)
theorem passOn_T {α : Type} {what : String} {Q : α → Shared → Prop} (hf : env.frame = some L) (F : Fr g L s.heap m) (x : XAt g L s.heap news X fl c e T oe oT)
    (k : ∀ h₁ oT', Fr g L h₁ m → XAt g L h₁ news X (rawInt L) c e T oe oT' → E (.ref e) { s with heap := h₁ }) : wpAny M A (PySem.passOn what (.ref e) env : Sem α) Q E s := by
  obtain ⟨vs, hd, h1, h2⟩ := x.fe
  unfold PySem.passOn
  refine wpAny_bind (wpAny_field (x.N _ (List.mem_cons_self ..)).1 hd h1 ?_)
  rw [if_neg (show ¬ (Value.ref T == Value.none) = true from by simp), hf]
  exact wpAny_bind (flight_T F x fun h₁ oT' F' x' => wpAny_throw (k h₁ oT' F' x'))
theorem cameBack_T (hf : env.frame = some L) (F : Fr g L s.heap m) (x : XAt g L s.heap news X fl c e T oe oT)
    (k : ∀ h₁ oT', Fr g L h₁ m → XAt g L h₁ news X (rawInt L) c e T oe oT' → E (.ref e) { s with heap := h₁ }) : cameBackBy M A env E (.ref e) s := by
  obtain ⟨vs, hd, h1, h2⟩ := x.fe
  unfold cameBackBy
  refine wpAny_bind (wpAny_field (x.N _ (List.mem_cons_self ..)).1 hd h1 ?_)
  rw [if_neg (show ¬ (Value.ref T == Value.none) = true from by simp), hf]
  exact flight_T F x k
end
section
variable {prog : Program} {w : World} {A A₀ : Around} {E : Value → Shared → Prop} {s : Shared} {base g : Heap} {outer : List Env} {L a : Addr} {m : Str → Option Value} {news : List (Addr × Obj)} {X T' : String} {e T : Addr} {oe oT : Obj} {fl c : Value}
  {name : Str} {scope : Scope} {cd : Value} {b₀ : Stmt} {suite : List Stmt} {pos np : Pos} {rest : List ExceptHandler} {KF : Frag} {p : Program} {loose : List Str} {mean : ExcName → Option Value} {mg mb : Str → Option Value} {x : Str}
theorem handle_T {Q : Flow → Shared → Prop} (F : Fr g L s.heap m) (xa : XAt g L s.heap news X fl c e T oe oT) (XB : KF.In g) (TB : Top p loose mean mg mb g)
    (ex : nsIn KF mainGlobals x = some none) (hv : bootBuiltins x = some (.type T')) (hn' : x ≠ "__name__")
    (hexc : isSubtype (.type T') (.type "BaseException") = pure true) (hnt : isSubtype (.type ((Manifest.find? T').elim "type" fun y => y.metatype)) (.type "tuple") = pure false) (hsub : isSubtype (.type X) (.type T') = pure true)
    (k : ∀ h', Fr g L h' m → News g L h' news → wpAny (model prog w) ((A₀.deeper (envOf name scope L a cd)).mark (some (.ref e))) (execs (b₀ :: suite) (envOf name scope L a cd)) Q E { s with heap := h' })
    (hk : scope.kind = .function) (hx : (envOf name scope L a cd).kindOf x = some .globalImplicit) (hd : (x == ("__debug__" : Str)) = false)
    (hE : PassesOwnAt (model prog w) ((A₀.deeper (envOf name scope L a cd)).mark (some (.ref e))) (A₀.deeper (envOf name scope L a cd)) (envOf name scope L a cd) E) :
    wpAny (model prog w) (A₀.deeper (envOf name scope L a cd)) (setFlight (.ref e) none) (fun _ s₃ =>
        wpAny (model prog w) (A₀.deeper (envOf name scope L a cd)) (handleBy (.ref e) (envOf name scope L a cd) (.ExceptHandler (some (.Name x np)) none (b₀ :: suite) pos :: rest)) Q E s₃) E s := by
  refine flight_T F xa fun h₁ oT₁ F₁ x₁ => ?_
  refine wpAny_handleBy_builtin (X := X) (T := T') (b := true) hexc hnt hsub (name_B F₁ XB (topRead_of TB) ex hv hn' ⟨rfl, ⟨oe, (x₁.N _ (List.mem_cons_self ..)).1, x₁.cls⟩, ?_⟩ hk hx hd)
  refine flight_T F₁ x₁ fun h₂ oT₂ F₂ x₂ => ?_
  exact wpAny_passesOwnAt hE (k h₂ F₂ fun p hp => x₂.N p (List.mem_cons_of_mem _ (List.mem_cons_of_mem _ hp)))
theorem entry_unchain : entryFor table "proto.unchain" = some Builtin.«proto.unchain» := entryFor_of_tree (by kernel_rfl)
theorem raise_H {α : Type} {cls msg : String} {Q : α → Shared → Prop} {e1 : Addr} {oe1 : Obj} {vs1 : Array Value} (hp : PlainExc cls) (hh : A.handled = some (.ref e1)) (F : Fr g L s.heap m) (N : News g L s.heap news)
    (hm : (e1, oe1) ∈ news) (hd1 : oe1.data = .fields vs1) (h12 : vs1[2]? = some .none)
    (h : ∀ h' tk e, Fr g L h' m → XNew g L h' news cls (.ref e1) e → E (.ref e) { s with heap := h', toks := tk }) :
    wpAny (model prog w) A (raiseErrorWords cls msg : Sem α) Q E s := by
  have he1 := (N _ hm).1
  unfold raiseErrorWords
  refine wpAny_bind (wpAny_mkText (wpAny_bind ?_))
  unfold newExc newTuple
  refine wpAny_bind (wpAny_newObj_type ?_)
  refine wpAny_bind (m := firstArgMember _ _) (wpAny_of_eq (a := Value.none) (by simp only [firstArgMember, hp.first]; rfl) ?_)
  rw [hp.own]
  refine wpAny_newObj_type ?_
  generalize hO1 : ({ cls := .type "tuple", dict := none, data := .seq _ } : Obj) = O1
  generalize hh1 : s.heap.push O1 = h1
  have hnew : s.heap.get? h1.objs.size = none := Heap.get?_none_of_le (by rw [← hh1, Heap.size_push]; omega)
  have hne : e1 ≠ h1.objs.size := fun q => by rw [q, hnew] at he1; cases he1
  unfold raiseNew
  refine wpAny_bind (wpAny_handled ?_)
  rw [hh]
  dsimp only
  rw [if_pos (show (Value.ref e1 != Value.ref h1.objs.size) = true from by simp [hne])]
  generalize hO2 : ({ cls := .type cls, dict := none, data := .fields _ } : Obj) = O2
  have hd2 : O2.data = .fields #[.ref s.heap.objs.size, .none, .none, .none, .bool false, .none] := by rw [← hO2]; simp
  have hc2 : O2.cls = .type cls := by rw [← hO2]
  have hf2 : O2.isFreed = false := Obj.isFreed_of_fields hd2
  have he2 : (h1.push O2).get? e1 = some oe1 := by
    refine Heap.get?_push_of_some _ ?_
    rw [← hh1]; exact Heap.get?_push_of_some _ he1
  have hx2 : (h1.push O2).get? h1.objs.size = some O2 := Heap.get?_push_size h1 hf2
  have F2 : Fr g L (h1.push O2) m := by rw [← hh1]; exact (F.push O1).push O2
  have N2 : News g L (h1.push O2) news := by rw [← hh1]; exact N.grown fun _ _ q => Heap.get?_push_of_some _ (Heap.get?_push_of_some _ q)
  have nL : h1.objs.size ≠ L := fun q => by
    have h3 : L < s.heap.objs.size := F.ns.lt
    rw [← hh1, Heap.size_push] at q
    have h4 : s.heap.objs.size + 1 = L := q
    exact absurd h3 (by rw [← h4]; exact Nat.not_lt.mpr (Nat.le_succ _))
  have n0 : g.get? h1.objs.size = none := kts_none F.keep hnew
  refine wpAny_bind (wpAny_holding (wpAny_runValue (codeAny_builtin entry_unchain ?_)))
  unfold Builtin.«proto.unchain»
  dsimp only
  refine wpAny_bind (wpAny_field he2 hd1 h12 ?_)
  rw [if_pos (show (Value.none == Value.none) = true from by decide)]
  refine wpAny_bind (wpAny_pure (wpAny_pure ?_))
  show wpAny _ _ (setField (.ref h1.objs.size) 2 (.ref e1) >>= fun _ => throw (.ref h1.objs.size)) _ _ _
  refine wpAny_bind (wpAny_setField hx2 hd2 (by simp) (wpAny_throw ?_))
  have hd3 := Obj.data_mapFields hd2 (·.setIfInBounds 2 (Value.ref e1))
  have he3 := Heap.get?_update_self (Obj.mapFields (·.setIfInBounds 2 (Value.ref e1))) hx2 (Obj.isFreed_of_fields hd3)
  have hb := Heap.SameBut.update (h1.push O2) h1.objs.size (Obj.mapFields (·.setIfInBounds 2 (Value.ref e1)))
  have noff : ∀ p ∈ news, p.1 ≠ h1.objs.size := fun p hp q => by
    have := (N p hp).1
    rw [q, hnew] at this; cases this
  refine h _ _ _ (F2.change hb nL n0) ⟨_, _, fun p hp => ?_, (Obj.cls_mapFields _ _).trans hc2, hd3, by simp, by simp, noff⟩
  rcases List.mem_cons.mp hp with rfl | hp
  · exact ⟨he3, nL, n0⟩
  · exact ⟨(hb.2 _ (noff p hp)).trans (N2 p hp).1, (N p hp).2⟩
theorem getItem_out_H {l e1 : Addr} {oe1 : Obj} {vs1 items : Array Value} {k : Int} {t : Tok} {Q : Value → Shared → Prop} (hh : A.handled = some (.ref e1)) (F : Fr g L s.heap m) (N : News g L s.heap news)
    (hm : (e1, oe1) ∈ news) (hd1 : oe1.data = .fields vs1) (h12 : vs1[2]? = some .none) (hl : s.heap.IsList l items) (hout : (items.size : Int) ≤ k) (hhi : k < 2 ^ 63)
    (h : ∀ h' tk e, Fr g L h' m → XNew g L h' news "IndexError" (.ref e1) e → E (.ref e) { s with heap := h', toks := tk }) :
    wpAny (model prog w) A (getItem (.ref l) (.int k t)) Q E s := by
  obtain ⟨o, ho, hc, ne, hd⟩ := id hl
  unfold getItem
  refine wpAny_holding ?_
  refine wpAny_bind (wpAny_sequenceKey hl.typeIs (by decide) ?_)
  refine wpAny_bind (wpAny_callSpecial?_slot (name := Str.ofString "__getitem__") hl.typeIs slot_list_getitem
    (wpAny_call_entry slot_list_getitem hl.typeIs entry_list_getitem ?_ (args_list_getitem _ _)))
  show wpAny _ _ (Builtin.List.listSubscript? (.int k t) >>= _) _ _ s
  refine wpAny_bind (wpAny_listSubscript_int (fitsIndex_both (by omega) hhi) ?_)
  clear hhi
  obtain ⟨j, rfl⟩ := Int.eq_ofNat_of_zero_le (show 0 ≤ k by omega)
  have hx : items[j]? = none := Array.getElem?_eq_none (by omega)
  show wpAny _ _ ((seqItemAt l j >>= fun r => pure (r.map (j, ·))) >>= _) _ _ s
  refine wpAny_bind (wpAny_bind (wpAny_seqItemAt ho hd (wpAny_pure ?_)))
  rw [hx]
  first
    | exact wpAny_bind (wpAny_rule (raise_H plainExc_IndexError hh F N hm hd1 h12 h))
    | exact wpAny_bind (wpAny_rule (wpAny_bind (raise_H plainExc_IndexError hh F N hm hd1 h12 h)))
    | exact wpAny_bind (wpAny_bind (wpAny_rule (raise_H plainExc_IndexError hh F N hm hd1 h12 h)))
    | exact wpAny_rule (raise_H plainExc_IndexError hh F N hm hd1 h12 h)
theorem item_out_H {value slice : PySem.Expr} {l e1 : Addr} {oe1 : Obj} {vs1 items : Array Value} {j : Int} {u : Tok} {Q : Value → Shared → Prop} (hh : A.handled = some (.ref e1)) (F : Fr g L s.heap m) (N : News g L s.heap news)
    (hm : (e1, oe1) ∈ news) (hd1 : oe1.data = .fields vs1) (h12 : vs1[2]? = some .none) (hl : s.heap.IsList l items) (hout : (items.size : Int) ≤ j) (hhi : j < 2 ^ 63)
    (h : ∀ h' tk e, Fr g L h' m → XNew g L h' news "IndexError" (.ref e1) e → E (.ref e) { s with heap := h', toks := tk })
    (hs : subscripted slice false (.ref l) (.int j u) = operate [.ref l, .int j u] (getItem (.ref l) (.int j u)) := by with_unfolding_all rfl) :
    wpAny (model prog w) A (subscriptTail value slice (.ref l) (.int j u)) Q E s :=
  tail_any hl.typeIs slot_list_getitem.lookup (getItem_out_H hh F N hm hd1 h12 hl hout hhi h) hs
end

end

/-! ## A1 -/
section
open PySem PySem.Spec PyProof.Rows
/-! the plain law: the two difference functions -/
noncomputable def lts (x y : Str) : Bool := ltCps x.cps.toList y.cps.toList
theorem lts_iff {x y : Str} : lts x y = true ↔ x.cps.toList < y.cps.toList := by unfold lts; rw [ltCps_eq]; exact decide_eq_true_iff
theorem lts_irrefl (x : Str) : lts x x = false := by
  rw [← Bool.not_eq_true, lts_iff]; exact List.lt_irrefl _
theorem lts_trans {x y z : Str} (h : lts x y = true) (h' : lts y z = true) : lts x z = true := by
  rw [lts_iff] at *; exact List.lt_trans h h'
theorem lts_asymm {x y : Str} (h : lts x y = true) : lts y x = false := by
  rw [← Bool.not_eq_true]; intro h'
  have := lts_trans h h'
  rw [lts_irrefl] at this; cases this
theorem lts_tri {x y : Str} (h : lts x y = false) (h' : lts y x = false) : x = y := by
  rw [← Bool.not_eq_true, lts_iff] at h h'
  exact Str.ext' (Array.toList_inj.mp (List.le_antisymm (List.not_lt.mp h') (List.not_lt.mp h)))
theorem lts_ne {x y : Str} (h : lts x y = true) : x ≠ y := by
  rintro rfl; rw [lts_irrefl] at h; cases h
/-- sorted: no later one is smaller -/
noncomputable abbrev Srt (l : List Str) : Prop := l.Pairwise (fun a b => lts b a = false)
theorem srt_of_rising : ∀ (l : List Str) (p : Str), risingS p l = true → Srt (p :: l)
  | [], p, _ => List.pairwise_singleton _ _
  | x :: r, p, h => by
    have h' : (!ltCps x.cps.toList p.cps.toList && risingS x r) = true := h
    rw [Bool.and_eq_true, Bool.not_eq_true'] at h'
    have ih := srt_of_rising r x h'.2
    refine List.pairwise_cons.mpr ⟨?_, ih⟩
    intro y hy
    rcases List.mem_cons.mp hy with rfl | hy
    · exact h'.1
    · have h1 := (List.pairwise_cons.mp ih).1 y hy
      rw [← Bool.not_eq_true]; intro h2
      have h3 : lts x p = false := h'.1
      by_cases e : x = y
      · subst e; rw [h2] at h3; cases h3
      · by_cases e2 : lts x y = true
        · rw [lts_trans e2 h2] at h3; cases h3
        · exact e (lts_tri (by simpa using e2) h1)
theorem srt_of_sorted {l : List Str} (h : sortedS l = true) : Srt l := by
  cases l with
  | nil => exact List.Pairwise.nil
  | cons x r => exact srt_of_rising r x h
theorem srt_perm_eq : ∀ {a b : List Str}, Srt a → Srt b → a.Perm b → a = b
  | [], b, _, _, p => (List.nil_perm.mp p).symm
  | x :: a, [], _, _, p => absurd p.length_eq (by simp)
  | x :: a, y :: b, ha, hb, p => by
    have hx : x = y := by
      by_cases e : x = y
      · exact e
      have h1 : x ∈ b := by
        rcases List.mem_cons.mp (p.mem_iff.mp (List.mem_cons_self ..)) with h | h
        · exact absurd h e
        · exact h
      have h2 : y ∈ a := by
        rcases List.mem_cons.mp (p.mem_iff.mpr (List.mem_cons_self ..)) with h | h
        · exact absurd h.symm e
        · exact h
      exact lts_tri ((List.pairwise_cons.mp hb).1 x h1) ((List.pairwise_cons.mp ha).1 y h2)
    subst hx
    rw [srt_perm_eq (List.pairwise_cons.mp ha).2 (List.pairwise_cons.mp hb).2 (List.perm_cons x |>.mp p)]
theorem srt_drop {l : List Str} (h : Srt l) (n : Nat) : Srt (l.drop n) := h.sublist (List.drop_sublist _ _)

noncomputable def dw (e : Str) (l : List Str) : List Str := l.dropWhile (fun x => x == e)
theorem dw_le (e : Str) (l : List Str) : (dw e l).length ≤ l.length := (List.dropWhile_sublist _).length_le
theorem dw_nil (e : Str) : dw e [] = [] := rfl
theorem dw_yes {e x : Str} {l : List Str} (h : (x == e) = true) : dw e (x :: l) = dw e l := by
  unfold dw; rw [List.dropWhile_cons, if_pos h]
theorem dw_no {e x : Str} {l : List Str} (h : (x == e) = false) : dw e (x :: l) = x :: l := by
  unfold dw; rw [List.dropWhile_cons, if_neg (by rw [h]; simp)]
theorem dw_split (e : Str) (l : List Str) : ∃ q, l = q ++ dw e l ∧ ∀ x ∈ q, x = e :=
  ⟨l.takeWhile (fun x => x == e), (List.takeWhile_append_dropWhile).symm, fun x hx => by
    have := List.all_eq_true.mp (List.all_takeWhile (l := l) (p := fun x => x == e)) x hx
    exact eq_of_beq this⟩
theorem dw_gt {e : Str} : ∀ {l : List Str}, Srt (e :: l) → ∀ x ∈ dw e l, lts e x = true
  | [], _, x, hx => by simp [dw] at hx
  | y :: l, h, x, hx => by
    by_cases e1 : (y == e) = true
    · rw [dw_yes e1] at hx
      have := eq_of_beq e1; subst this
      exact dw_gt (List.pairwise_cons.mp h).2 x hx
    · rw [dw_no (by simpa using e1)] at hx
      have hy : y ≠ e := fun q => e1 (by rw [q]; exact beq_self_eq_true _)
      have h1 := (List.pairwise_cons.mp h).1
      have hye : lts e y = true := by
        cases c : lts e y with
        | true => rfl
        | false => exact absurd (lts_tri (h1 y (List.mem_cons_self ..)) c) hy
      rcases List.mem_cons.mp hx with rfl | hx
      · exact hye
      · have h2 := (List.pairwise_cons.mp (List.pairwise_cons.mp h).2).1 x hx
        by_cases e2 : lts y x = true
        · exact lts_trans hye e2
        · have : x = y := lts_tri h2 (by simpa using e2)
          rw [this]; exact hye
theorem srt_dw {e : Str} {l : List Str} (h : Srt l) : Srt (dw e l) := h.sublist (List.dropWhile_sublist _)

noncomputable def sld : List Str → List Str → List Str × List Str
  | [], b => ([], b)
  | e :: a, [] => (e :: a, [])
  | e :: a, x :: b =>
    if lts e x = true then (e :: (sld (dw e a) (x :: b)).1, (sld (dw e a) (x :: b)).2)
    else if lts x e = true then ((sld (e :: a) (dw x b)).1, x :: (sld (e :: a) (dw x b)).2)
    else sld (dw e a) (dw x b)
termination_by a b => a.length + b.length
decreasing_by
  all_goals (simp only [List.length_cons]; have h1 := dw_le e a; have h2 := dw_le x b; omega)
theorem sld_nil (b : List Str) : sld [] b = ([], b) := by rw [sld]
theorem sld_nil' (a : List Str) : sld a [] = (a, []) := by cases a <;> rw [sld]
theorem sld_lt {e x : Str} {a b : List Str} (h : lts e x = true) : sld (e :: a) (x :: b) = (e :: (sld (dw e a) (x :: b)).1, (sld (dw e a) (x :: b)).2) := by rw [sld, if_pos h]
theorem sld_gt {e x : Str} {a b : List Str} (h : lts e x = false) (h' : lts x e = true) : sld (e :: a) (x :: b) = ((sld (e :: a) (dw x b)).1, x :: (sld (e :: a) (dw x b)).2) := by rw [sld, if_neg (by rw [h]; simp), if_pos h']
theorem sld_eq {e x : Str} {a b : List Str} (h : lts e x = false) (h' : lts x e = false) : sld (e :: a) (x :: b) = sld (dw e a) (dw x b) := by rw [sld, if_neg (by rw [h]; simp), if_neg (by rw [h']; simp)]
theorem sld_swap (a b : List Str) : sld b a = ((sld a b).2, (sld a b).1) := by
  fun_induction sld a b with
  | case1 b => rw [sld_nil']
  | case2 e a => rw [sld_nil]
  | case3 e a x b h ih => rw [sld_gt (lts_asymm h) h, ih]
  | case4 e a x b h h' ih => rw [sld_lt h', ih]
  | case5 e a x b h h' ih => rw [sld_eq (by simpa using h') (by simpa using h), ih]

/-- what _law_only keeps of one: pre are the ones ahead -/
noncomputable def onlyF (b : List Str) : List Str → List Str → List Str
  | _, [] => []
  | pre, x :: a => if x ∉ b ∧ (x ∉ pre ∨ ∀ o ∈ b, lts x o = false) then x :: onlyF b (pre ++ [x]) a else onlyF b (pre ++ [x]) a
theorem onlyF_mem {b b' : List Str} (h : ∀ x, x ∈ b ↔ x ∈ b') : ∀ (pre a : List Str), onlyF b pre a = onlyF b' pre a
  | _, [] => rfl
  | pre, x :: a => by
    unfold onlyF
    have e : (x ∉ b ∧ (x ∉ pre ∨ ∀ o ∈ b, lts x o = false)) ↔ (x ∉ b' ∧ (x ∉ pre ∨ ∀ o ∈ b', lts x o = false)) := by
      constructor
      · rintro ⟨h1, h2⟩
        exact ⟨fun q => h1 ((h x).mpr q), h2.imp id fun q o ho => q o ((h o).mpr ho)⟩
      · rintro ⟨h1, h2⟩
        exact ⟨fun q => h1 ((h x).mp q), h2.imp id fun q o ho => q o ((h o).mp ho)⟩
    rw [onlyF_mem h (pre ++ [x]) a]
    by_cases c : x ∉ b ∧ (x ∉ pre ∨ ∀ o ∈ b, lts x o = false)
    · rw [if_pos c, if_pos (e.mp c)]
    · rw [if_neg c, if_neg (fun q => c (e.mpr q))]
theorem onlyF_all {b : List Str} : ∀ (a pre : List Str), (∀ x ∈ a, ∀ y ∈ b, lts y x = true) → onlyF b pre a = a
  | [], _, _ => rfl
  | x :: a, pre, h => by
    unfold onlyF
    have h1 := h x (List.mem_cons_self ..)
    rw [if_pos ⟨fun q => lts_ne (h1 x q) rfl, Or.inr fun o ho => lts_asymm (h1 o ho)⟩, onlyF_all a _ fun x hx => h x (List.mem_cons_of_mem _ hx)]
theorem onlyF_skip {b : List Str} {e : Str} (hs : e ∈ b ∨ ∃ o ∈ b, lts e o = true) : ∀ (q pre a : List Str), (∀ x ∈ q, x = e) → e ∈ pre → onlyF b pre (q ++ a) = onlyF b (pre ++ q) a
  | [], pre, a, _, _ => by simp
  | x :: q, pre, a, hq, he => by
    have hx := hq x (List.mem_cons_self ..)
    subst hx
    rw [List.cons_append]
    unfold onlyF
    rw [if_neg, onlyF_skip hs q _ a (fun y hy => hq y (List.mem_cons_of_mem _ hy)) (List.mem_append_left _ he), List.append_assoc]
    · simp only [List.singleton_append]
      cases a <;> simp [onlyF]
    · rintro ⟨h1, h2⟩
      rcases h2 with h2 | h2
      · exact h2 he
      · rcases hs with hs | ⟨o, ho, hs⟩
        · exact h1 hs
        · rw [h2 o ho] at hs; cases hs
theorem sld_only (a b : List Str) : Srt a → Srt b → ∀ pre b0, (∀ x ∈ a, x ∉ pre) → (∀ x ∈ a, ∀ y ∈ b0, lts y x = true) → (sld a b).1 = onlyF (b0 ++ b) pre a := by
  fun_induction sld a b with
  | case1 b => intros; rfl
  | case2 e a =>
    intro _ _ pre b0 _ h2
    rw [List.append_nil, onlyF_all _ _ h2]
  | case3 e a x b h ih =>
    intro ha hb pre b0 h1 h2
    obtain ⟨q, hq, hqe⟩ := dw_split e a
    have hgt := dw_gt ha
    have heB : e ∉ b0 ++ x :: b := by
      intro hm
      rcases List.mem_append.mp hm with hm | hm
      · exact lts_ne (h2 e (List.mem_cons_self ..) e hm) rfl
      · rcases List.mem_cons.mp hm with rfl | hm
        · exact lts_ne h rfl
        · have := (List.pairwise_cons.mp hb).1 e hm
          rw [h] at this; cases this
    have h1e := h1 e (List.mem_cons_self ..)
    show e :: (sld (dw e a) (x :: b)).1 = onlyF (b0 ++ x :: b) pre (e :: a)
    have e1 : onlyF (b0 ++ x :: b) pre (e :: a) = e :: onlyF (b0 ++ x :: b) (pre ++ [e]) a := by
      conv => lhs; unfold onlyF
      rw [if_pos ⟨heB, Or.inl h1e⟩]
    have e2 : onlyF (b0 ++ x :: b) (pre ++ [e]) a = onlyF (b0 ++ x :: b) (pre ++ [e] ++ q) (dw e a) := by
      conv => lhs; rw [hq]
      exact onlyF_skip (Or.inr ⟨x, by simp, h⟩) q _ _ hqe (by simp)
    rw [e1, e2]
    refine congrArg _ (ih (srt_dw (List.pairwise_cons.mp ha).2) hb _ b0 ?_ ?_)
    · intro y hy hm
      have hy' := hgt y hy
      have hya : y ∈ a := by rw [hq]; exact List.mem_append_right _ hy
      rcases List.mem_append.mp hm with hm | hm
      · rcases List.mem_append.mp hm with hm | hm
        · exact h1 y (List.mem_cons_of_mem _ hya) hm
        · rw [List.mem_singleton.mp hm] at hy'; exact lts_ne hy' rfl
      · rw [hqe y hm] at hy'; exact lts_ne hy' rfl
    · intro y hy
      exact h2 y (List.mem_cons_of_mem _ (by rw [hq]; exact List.mem_append_right _ hy))
  | case4 e a x b h h' ih =>
    intro ha hb pre b0 h1 h2
    obtain ⟨q, hq, hqe⟩ := dw_split x b
    show (sld (e :: a) (dw x b)).1 = _
    rw [ih ha (srt_dw (List.pairwise_cons.mp hb).2) pre (b0 ++ x :: q) h1 ?_]
    · have e0 : b0 ++ x :: q ++ dw x b = b0 ++ x :: b := by
        conv => rhs; rw [hq]
        simp
      rw [e0]
    · have hall : ∀ y ∈ e :: a, lts x y = true := by
        intro y hy
        rcases List.mem_cons.mp hy with rfl | hy
        · exact h'
        · have := (List.pairwise_cons.mp ha).1 y hy
          by_cases c : lts e y = true
          · exact lts_trans h' c
          · rw [lts_tri this (by simpa using c)]; exact h'
      intro y hy z hz
      rcases List.mem_append.mp hz with hz | hz
      · exact h2 y hy z hz
      · rcases List.mem_cons.mp hz with rfl | hz
        · exact hall y hy
        · rw [hqe z hz]; exact hall y hy
  | case5 e a x b h h' ih =>
    intro ha hb pre b0 h1 h2
    have hex : e = x := lts_tri (by simpa using h) (by simpa using h')
    subst hex
    obtain ⟨q, hq, hqe⟩ := dw_split e a
    obtain ⟨q', hq', hqe'⟩ := dw_split e b
    have hgt := dw_gt ha
    rw [ih (srt_dw (List.pairwise_cons.mp ha).2) (srt_dw (List.pairwise_cons.mp hb).2) (pre ++ e :: q) (b0 ++ e :: q') ?_ ?_]
    · have e0 : b0 ++ e :: q' ++ dw e b = b0 ++ e :: b := by
        conv => rhs; rw [hq']
        simp
      rw [e0]
      have heB : e ∈ b0 ++ e :: b := by simp
      have e1 : onlyF (b0 ++ e :: b) pre (e :: a) = onlyF (b0 ++ e :: b) (pre ++ [e]) a := by
        conv => lhs; unfold onlyF
        rw [if_neg (fun q => q.1 heB)]
      rw [e1]
      conv => rhs; rw [hq]
      rw [onlyF_skip (Or.inl heB) q _ _ hqe (by simp)]
      simp
    · intro y hy hm
      have hy' := hgt y hy
      have hya : y ∈ a := by rw [hq]; exact List.mem_append_right _ hy
      rcases List.mem_append.mp hm with hm | hm
      · exact h1 y (List.mem_cons_of_mem _ hya) hm
      · rcases List.mem_cons.mp hm with rfl | hm
        · exact lts_ne hy' rfl
        · rw [hqe y hm] at hy'; exact lts_ne hy' rfl
    · intro y hy z hz
      have hya : y ∈ a := by rw [hq]; exact List.mem_append_right _ hy
      rcases List.mem_append.mp hz with hz | hz
      · exact h2 y (List.mem_cons_of_mem _ hya) z hz
      · rcases List.mem_cons.mp hz with rfl | hz
        · exact hgt y hy
        · rw [hqe' z hz]; exact hgt y hy
/-- P1: the sorted difference tells what _law_only tells -/
theorem sld_law {a b wa wb : List Str} (ha : Srt a) (hb : Srt b) (pa : a.Perm wa) (pb : b.Perm wb) : sld a b = (onlyF wb [] a, onlyF wa [] b) := by
  have h1 := sld_only a b ha hb [] [] (by simp) (by simp)
  have h2 := sld_only b a hb ha [] [] (by simp) (by simp)
  rw [sld_swap a b] at h2
  rw [List.nil_append] at h1 h2
  rw [onlyF_mem (fun x => pb.mem_iff) [] a] at h1
  rw [onlyF_mem (fun x => pa.mem_iff) [] b] at h2
  exact Prod.ext h1 h2

/-! the unordered difference -/
noncomputable def unF : List Str → List Str → List Str → List Str × List Str
  | [], act, mis => (mis, act)
  | x :: r, act, mis => if x ∈ act then unF r (act.erase x) mis else unF r act (mis ++ [x])
/-- lacking, from the end: pre are those behind -/
noncomputable def lackF (h : List Str) : List Str → List Str → List Str
  | _, [] => []
  | pre, x :: r => if (pre ++ [x]).count x > h.count x then x :: lackF h (pre ++ [x]) r else lackF h (pre ++ [x]) r
noncomputable def leftF (W : List Str) : List Str → List Str → List Str
  | _, [] => []
  | pre, x :: h => if (pre ++ [x]).count x > W.count x then x :: leftF W (pre ++ [x]) h else leftF W (pre ++ [x]) h
theorem leftF_over {W : List Str} {y : Str} : ∀ (h pre : List Str), pre.count y > W.count y → leftF W pre h = leftF (W ++ [y]) pre h
  | [], _, _ => rfl
  | x :: h, pre, hc => by
    unfold leftF
    have hc' : (pre ++ [x]).count y > W.count y := by rw [List.count_append]; omega
    rw [leftF_over h _ hc']
    by_cases e : x = y
    · subst e
      rw [if_pos (by rw [List.count_append, List.count_singleton_self]; omega), if_pos (by rw [List.count_append, List.count_append, List.count_singleton_self]; omega)]
    · rw [show (W ++ [y]).count x = W.count x by rw [List.count_append, List.count_singleton]; simp [Ne.symm e]]
theorem leftF_erase {W : List Str} {y : Str} : ∀ (h pre : List Str), pre.count y ≤ W.count y → leftF (W ++ [y]) pre h = (leftF W pre h).erase y
  | [], _, _ => rfl
  | x :: h, pre, hc => by
    unfold leftF
    by_cases e : x = y
    · subst e
      have k1 : (pre ++ [x]).count x = pre.count x + 1 := by rw [List.count_append, List.count_singleton_self]
      have k2 : (W ++ [x]).count x = W.count x + 1 := by rw [List.count_append, List.count_singleton_self]
      by_cases c : (pre ++ [x]).count x > W.count x
      · rw [if_pos c, if_neg (by omega), List.erase_cons_head, ← leftF_over h _ c]
      · rw [if_neg c, if_neg (by omega), leftF_erase h _ (by omega)]
    · rw [show (W ++ [y]).count x = W.count x by rw [List.count_append, List.count_singleton]; simp [Ne.symm e]]
      have hc' : (pre ++ [x]).count y ≤ W.count y := by rw [List.count_append, List.count_singleton]; simp [e]; exact hc
      by_cases c : (pre ++ [x]).count x > W.count x
      · rw [if_pos c, if_pos c, List.erase_cons_tail (by simpa using e), leftF_erase h _ hc']
      · rw [if_neg c, if_neg c, leftF_erase h _ hc']
theorem leftF_mem {W : List Str} {y : Str} : ∀ (h pre : List Str), pre.count y ≤ W.count y → (y ∈ leftF W pre h ↔ (pre ++ h).count y > W.count y)
  | [], pre, hc => by simp [leftF]; exact hc
  | x :: h, pre, hc => by
    have e0 : pre ++ x :: h = pre ++ [x] ++ h := by simp
    unfold leftF
    by_cases e : x = y
    · subst e
      by_cases c : (pre ++ [x]).count x > W.count x
      · rw [if_pos c]
        refine ⟨fun _ => ?_, fun _ => List.mem_cons_self ..⟩
        rw [e0, List.count_append]; omega
      · rw [if_neg c, leftF_mem h _ (by omega), e0]
    · have hc' : (pre ++ [x]).count y ≤ W.count y := by rw [List.count_append, List.count_singleton]; simp [e]; exact hc
      have ih := leftF_mem h _ hc'
      rw [e0, ← ih]
      by_cases c : (pre ++ [x]).count x > W.count x
      · rw [if_pos c]; simp [Ne.symm e]
      · rw [if_neg c]
theorem leftF_nil : ∀ (h pre : List Str), leftF [] pre h = h
  | [], _ => rfl
  | x :: h, pre => by
    unfold leftF
    rw [if_pos (by rw [List.count_append, List.count_singleton_self, List.count_nil]; omega), leftF_nil h]
theorem unF_law (h : List Str) : ∀ (r W mis : List Str), unF r (leftF W [] h) mis = (mis ++ lackF h W r, leftF (W ++ r) [] h)
  | [], W, mis => by simp [unF, lackF]
  | x :: r, W, mis => by
    have hm := leftF_mem (W := W) (y := x) h [] (by simp)
    rw [List.nil_append] at hm
    have e1 := leftF_erase (W := W) (y := x) h [] (by simp)
    unfold unF lackF
    rw [show W ++ x :: r = W ++ [x] ++ r by simp]
    by_cases c : h.count x > W.count x
    · rw [if_pos (hm.mpr c), ← e1, unF_law h r, if_neg]
      rw [List.count_append, List.count_singleton_self]; omega
    · have h1 : x ∉ leftF W [] h := fun q => c (hm.mp q)
      rw [if_neg h1]
      rw [List.erase_of_not_mem h1] at e1
      rw [← e1, unF_law h r, if_pos (by rw [List.count_append, List.count_singleton_self]; omega)]
      simp
/-- P2 -/
theorem un_law (want hav : List Str) : unF want.reverse hav [] = (lackF hav [] want.reverse, leftF want [] hav) := by
  have h := unF_law hav want.reverse [] []
  rw [leftF_nil, List.nil_append, List.nil_append] at h
  rw [h]
  refine congrArg (Prod.mk _) ?_
  have : ∀ (hh pre : List Str), leftF want.reverse pre hh = leftF want pre hh := by
    intro hh
    induction hh with
    | nil => intro _; rfl
    | cons x hh ih => intro pre; unfold leftF; rw [List.count_reverse, ih]
  exact this _ _

end

/-! ## A4 -/
section
/-! the turns of the comprehensions in _law_only, in plain Lean -/
theorem onlyF_snoc (b : List Str) : ∀ (a pre : List Str) (x : Str), onlyF b pre (a ++ [x]) = onlyF b pre a ++ (if x ∉ b ∧ (x ∉ pre ++ a ∨ ∀ o ∈ b, lts x o = false) then [x] else [])
  | [], pre, x => by
    simp only [List.nil_append, List.append_nil, onlyF]
  | y :: a, pre, x => by
    have ih := onlyF_snoc b a (pre ++ [y]) x
    rw [show pre ++ [y] ++ a = pre ++ y :: a by simp] at ih
    rw [List.cons_append, onlyF, onlyF, ih]
    split <;> simp
theorem any_mem {x : Str} {l : List Str} : (l.any (fun y => y == x)) = true ↔ x ∈ l := by
  rw [List.any_eq_true]
  exact ⟨fun ⟨y, hy, e⟩ => by rw [← eq_of_beq e]; exact hy, fun hy => ⟨x, hy, beq_self_eq_true _⟩⟩
theorem any_nmem {x : Str} {l : List Str} : (l.any (fun y => y == x)) = false ↔ x ∉ l := by
  rw [← any_mem, Bool.not_eq_true]
section
variable {B rows : List Str} {i : Nat}
theorem row_snoc (hi : i < rows.length) : rows.take (i + 1) = rows.take i ++ [rows.getD ((0 : Int) + (i : Int)).toNat Str.empty] := by
  rw [Int.zero_add, Int.toNat_natCast, List.take_add_one, List.getD_eq_getElem?_getD, List.getElem?_eq_getElem hi]; rfl
theorem row_tk : rows.take ((0 : Int) + (i : Int)).toNat = rows.take i := by rw [Int.zero_add, Int.toNat_natCast]
theorem only_in (hi : i < rows.length) (h : (B.any fun x => x == rows.getD ((0 : Int) + (i : Int)).toNat Str.empty) = true) : onlyF B [] (rows.take (i + 1)) = onlyF B [] (rows.take i) := by
  rw [row_snoc hi, onlyF_snoc, if_neg (fun q => q.1 (any_mem.mp h)), List.append_nil]
theorem only_new (hi : i < rows.length) (h : (B.any fun x => x == rows.getD ((0 : Int) + (i : Int)).toNat Str.empty) = false) (h2 : ((rows.take ((0 : Int) + (i : Int)).toNat).any fun x => x == rows.getD ((0 : Int) + (i : Int)).toNat Str.empty) = false) :
    onlyF B [] (rows.take (i + 1)) = onlyF B [] (rows.take i) ++ [rows.getD ((0 : Int) + (i : Int)).toNat Str.empty] := by
  rw [row_tk] at h2
  rw [row_snoc hi, onlyF_snoc, if_pos ⟨any_nmem.mp h, .inl (any_nmem.mp h2)⟩]
theorem only_top (hi : i < rows.length) (h : (B.any fun x => x == rows.getD ((0 : Int) + (i : Int)).toNat Str.empty) = false) (h2 : B.filter (fun o => lts (rows.getD ((0 : Int) + (i : Int)).toNat Str.empty) o) = []) :
    onlyF B [] (rows.take (i + 1)) = onlyF B [] (rows.take i) ++ [rows.getD ((0 : Int) + (i : Int)).toNat Str.empty] := by
  have q : ∀ o ∈ B, lts (rows.getD ((0 : Int) + (i : Int)).toNat Str.empty) o = false := fun o ho => by
    have := List.filter_eq_nil_iff.mp h2 o ho
    simpa using this
  rw [row_snoc hi, onlyF_snoc, if_pos ⟨any_nmem.mp h, .inr q⟩]
theorem only_under (hi : i < rows.length) (h2 : ((rows.take ((0 : Int) + (i : Int)).toNat).any fun x => x == rows.getD ((0 : Int) + (i : Int)).toNat Str.empty) = true) (h3 : B.filter (fun o => lts (rows.getD ((0 : Int) + (i : Int)).toNat Str.empty) o) ≠ []) :
    onlyF B [] (rows.take (i + 1)) = onlyF B [] (rows.take i) := by
  rw [row_tk] at h2
  rw [row_snoc hi, onlyF_snoc, if_neg, List.append_nil]
  rintro ⟨_, q | q⟩
  · exact q (any_mem.mp h2)
  · exact h3 (List.filter_eq_nil_iff.mpr fun o ho => by rw [q o ho]; decide)
theorem filt_yes {c o : Str} {j : Nat} (ho : B[j]? = some o) (h : c.cps.toList < o.cps.toList) : (B.take (j + 1)).filter (fun o => lts c o) = (B.take j).filter (fun o => lts c o) ++ [o] := by
  rw [List.take_add_one, ho, List.filter_append]
  simp [lts_iff.mpr h]
theorem filt_no {c o : Str} {j : Nat} (ho : B[j]? = some o) (h : ¬c.cps.toList < o.cps.toList) : (B.take (j + 1)).filter (fun o => lts c o) = (B.take j).filter (fun o => lts c o) := by
  have : lts c o = false := by rw [← Bool.not_eq_true, lts_iff]; exact h
  rw [List.take_add_one, ho, List.filter_append]
  simp [this]
end

end

/-! ## G22 -/
section
open PySem.Calls PySem.Spec LCg LCt
/-! a comprehension with one test over a range of any step, kept under a name -/
section
variable {prog : Program} {w : World} {A : Around} {E : Value → Shared → Prop} {s : Shared} {h₀ : Heap} {L : Addr} {m : Str → Option Value} {env : Env}
theorem step_st {I : Addr} {a c : Int} {n : Nat} (i : Nat) (h h' : Heap) (o : Obj) (nw : List (Addr × Obj)) (st : IsRangeIter h I (a + (i : Nat) * c) ((n : Int) - (i : Nat)) c) (e : h.get? I = some o) (e' : h'.get? I = some o) (_ : ∀ b o, h₀.get? b = some o → h'.get? b = some o) (_ : News h₀ L h' nw) (_ : True) : IsRangeIter h' I (a + (i : Nat) * c) ((n : Int) - (i : Nat)) c := by
  show h'.get? I = _
  have st' : h.get? I = _ := st
  rw [e', ← e, st']
noncomputable def SrcD (prog : Program) (w : World) (A : Around) (h₀ : Heap) (L : Addr) (m : Str → Option Value) (env : Env) (ct elt : PySem.Expr) (x : Str) (scope : Scope) (cl : List (Str × Addr)) (Fin : Shared → List Value → List (Addr × Obj) → Prop) (xv : Value) (s₁ : Shared) : Prop :=
  ∃ r a b c t u v n news, xv = .ref r ∧ A.handled = none ∧ Fr h₀ L s₁.heap m ∧ News h₀ L s₁.heap news ∧ IsRange s₁.heap r a b c t u v ∧ Builtin.Range.small a b c = true ∧ Builtin.Range.rangeSize a b c = ((n : Nat) : Int) ∧ n ≤ sizeLine ∧
    ∀ g, CompRestT prog w A h₀ L m env ct elt x scope cl { s₁ with heap := g } (fun _ => True) (fun i v => i < n ∧ ∃ t, v = .int (a + (i : Nat) * c) t) (Fin { s₁ with heap := g }) n 0 [] news
theorem Assign_ListComp_D {ct elt iter : PySem.Expr} {x y : Str} {px py : Pos} {scope : Scope} {cl : List (Str × Addr)} {pos spos : Pos} {Q : Flow → Shared → Prop} (F₀ : Fr h₀ L s.heap m) (hLe : env.locals = L)
    (hsw : swapsWith (.ListComp elt [⟨.Name x px, iter, [ct], 0⟩] scope pos) (some (.Name y py)) spos.line env = pure true)
    (hclos : closureFor scope env = pure cl) (hcell : ∀ z ∈ scope.names, z.2 ≠ .cell) (hkind : scope.kind = .function)
    (hnames : ∀ z ∈ scope.names, z.2 = .local → scope.names.lookup z.1 = some .local) (hx : scope.names.lookup x = some .local)
    (hy : env.kindOf y = some .local) (hp : (env.scope.kind == .class || (env.scope.kind == .module && env.locals != env.globals)) = false)
    (h : wpAny (model prog w) A (eval iter env) (fun xv s₁ => Keep (SrcD prog w A h₀ L m env ct elt x scope cl (fun s₂ => FinA h₀ L m s₂ y Q) xv s₁)) E s)
    (hs : ∀ x, foldedSetIterable iter env x = pure x) :
    wpAny (model prog w) A (exec (.Assign [.Name y py] (.ListComp elt [⟨.Name x px, iter, [ct], 0⟩] scope pos) spos) env) Q E s := by
  obtain rfl := hLe
  rw [exec_Assign_Name_used _ _ _ _ hsw]
  refine wpAny_bind (wpAny_standAt (wpAny_bind ?_))
  change wpAny _ A (do let _ ← comprehension (.ListComp elt [⟨.Name x px, iter, [ct], 0⟩] scope pos) scope env _ (newList []) false (eval iter env) (some (assign (.Name y py) env))) _ _ s
  refine wpAny_bind (wpAny_mono (Q := fun _ s' => Q .next s') ?_ (fun _ _ hq => wpAny_pure (wpAny_pure hq)) fun _ _ e => e)
  refine wpAny_comprehension_free (use := some (assign (.Name y py) env)) rfl hs hclos hkind hnames (wpAny_mono h (fun xv s₁ h₁ => ?_) fun _ _ e => e)
  obtain ⟨r, a, b, c, t, u, v, n, news, rfl, hh, F, N, hr, hsm, hn, hsz, R⟩ := h₁
  refine wpAny_pyIter_range hr hsm ?_
  have up : ∀ (ob : Obj) b o, s₁.heap.get? b = some o → (s₁.heap.push ob).get? b = some o := fun _ _ _ e => Heap.get?_push_of_some _ e
  refine block_T (Walks.range hh s₁.heap.objs.size a c n).bound hsz (fun _ _ st => ⟨_, st⟩) step_st hcell hkind hx ?start ?low (F.keeps (up _)) (N.grown (up _)) (Nat.ne_of_lt F.ns.lt) (next_is_new F) (fun p hp => Nat.ne_of_lt (Heap.lt_size (N p hp).1)) trivial (R _) ?fin
  case start =>
    show (s₁.heap.push _).get? _ = some _
    rw [hn, Heap.get?_push_size _ rfl]
    simp
  case low =>
    intro b hb
    obtain rfl := List.mem_singleton.mp hb
    show s₁.heap.objs.size < (s₁.heap.push _).objs.size
    rw [Heap.size_push]; exact Nat.lt_succ_self _
  case fin =>
    intro D C h' tk m' ys nw F' N' o1 hC hC₀ hD₀ hCL hDL hCD hoff fin
    change wpAny _ A (assign (.Name y py) env (.ref D)) _ _ _
    have hL₀ : h₀.get? env.locals = none := Heap.get?_none_of_le F'.above
    refine wpAny_assign_Name (wpAny_storeName_local hy F'.ns (fun h₂ ns₂ sb => ⟨m', hC.sameBut sb hCL, fun h₃ sb' => ?_⟩) hp)
    have F₂ : Fr h₀ env.locals h₂ (fun z => if z = y then some (.ref D) else m z) := by
      refine ⟨ns₂, fun b o e => sb.extBut b o ?_ (F'.keep b o e), F'.above⟩
      rintro rfl
      rw [hL₀] at e; cases e
    refine fin D h₃ _ (F₂.change sb' hCL hC₀) (fun p hp => ⟨sb'.extBut _ _ ?_ (sb.extBut _ _ (N' p hp).2.1 (N' p hp).1), (N' p hp).2⟩) o1
    rcases List.mem_cons.mp hp with rfl | hp
    · exact fun q => hCD q.symm
    · exact hoff p hp
end

end

/-! ## A8 -/
section
open PySem.Spec
/-! the two counting comprehensions at the law's end -/
theorem small_dn {n : Nat} (h : n ≤ 100) : Builtin.Range.small ((n : Int) - 1) (-1) (-1) = true := by
  unfold Builtin.Range.small Builtin.Range.rangeSize
  simp only [Builtin.Range.rangeFitsLong, Bool.and_eq_true, Bool.or_eq_true, decide_eq_true_eq, beq_iff_eq, show ¬((-1 : Int) > 0) by decide, if_false, Int.neg_neg, Int.ediv_one]
  split <;> omega
theorem size_dn (n : Nat) : Builtin.Range.rangeSize ((n : Int) - 1) (-1) (-1) = ((n : Nat) : Int) := by
  unfold Builtin.Range.rangeSize
  rw [if_neg (by decide), Int.neg_neg, Int.ediv_one]
  split <;> omega
theorem lackF_snoc (h : List Str) : ∀ (a pre : List Str) (x : Str), lackF h pre (a ++ [x]) = lackF h pre a ++ (if (pre ++ a ++ [x]).count x > h.count x then [x] else [])
  | [], pre, x => by
    simp only [List.nil_append, lackF, List.append_nil]
  | y :: a, pre, x => by
    have ih := lackF_snoc h a (pre ++ [y]) x
    rw [show pre ++ [y] ++ a ++ [x] = pre ++ (y :: a) ++ [x] by simp] at ih
    rw [List.cons_append, lackF, lackF, ih]
    split <;> simp
theorem leftF_snoc (W : List Str) : ∀ (a pre : List Str) (x : Str), leftF W pre (a ++ [x]) = leftF W pre a ++ (if (pre ++ a ++ [x]).count x > W.count x then [x] else [])
  | [], pre, x => by
    simp only [List.nil_append, leftF, List.append_nil]
  | y :: a, pre, x => by
    have ih := leftF_snoc W a (pre ++ [y]) x
    rw [show pre ++ [y] ++ a ++ [x] = pre ++ (y :: a) ++ [x] by simp] at ih
    rw [List.cons_append, leftF, leftF, ih]
    split <;> simp
section
variable {P H : List Str} {i : Nat}
theorem rev_snoc (hi : i < P.length) : P.reverse.take (i + 1) = P.reverse.take i ++ [P.getD (P.length - 1 - i) Str.empty] := by
  rw [List.take_add_one, List.getElem?_reverse hi, List.getD_eq_getElem?_getD, List.getElem?_eq_getElem (by omega)]; rfl
theorem rev_count (hi : i < P.length) (x : Str) : (P.reverse.take (i + 1)).count x = (P.drop (P.length - 1 - i)).count x := by
  rw [List.take_reverse, List.count_reverse, show P.length - (i + 1) = P.length - 1 - i by omega]
theorem lack_yes (hi : i < P.length) (h : (P.drop (P.length - 1 - i)).count (P.getD (P.length - 1 - i) Str.empty) > H.count (P.getD (P.length - 1 - i) Str.empty)) :
    lackF H [] (P.reverse.take (i + 1)) = lackF H [] (P.reverse.take i) ++ [P.getD (P.length - 1 - i) Str.empty] := by
  have e := rev_count hi (P.getD (P.length - 1 - i) Str.empty)
  rw [rev_snoc hi] at e
  rw [rev_snoc hi, lackF_snoc, List.nil_append, e, if_pos h]
theorem lack_no (hi : i < P.length) (h : ¬(P.drop (P.length - 1 - i)).count (P.getD (P.length - 1 - i) Str.empty) > H.count (P.getD (P.length - 1 - i) Str.empty)) :
    lackF H [] (P.reverse.take (i + 1)) = lackF H [] (P.reverse.take i) := by
  have e := rev_count hi (P.getD (P.length - 1 - i) Str.empty)
  rw [rev_snoc hi] at e
  rw [rev_snoc hi, lackF_snoc, List.nil_append, e, if_neg h, List.append_nil]
theorem left_yes (hi : i < H.length) (h : (H.take (i + 1)).count (H.getD i Str.empty) > P.count (H.getD i Str.empty)) :
    leftF P [] (H.take (i + 1)) = leftF P [] (H.take i) ++ [H.getD i Str.empty] := by
  have e : H.take (i + 1) = H.take i ++ [H.getD i Str.empty] := by
    rw [List.take_add_one, List.getD_eq_getElem?_getD, List.getElem?_eq_getElem hi]; rfl
  rw [e] at h
  rw [e, leftF_snoc, List.nil_append, if_pos h]
theorem left_no (hi : i < H.length) (h : ¬(H.take (i + 1)).count (H.getD i Str.empty) > P.count (H.getD i Str.empty)) :
    leftF P [] (H.take (i + 1)) = leftF P [] (H.take i) := by
  have e : H.take (i + 1) = H.take i ++ [H.getD i Str.empty] := by
    rw [List.take_add_one, List.getD_eq_getElem?_getD, List.getElem?_eq_getElem hi]; rfl
  rw [e] at h
  rw [e, leftF_snoc, List.nil_append, if_neg h, List.append_nil]
end

end

/-! ## G6 -/
section
open PySem.Calls PySem.Spec Builtin Builtin.ObjectAttr Builtin.Getset_descriptor
set_option maxRecDepth 100000
theorem under_tc (A : Around) (as : Args) : (A.under (.builtin "type.__call__" as)).units = A.units + 1 := rfl
section
variable {prog : Program} {w : World} {A : Around} {K : Frag} {C : Addr} {R : Result → Shared → Prop} {h : Heap} {g : Array GenState} {d : Drawn} {t : Nat} {os : OsState}
theorem new_own {oc : Value} {od : Option Addr} {cd : ClassData} {sl : Array (Option Value)} (hC : h.get? C = some ⟨oc, od, .cls cd, sl⟩) (e1 : cd.abstract = false) (e2 : cd.hasDel = false)
    (chk : Looks (model prog w) h (checkBuiltinCall "object.__new__" ⟨[.ref C], []⟩) ())
    (here : Looks (model prog w) h (Bind.madeHere "object.__new__" (.ref C)) ()) (typ : Looks (model prog w) h (isInstance (.ref C) (.type "type")) true) (self : Looks (model prog w) h (isSubtype (.ref C) (.type "object")) true)
    (hq : R (.ok (.ret (.ref (h.objs.size + 1)))) ⟨(h.push emptyDict).push (instObj C h.objs.size), g, d, t, os⟩) :
    codeAny (model prog w) A (.call (.builtin "object.__new__") ⟨[.ref C], []⟩) R ⟨h, g, d, t, os⟩ := by
  have F := PySem.F.objNew
  refine codeAny_call_builtin_code (Code.quiet_builtin _ F.quiet) (chk.here ?_)
  refine codeAny_builtin F.entry ?_
  unfold Builtin.«object.__new__»
  have fin : ∀ A', wpAny (model prog w) A' (do
      let d ← if typeHasDict (.ref C) then some <$> alloc { cls := .type "dict", data := .dict #[] } else pure none
      ret (← newObj (.ref C) .plain d)) (fun fin s' => match fin with | .done f => R (.ok f) s' | .again c' => c'.quiet = true ∧ codeAny (model prog w) A c' R s') (fun e s' => R (.error e) s') ⟨h, g, d, t, os⟩ := by
    intro A'
    show wpAny _ _ ((alloc emptyDict >>= fun x => pure (some x)) >>= _) _ _ _
    refine wpAny_bind (wpAny_bind (wpAny_alloc (wpAny_pure (wpAny_bind ?_))))
    show wpAny _ _ (newObjAsIs _ _ _) _ _ _
    unfold newObjAsIs classHasDel
    refine wpAny_bind (wpAny_alloc (wpAny_bind (wpAny_bind (wpAny_load (Heap.get?_push_of_some _ (Heap.get?_push_of_some _ hC)) (wpAny_pure ?_)))))
    rw [e2]
    refine wpAny_pure (wpAny_pure ?_)
    show R _ _
    rw [Heap.size_push]
    exact hq
  repeat (first | exact fin _ | rw [if_neg (by rw [e1]; exact Bool.false_ne_true)] | lk)
theorem make_own {rest : List Value} {kw : List (Str × Value)} {fI : Addr} {oc : Value} {od : Option Addr} {cd : ClassData} {sl : Array (Option Value)} (hC : h.get? C = some ⟨oc, od, .cls cd, sl⟩) (e4 : cd.mro.isEmpty = false)
    (made : Looks (model prog w) h (Bind.madeBy (.ref C)) none) (call : Looks (model prog w) h (specialOf (.ref C) "__call__") (some (.builtin "type.__call__"))) (typ : Looks (model prog w) h (isInstance (.ref C) (.type "type")) true)
    (hq : wpAny (model prog w) (A.under (.builtin "type.__call__" ⟨.ref C :: rest, kw⟩)) (getAttr (.ref C) "__new__") (fun v s1 => wpAny (model prog w) (A.under (.builtin "type.__call__" ⟨.ref C :: rest, kw⟩)) (PySem.call v (.ref C :: rest) kw)
      (fun v s2 => ∃ x, v = .ref x ∧ Looks (model prog w) s2.heap (typeOf (.ref x)) (.ref C) ∧ Looks (model prog w) s2.heap (isSubtype (.ref C) (.ref C)) true ∧ Looks (model prog w) s2.heap (typeLookup (.ref C) "__init__") (some (.ref fI)) ∧ Looks (model prog w) s2.heap (bindSpecial (.ref fI) (.ref x)) (.ref fI, [.ref x]) ∧
        codeAny (model prog w) (A.under (.builtin "type.__call__" ⟨.ref C :: rest, kw⟩)) (.call (.ref fI) ⟨.ref x :: rest, kw⟩) (InitBack x R) s2) (fun e s' => R (.error e) s') s1) (fun e s' => R (.error e) s') ⟨h, g, d, t, os⟩) :
    codeAny (model prog w) A (.call (.ref C) ⟨rest, kw⟩) R ⟨h, g, d, t, os⟩ := by
  refine codeAny_of_tree ?_
  show wpAny _ _ (callAny (.ref C) _) _ _ _
  refine nd_load hC ?_
  show wpAny _ _ (callAny.viaDunder (.ref C) _) _ _ _
  unfold callAny.viaDunder
  refine wpAny_bind (call.at ?_)
  dsimp only
  rw [tc_bind]
  refine wpAny_bind (wpAny_pure (wpAny_bind (wpAny_pure ?_)))
  refine wpAny_pure (a := Fin.again (.call (.builtin "type.__call__") ⟨.ref C :: rest, kw⟩)) (And.intro rfl ?_)
  refine codeAny_call_builtin_at (Code.quiet_builtin _ (by decide +kernel)) entry_typeCall (check_slot tc_kind tc_split typ (tc_args _ _ _) ?_)
  unfold Builtin.«type.__call__»
  have hm : Looks (model prog w) h (mroOf (.ref C)) cd.mro := ((Looks.ld (part := none) hC).andThen .now).andThen .now
  repeat (first | rw [if_neg (by rw [e4]; exact Bool.false_ne_true)] | ((fail_if_success (with_reducible show wpAny _ _ (getAttr _ _ _) _ _ _)); lk))
  refine wpAny_mono hq (fun v s1 hv => ?_) (fun _ _ e => e)
  refine wpAny_bind (wpAny_holding (wpAny_mono hv (fun v s2 hx => ?_) (fun _ _ e => e)))
  obtain ⟨x, rfl, t1, self, hi, hb, hc⟩ := hx
  unfold isInstance callSpecial? specialOf
  repeat (first | with_reducible refine wpAny_call ?_ | lk)
  refine codeAny_mono hc fun r s' z => ?_
  rcases r with e | (v | _ | _ | _) <;> first | exact z | exact z.elim | skip
  obtain ⟨rfl, z⟩ := z
  exact wpAny_pure (wpAny_pure z)
end

end

/-! ## G7 -/
section
open PySem.Calls PySem.Spec
set_option maxRecDepth 100000
theorem slot_deque_init : Slot "collections.deque" "__init__" "collections.deque.__init__" :=
  .of (owner := "collections.deque") (n := "__init__") (by rw [typeLookup_type, builtinLookup_eq_fast]; kernel_rfl) (by decide +kernel) (by decide +kernel) (by decide +kernel)
    (by first | exact .inl (by decide +kernel) | exact .inr (by decide +kernel)) (by rw [isSubtype_type]; kernel_rfl)
theorem mro_deque : mroOf (.type "collections.deque") = pure [.type "collections.deque", .type "object"] := by rw [mroOf_type]; kernel_rfl
theorem lookup_deque_new : typeLookup (.type "collections.deque") "__new__" = pure (some (.builtin "collections.deque.__new__")) := by rw [typeLookup_type, builtinLookup_eq_fast]; kernel_rfl
theorem called_deque : TypeCalled "collections.deque" "collections.deque.__new__" "collections.deque.__init__" :=
  ⟨by decide +kernel, by decide +kernel, ⟨_, _, mro_deque⟩, madeBy_type mro_deque lookup_deque_new (by decide +kernel), by decide +kernel, by rw [isSubtype_type]; kernel_rfl, slot_deque_init⟩
theorem typeCall_deque_0 : checkTypeCall "collections.deque" ⟨[], []⟩ = pure () := by kernel_rfl
theorem newCall_deque_0 : checkBuiltinCall "collections.deque.__new__" ⟨[.type "collections.deque"], []⟩ = pure () := by kernel_rfl
theorem entry_deque_new : entryFor table "collections.deque.__new__" = some Builtin.«collections.deque.__new__» := entryFor_of_tree (by kernel_rfl)
theorem entry_deque_init : entryFor table "collections.deque.__init__" = some Builtin.«collections.deque.__init__» := entryFor_of_tree (by kernel_rfl)
theorem plain_deque_new : plainId "collections.deque.__new__" = true := by decide +kernel

theorem args_deque_init (a : Value) : argsOk "collections.deque.__init__" ⟨[a], []⟩ := by unfold argsOk; kernel_rfl
noncomputable def dqObj : Obj := { cls := .type "collections.deque", data := .fields #[.none, .int 0 0] }
theorem sub_deque_self : isSubtype (.type "collections.deque") (.type "collections.deque") = pure true := by rw [isSubtype_type]; kernel_rfl
theorem new_deque_meets : Meets (Builtin.«collections.deque.__new__» ⟨[.type "collections.deque"], []⟩) (fun _ R s => R (.ok (.ret (.ref s.heap.objs.size))) { s with heap := s.heap.push dqObj }) := by
  refine Meets.of_wp fun prog w A R s hs => ?_
  unfold Builtin.«collections.deque.__new__» Builtin.Deque.newArgs
  have hsub := sub_deque_self
  dsimp only
  refine wpAny_bind (wpAny_bind ?_)
  repeat (any_goals (first | assumption | wp_step))
  refine wpAny_of_eq (a := true) sub_deque_self ?_
  repeat (any_goals (first | assumption | wp_step))
  exact ⟨_, rfl, hs⟩
theorem init_deque_meets (x : Addr) : Meets (Builtin.«collections.deque.__init__» ⟨[.ref x], []⟩) (fun _ R s => s.heap.get? x = some dqObj ∧ ∀ h', h'.get? x = some dqObj → Heap.SameBut x s.heap h' → R (.ok (.ret .none)) { s with heap := h' }) := by
  refine Meets.of_wp fun prog w A R s hs => ?_
  obtain ⟨hx, hq⟩ := hs
  unfold Builtin.«collections.deque.__init__»
  dsimp only
  repeat (any_goals (first | assumption | wp_step))
  exact ⟨_, rfl, hq _ (Heap.get?_update_self _ hx rfl) (Heap.SameBut.update ..)⟩
theorem call_deque {prog : Program} {w : World} {A : Around} {E : Value → Shared → Prop} {s : Shared} {h₀ : Heap} {L : Addr} {m : Str → Option Value} {news : List (Addr × Obj)} {Q : Value → Shared → Prop} (F : Fr h₀ L s.heap m) (N : News h₀ L s.heap news)
    (h : ∀ D h', Fr h₀ L h' m → News h₀ L h' ((D, dqObj) :: news) → (∀ p ∈ news, p.1 < D) → Q (.ref D) { s with heap := h' }) :
    wpAny (model prog w) A (call (.type "collections.deque") []) Q E s := by
  refine callType_meets called_deque typeCall_deque_0 newCall_deque_0 entry_deque_new entry_deque_init new_deque_meets (Q₁ := fun obj s₁ => obj = .ref s.heap.objs.size ∧ s₁ = { s with heap := s.heap.push dqObj }) ⟨rfl, rfl⟩ ?_
  rintro obj s₁ ⟨rfl, rfl⟩
  have hS : (s.heap.push dqObj).get? s.heap.objs.size = some dqObj := Heap.get?_push_size _ rfl
  refine ⟨⟨_, hS, rfl⟩, args_deque_init _, _, init_deque_meets _, hS, fun h' hg hb => ⟨rfl, ?_⟩⟩
  have F1 := F.push dqObj
  have N1 := News.push F N dqObj rfl
  refine h _ h' (F1.change hb (N1 _ (List.mem_cons_self ..)).2.1 (N1 _ (List.mem_cons_self ..)).2.2) (fun p hp => ?_) (fun p hp => Heap.lt_size (N p hp).1)
  rcases List.mem_cons.mp hp with rfl | hp
  · exact ⟨hg, (N1 _ (List.mem_cons_self ..)).2⟩
  · exact ⟨(hb.2 p.1 (Nat.ne_of_lt (Heap.lt_size (N p hp).1))).trans (N1 p (List.mem_cons_of_mem _ hp)).1, (N p hp).2⟩

end

/-! ## G11 -/
section
open PySem.Calls PySem.Spec
set_option maxRecDepth 100000
theorem slot_deque_len : Slot "collections.deque" "__len__" "collections.deque.__len__" :=
  .of (owner := "collections.deque") (n := "__len__") (by rw [typeLookup_type, builtinLookup_eq_fast]; kernel_rfl) (by decide +kernel) (by decide +kernel) (by decide +kernel)
    (by first | exact .inl (by decide +kernel) | exact .inr (by decide +kernel)) (by rw [isSubtype_type]; kernel_rfl)
theorem entry_deque_len : entryFor table "collections.deque.__len__" = some Builtin.«collections.deque.__len__» := entryFor_of_tree (by kernel_rfl)
theorem args_deque_len (a : Value) : argsOk "collections.deque.__len__" ⟨[a], []⟩ := by unfold argsOk; kernel_rfl
theorem noBool_deque : typeLookup (.type "collections.deque") "__bool__" = pure none := by rw [typeLookup_type, builtinLookup_eq_fast]; kernel_rfl
theorem deque_truthy {prog : Program} {w : World} {A : Around} {E : Value → Shared → Prop} {s : Shared} {D : Addr} {Q : Bool → Shared → Prop} (hD : s.heap.get? D = some dqObj)
    (h : ∀ k, Q false { s with toks := k }) : wpAny (model prog w) A (truthy (.ref D)) Q E s := by
  have hT : s.TypeIs (.ref D) "collections.deque" := ⟨dqObj, hD, rfl⟩
  have key : wpAny (model prog w) A (runValue (.builtin "len" ⟨[.ref D], []⟩)) (fun r s' => (∃ t, r = .int 0 t) ∧ Q false s') E s := by
    refine wpAny_runValue (codeAny_builtin entry_len ?_)
    rw [Around.under_plainId plain_len _]
    unfold Builtin.«len»
    refine wpAny_bind (m := oneArg "len" _) (wpAny_pure ?_)
    refine wpAny_bind (m := callSpecial? (.ref D) (Str.ofString "__len__")) (wpAny_callSpecial?_slot (name := Str.ofString "__len__") hT slot_deque_len
      (wpAny_call_entry slot_deque_len hT entry_deque_len ?_ (args_deque_len _)))
    show wpAny _ _ (do retInt (← Builtin.Deque.size (.ref D))) _ _ s
    unfold Builtin.Deque.size
    refine wpAny_bind (wpAny_bind ?_)
    unfold fieldsOf
    refine wpAny_bind (wpAny_load hD ?_)
    refine wpAny_pure (wpAny_pure ?_)
    refine wpAny_bind (wpAny_mkInt (wpAny_pure ⟨_, rfl, ?_⟩))
    refine wpAny_bind (wpAny_holding (wpAny_pure ?_))
    refine wpAny_bind (wpAny_letGo ?_)
    show wpAny _ _ (if ((0 : Nat) : Int) < 0 then _ else _) _ _ _
    rw [if_neg (by omega)]
    show wpAny _ _ (if ((0 : Nat) : Int) ≥ 2 ^ 63 then _ else _) _ _ _
    rw [if_neg (by omega)]
    exact wpAny_bind (wpAny_mkInt (wpAny_pure ⟨⟨_, rfl⟩, h _⟩))
  unfold truthy
  first
    | refine wpAny_bind (wpAny_callSpecial?_none (name := Str.ofString "__bool__") hT noBool_deque ?_)
    | refine wpAny_bind (wpAny_pure (wpAny_bind (wpAny_callSpecial?_none (name := Str.ofString "__bool__") hT noBool_deque ?_)))
  first
    | refine wpAny_bind (wpAny_specialOf (name := Str.ofString "__len__") hT slot_deque_len.lookup ?_)
    | refine wpAny_bind (wpAny_pure (wpAny_bind (wpAny_specialOf (name := Str.ofString "__len__") hT slot_deque_len.lookup ?_)))
  exact wpAny_bind (wpAny_mono key (fun r s' h' => by obtain ⟨⟨t, rfl⟩, hq⟩ := h'; exact wpAny_pure hq) fun _ _ e => e)

end

/-! ## G21 -/
section
open PySem.Calls PySem.Spec
theorem turn_new {A₀ : Around} {base H g g' h : Heap} {env : Env} {outer : List Env} {L L₀ D : Addr} {o : Obj} {h₀ : Heap} {l news : List (Addr × Obj)} (T : KtsTurn (frs (env :: outer)) g g') (B : Below A₀ base (env :: outer) g') (N : News g' L h l) (hm : (D, o) ∈ l) (G : GSub H g []) (N₀ : News h₀ L₀ H news) : ∀ p ∈ news, @Ne Nat p.1 D := by
  intro p hp e
  have h1 := G _ _ (N₀ p hp).1 (by simp)
  rw [show p.1 = D from e] at h1
  have h2 := T.other _ _ h1 fun q => by
    obtain ⟨_, o', ho', _⟩ := B.frames.mem q
    rw [(N _ hm).2.2] at ho'; cases ho'
  rw [(N _ hm).2.2] at h2; cases h2
theorem news_add {h₀ h : Heap} {L : Addr} {p : Addr × Obj} {l : List (Addr × Obj)} (A : News h₀ L h [p]) (N : News h₀ L h l) : News h₀ L h (p :: l) := fun q hq => by
  rcases List.mem_cons.mp hq with rfl | hq
  · exact A _ (List.mem_cons_self ..)
  · exact N _ hq
theorem prune14 {h₀ h : Heap} {L : Addr} {t d6 d5 s2 d4 s1 d3 d0 d1 n l d2 c1 c2 : Addr × Obj} (N : News h₀ L h [t, d6, d5, s2, d4, s1, d3, d0, d1, n, l, d2, c1, c2]) : News h₀ L h [d6, d5, s2, s1, c1, c2] :=
  fun p hp => N p (by
    simp only [List.mem_cons, List.not_mem_nil, or_false] at hp ⊢
    rcases hp with q | q | q | q | q | q <;> simp only [q, true_or, or_true])
theorem news_app3 {h₀ h : Heap} {L : Addr} {a b c : Addr × Obj} {l : List (Addr × Obj)} (A : News h₀ L h [a, b, c]) (N : News h₀ L h l) : News h₀ L h (a :: b :: c :: l) := fun q hq => by
  rcases List.mem_cons.mp hq with rfl | hq
  · exact A _ (by simp)
  rcases List.mem_cons.mp hq with rfl | hq
  · exact A _ (by simp)
  rcases List.mem_cons.mp hq with rfl | hq
  · exact A _ (by simp)
  · exact N _ hq
theorem only_pick {h₀ h : Heap} {L : Addr} {p r e1 e2 q1 q2 d6 d5 s2 s1 c1 c2 : Addr × Obj} (N : News h₀ L h [p, r, e1, e2, q1, q2, d6, d5, s2, s1, c1, c2]) : News h₀ L h (d5 :: d6 :: [p, e1, e2, s2, s1, c1, c2]) :=
  fun q hq => N q (by
    simp only [List.mem_cons, List.not_mem_nil, or_false] at hq ⊢
    rcases hq with q | q | q | q | q | q | q | q | q <;> simp only [q, true_or, or_true])
theorem only_pick2 {h₀ h : Heap} {L : Addr} {o1 d5 d6 p e1 e2 s2 s1 c1 c2 : Addr × Obj} (N : News h₀ L h [o1, d5, d6, p, e1, e2, s2, s1, c1, c2]) : News h₀ L h (d6 :: d5 :: [o1, p, e1, e2, s2, s1, c1, c2]) :=
  fun q hq => N q (by
    simp only [List.mem_cons, List.not_mem_nil, or_false] at hq ⊢
    rcases hq with q | q | q | q | q | q | q | q | q | q <;> simp only [q, true_or, or_true])
theorem prune12 {h₀ h : Heap} {L : Addr} {l o2 d6 d5 o1 p e1 e2 s2 s1 c1 c2 : Addr × Obj} (N : News h₀ L h [l, o2, d6, d5, o1, p, e1, e2, s2, s1, c1, c2]) : News h₀ L h [d6, d5, s2, s1, c1, c2] :=
  fun q hq => N q (by
    simp only [List.mem_cons, List.not_mem_nil, or_false] at hq ⊢
    rcases hq with q | q | q | q | q | q <;> simp only [q, true_or, or_true])

end

/-! ## AT -/
section
open PySem.Calls PySem.Spec
/-! an own attribute read and stored in one step -/
noncomputable def OwnVal (name : Str) (od : Obj) (v : Value) : Prop := ∃ es n, od = dictOf es n ∧ getL name es = some (some v) ∧ handedIn v = true
noncomputable def AttrFact (K : Frag) (C : Addr) (name : Str) : Prop := plainGet K C name = true ∧ hasDictIn K C = true ∧ ∃ attr, findIn K (.ref C) name = some attr ∧ noGet K attr = true
noncomputable def PutVal (w : World) (name : Str) (v : Value) (od od' : Obj) : Prop := ∃ es n es' n', od = dictOf es n ∧ od' = dictOf es' n' ∧ (getL name es).isSome = true ∧ es'.length ≤ 1000 ∧ ∀ tk, (putL name (PyData.keyHash w.params name) (.str name tk) v es, putN name es n) = (es', n')
noncomputable def SetFact (K : Frag) (C : Addr) (name : Str) : Prop := findIn K (.ref C) "__setattr__" = some (some (.builtin "object.__setattr__")) ∧ plainOver K C = true ∧ takerIn K C name = some none ∧ hasDictIn K C = true
section
variable {prog : Program} {w : World} {A : Around} {E : Value → Shared → Prop} {s : Shared} {K : Frag} {C x dx L a : Addr} {h₀ : Heap} {m : Str → Option Value} {news news' : List (Addr × Obj)} {od od' : Obj} {name sn : Str} {v : Value} {cn : Str} {cs : Scope} {ccd : Value} {cl : List (Str × Addr)} {p1 p2 : Pos}
theorem own_attr {Q : Value → Shared → Prop} (F : Fr h₀ L s.heap m) (X : K.In h₀) (N : News h₀ L s.heap news) (hs : m sn = some (.ref x)) (h1 : (x, instObj C dx) ∈ news) (h2 : (dx, od) ∈ news) (hv : OwnVal name od v) (hf : AttrFact K C name)
    (h : Q v { s with toks := s.toks + 1 }) (hk : cs.kind = .function) (hx : (envX cn cs L a ccd cl).kindOf sn = some .local) (hd : (sn == ("__debug__" : Str)) = false) :
    wpAny (model prog w) A (eval (.Attribute (.Name sn p1) name p2) (envX cn cs L a ccd cl)) Q E s := by
  obtain ⟨es, n, rfl, hl, hh⟩ := hv
  obtain ⟨f1, f2, at9, f3, f4⟩ := hf
  exact PyProof.Rows.Attribute_Name_ (nameX_L F hs (get_own F X (InstAt.of_news N h1 h2) f1 f2 f3 f4 hl hh h) hk hx hd)
theorem own_set {Q : Unit → Shared → Prop} (F : Fr h₀ L s.heap m) (X : K.In h₀) (N : News h₀ L s.heap news) (h1 : (x, instObj C dx) ∈ news) (h2 : (dx, od) ∈ news) (hp : PutVal w name v od od') (hf : SetFact K C name) (U : Upd dx od od' news news')
    (h : ∀ h', Fr h₀ L h' m → News h₀ L h' news' → Q () { s with heap := h', toks := s.toks + 2 }) : wpAny (model prog w) A (setAttr (.ref x) name v) Q E s := by
  obtain ⟨es, n, es', n', rfl, rfl, g1, g2, g3⟩ := hp
  obtain ⟨f1, f2, f3, f4⟩ := hf
  exact set_dict F X N (InstAt.of_news N h1 h2) rfl f1 f2 f3 f4 g1 (g3 _) U g2 h
end

end

theorem words2 : True := by
  k_with "binaryOp Add ref ref" => ((k_here; (with_reducible show wpAny _ _ (binaryOp Operator.Add (Value.ref _) (Value.ref _)) _ _ _); k_dflt (refine' Mine.st_add ?F_4 ?N_4 ?a_4 ?b_4 ?i_4 ?j_4 ?_ ?z_4; (case F_4 => k_asm); (case N_4 => k_asm); (case a_4 => kmk_list); (case b_4 => kmk_list); (case i_4 => first | with_reducible assumption | exact .cons _ _ .nil); (case j_4 => first | with_reducible assumption | exact .cons _ _ .nil); (case z_4 => first | with_reducible assumption | omega | (rw [sizeLine_eq]; simp only [List.length_cons, List.length_nil, List.length_append]; omega))); intro D'z ws'z h'z F'z N'z l1z hI'z; (try k_lt l1z); (try k_sweep)))
  k_with "subscriptTail Name Slice ref ref" => ((k_here; (with_reducible show wpAny _ _ (subscriptTail _ (PySem.Expr.Slice _ _ none _) (Value.ref _) (Value.ref _)) _ _ _); k_dflt (refine' Mine.st_slice ?F_5 ?N_5 ?l_5 ?p_5 ?q_5 ?i_5 ?m_5 ?_ ?s_5 ?t_5 ?z_5; (case F_5 => k_asm); (case N_5 => k_asm); (case l_5 => kmk_list); (case p_5 => kmk_part); (case q_5 => kmk_part); (case i_5 => with_reducible assumption); (case m_5 => first | (with_reducible exact Mine.st_but1 (by with_reducible assumption)) | (with_reducible exact Mine.st_from (by with_reducible assumption) (by first | with_reducible assumption | omega)) | (with_reducible exact Mine.st_upto (by with_reducible assumption) (by first | with_reducible assumption | omega)) | exact Mine.st_but1 (by with_reducible assumption) | exact Mine.st_from (by with_reducible assumption) (by first | with_reducible assumption | omega) | exact Mine.st_upto (by with_reducible assumption) (by first | with_reducible assumption | omega)); (case s_5 => with_unfolding_all rfl); (case t_5 => kmk_pure); (case z_5 => first | with_reducible assumption | omega | (rw [sizeLine_eq]; omega))); intro D'z ws'z h'z F'z N'z l1z hI'z; (try k_lt l1z); (try k_sweep)))
  k_with "call builtin:str.join" => ((k_here; (with_reducible show wpAny _ _ (call (Value.builtin "str.join") [Value.str _ _, Value.ref _]) _ _ _); k_dflt (refine' PyProof.Rows.join_listC ?a_6 ?b_6 ?c_6 ?d_6 ?_; (case a_6 => kmk_list); (case b_6 => with_reducible assumption); (case c_6 => decide); (case d_6 => first | with_reducible assumption | omega)); intro _ _))
  k_with "call builtin:list.append" => ((k_here; (with_reducible show wpAny _ _ (call (Value.builtin _) [Value.ref _, Value.str _ _]) _ _ _); k_dflt (refine' Mine.st_append ?F_7 ?N_7 ?U_7 ?i_7 ?_ ?z_7; (case F_7 => k_asm); (case N_7 => k_asm); (case U_7 => k_upd); (case i_7 => with_reducible assumption); (case z_7 => first | with_reducible assumption | omega | (rw [sizeLine_eq]; omega)); k_whole); intro h'z F'z N'z hI'z; (try k_sweep)))
  k_with "call builtin:list.pop" => ((k_here; (with_reducible show wpAny _ _ (call (Value.builtin _) [Value.ref _]) _ _ _); k_dflt (refine' Mine.st_pop ?F_8 ?N_8 ?U_8 ?i_8 ?n_8 ?z_8 ?_; (case F_8 => k_asm); (case N_8 => k_asm); (case U_8 => k_upd); (case i_8 => with_reducible assumption); (case n_8 => with_reducible assumption); (case z_8 => first | with_reducible assumption | omega | (rw [sizeLine_eq]; omega)); k_whole); intro h'z c'z t'z e'z F'z N'z hI'z; (try k_sweep)))
  k_with "truthy ref" => ((k_here; (with_reducible show wpAny _ _ (truthy (Value.ref _)) _ _ _); k_dflt (refine' Mine.st_truthy ?l_9 ?i_9 ?z_9 ?_ ?_; (case l_9 => kmk_list); (case i_9 => with_reducible assumption); (case z_9 => first | with_reducible assumption | omega | (rw [sizeLine_eq]; omega)); k_whole) <;> intro h9z k9z))
  k_with "truthy str" => ((k_here; (with_reducible show wpAny _ _ (truthy (Value.str _ _)) _ _ _); (refine Mine.str_truthy (by with_reducible assumption) (by with_reducible assumption) ?_); intro k9z))
  k_with "subscriptTail Name UnaryOp ref int" => ((k_here; (with_reducible show wpAny _ _ (subscriptTail _ _ (Value.ref _) (Value.int (-1) _)) _ _ _); k_dflt (refine' Mine.st_neg1 ?l_11 ?i_11 ?n_11 ?_ (by with_unfolding_all rfl); (case l_11 => kmk_list); (case i_11 => with_reducible assumption); (case n_11 => with_reducible assumption); k_whole); intro c9z t9z e9z))
  k_with "newList" => ((k_here; k_dflt (refine' newList_K ?k1_nl ?k2_nl ?_ ?z_nl; (case k1_nl => k_asm); (case k2_nl => k_asm); (case z_nl => exact Nat.le_trans (Nat.le_of_ble_eq_true rfl : _ ≤ 8) (by rw [sizeLine_eq]; decide)); k_whole); intro _ _ _ _ l1z; (try k_lt l1z); revert l1z; intro _; (try k_sweep)))
  trivial
/-! ## L3 -/
section
theorem srI_le {x : Str} (h : x.length ≤ 1048576) : (srI x).length ≤ 1048576 := by
  unfold srI
  split
  · decide
  · split
    · decide
    · split
      · decide
      · exact Nat.le_trans (Txt.slice_le ..) h
theorem npStep_len (st : List Str) (c : Str) : (npStep st c).length ≤ st.length + 1 := by
  unfold npStep
  split
  · omega
  · split
    · omega
    · split <;> simp
      omega
theorem npStep_nd {st : List Str} {c : Str} (h : ∀ d ∈ st, (d != Str.ofString "..") = true) : ∀ d ∈ npStep st c, (d != Str.ofString "..") = true := by
  intro d hd
  unfold npStep at hd
  split at hd
  · exact h d hd
  · split at hd
    · exact h d hd
    · split at hd
      · rcases List.mem_append.mp hd with hd | hd
        · exact h d hd
        · rw [List.mem_singleton.mp hd]; assumption
      · exact h d ((List.dropLast_sublist _).subset hd)
theorem npLoop_nd : ∀ (cs st : List Str), (∀ d ∈ st, (d != Str.ofString "..") = true) → ∀ d ∈ cs.foldl npStep st, (d != Str.ofString "..") = true
  | [], _, h => h
  | _ :: cs, _, h => npLoop_nd cs _ (npStep_nd h)
theorem np_absurd {pre : List Str} {c9 : Str} (e : pre.foldl npStep [] = (pre.foldl npStep []).dropLast ++ [c9]) (h : (c9 == Str.ofString "..") = true) : False := by
  have h1 := npLoop_nd pre [] (by simp) c9 (by rw [e]; simp)
  rw [bne, h] at h1
  exact absurd h1 (by decide)
theorem npLoop_len : ∀ (cs : List Str) (st : List Str), (cs.foldl npStep st).length ≤ st.length + cs.length
  | [], st => Nat.le_refl _
  | c :: cs, st => by
    have h1 := npLoop_len cs (npStep st c)
    have h2 := npStep_len st c
    simp only [List.foldl_cons, List.length_cons]; omega
set_option maxRecDepth 100000 in
set_option maxHeartbeats 8000000 in
theorem normpath_spec {w : World} {mean : ExcName → Option Value} {mg mb : Str → Option Value}
    {dp un : Nat} {gd : Option (List Code)} {cn : Str} {cs : Scope} {a : Addr} {ccd : Value} {cl : List (Str × Addr)} {outer : List Env} {A₀ : Around} {base h₀ : Heap} {L : Addr} {m : Str → Option Value} {news : List (Addr × Obj)} {s : Shared} {Q E : Value → Shared → Prop} {x : Str} {t2 : Tok}
    (B : Below A₀ base outer h₀) (F : Fr h₀ L s.heap m) (X : (Mine.hd.heap_1_39 w.params).In h₀) (N : News h₀ L s.heap news) (T : (Top Mine.hd.view_1_40 (looseW Mine.hd.view_1_40 [Str.ofString "check_arg_types_genericpath", Str.ofString "join_posixpath", Str.ofString "_twin_re_1", Str.ofString "UnsupportedOperation", Str.ofString "IOBase", Str.ofString "BufferedIOBase", Str.ofString "TextIOBase", Str.ofString "BytesIO", Str.ofString "StringIO", Str.ofString "check_arg_types_path", Str.ofString "join_path", Str.ofString "shlex", Str.ofString "split", Str.ofString "_find_unsafe"]) mean mg mb h₀)) (hk : cs.kind = .function)
    (hd : dp + 6 < recursionLimit) (hu : un + 44 < cLine) (hx : x.length ≤ 1048576) (hne : x.length ≠ 0) (hi : (srI x).length ≠ 0) (hp : (Txt.split (srP x) (Str.ofString "/")).length ≤ 1000)
    (hok : ((npEnd x).map (·.length)).sum + (npEnd x).length * 64 ≤ 16777216) (hjl : (Txt.join (Str.ofString "/") (npEnd x)).length ≤ 1048576)
    (hret : ∀ (t' : Tok) (h' : Heap) (tk' : Nat), Fr h₀ L h' m → News h₀ L h' news → Q (.str (srI x ++ Txt.join (Str.ofString "/") (npEnd x)) t') { s with heap := h', toks := tk' }) :
    wpAny (model PySem.Challenge.rw_ik0143_01.row.prog w) (ktrTop dp un gd cn cs L a ccd cl outer) (call (.ref 166) [.str x t2]) Q E s := by
  have hil : (srI x).length ≤ 1048576 := srI_le hx
  refine wpAny_call ?_
  k_dflt (refine' code_defG B F X News.nil T ?kA ?kF ?kK ?k6 ?k7 ?k8 ?k9 ?kB ?_ ?c2 ?c3 ?c4 ?c5; (case kA => exact rfl); (case kF => exact rfl); (case kK => exact hk); (case k6 => k_is); (case k7 => k_is); (case k8 => ktr_room); (case k9 => first | exact BindsTo.of_eq rfl | exact binds_K (by k_in) rfl (by k_is) rfl rfl rfl); (case c5 => decide); (case kB => exact locs rfl); (case c2 => exact rfl); (case c3 => exact rfl); (case c4 => exact rfl); k_whole; intro g' L' h' FG' F' N' B' X' T' kG'; (try (refine Mine.fold_e ?_; intro ev ar qk ek sk)))
  repeat' (first | ((fail_if_success (fail_if_success k_unfold)); first | (with_reducible refine (?_ : wpAny _ _ _ _ _ _)) | (with_reducible refine (?_ : LeaveK _ _ _ _ _ _ _))) | (k_unfold; (try dsimp only)) | ((fail_if_success (fail_if_success k_fold)); (with_reducible refine Mine.fold_q ?_); intro qk ek sk; (try ((with_reducible rename Fr _ _ _ _ => kF); (fail_if_success (have := Mine.pin_chk kF (by with_reducible assumption))); (refine Mine.pin_m kF ?_); intro mk kF9 pk; (try clear kF); (with_reducible rename News _ _ _ _ => kN); (refine Mine.pin_N kN ?_); intro nk kN9; (try clear kN)))) | walk1 | (dsimp only; walk1) | (leave1; walk_say "STEP leave1"; try dsimp only) | fail "no step")
  k_here
  rename_i lN h1N l1N h2N FN
  rename (srI x = _) => e91
  rename (srP x = _) => e92
  subst e91
  subst e92
  rename (StrsAre _ _) => hS
  rename (News g' L' _ _) => NN
  rename (Fr g' L' _ _) => FF
  rename (List.map _ _ = Txt.split _ _) => eS
  rename (∀ a, a ∈ List.map _ _ → Str.length a ≤ _) => hlen
  rename ((srP x).length ≤ _) => hpl
  refine for_strs (m₀ := _) (vs := _) (cst := [(_, { cls := .type "list", data := .seq (strValues _).toArray })]) (nx₀ := [(lN, _)]) (ss := Txt.split (srP x) (Str.ofString "/")) (fun pre m nx => ∃ (its : List Value) (n : Nat) (t1 t2 t3 t4 : Tok) (b : Str → Option Value), StrsAre its (pre.foldl npStep []) ∧ m = (fun y => if y = Str.ofString "new_comps" then some (Value.ref lN) else if y = Str.ofString "dot" then some (Value.str (Str.ofString ".") t1) else if y = Str.ofString "dotdot" then some (Value.str (Str.ofString "..") t2) else if y = Str.ofString "sep" then some (Value.str (Str.ofString "/") t3) else if y = Str.ofString "initial_slashes" then some (Value.str (srI x) t4) else b y) ∧ nx = [(lN, listOf its.toArray n)]) rfl ?_ (eS ▸ hS) FF (by exact news_sub NN (sub2 (by k_mem) (by k_mem))) ⟨[], 0, _, _, _, _, _, .nil, (by first | exact Mine.see_go (Mine.see_cons (by with_unfolding_all rfl) (Mine.see_cons (by with_unfolding_all rfl) (Mine.see_cons (by with_unfolding_all rfl) (Mine.see_cons (by with_unfolding_all rfl) (Mine.see_cons (by with_unfolding_all rfl) ((by repeat (first | exact Mine.see_refl | refine Mine.see_off (by k_mem) ?_ | refine Mine.see_cons (by with_unfolding_all rfl) ?_)))))))) | exact Eq.symm (Mine.see_go (Mine.see_cons (by with_unfolding_all rfl) (Mine.see_cons (by with_unfolding_all rfl) (Mine.see_cons (by with_unfolding_all rfl) (Mine.see_cons (by with_unfolding_all rfl) (Mine.see_cons (by with_unfolding_all rfl) ((by repeat (first | exact Mine.see_refl | refine Mine.see_off (by k_mem) ?_ | refine Mine.see_cons (by with_unfolding_all rfl) ?_)))))))))), rfl⟩ ?_ ?_
  · exact Or.inr ⟨_, List.mem_singleton_self _, rfl, _, rfl⟩
  · rintro pre c post t m₁ nx I oI h tk hss hoff ⟨its, n, t1, t2, t3, t4, b, hits, rfl, rfl⟩ F1 N1
    dsimp only [envOf, List.cons_append, List.nil_append] at F1 N1
    have hz : (pre.foldl npStep []).length + 1 ≤ sizeLine := by
      have h1 := npLoop_len pre []
      rw [hss, List.length_append, List.length_cons] at hp
      rw [sizeLine_eq]; simp only [List.length_nil] at h1; omega
    have hlI : @Ne Nat lN I := hoff _ (List.mem_cons_self ..)
    have hcl : c.length ≤ 1048576 := Nat.le_trans (hlen c (by rw [eS, hss]; simp)) hpl
    repeat' (first | ((fail_if_success (fail_if_success k_unfold)); first | (with_reducible refine (?_ : wpAny _ _ _ _ _ _)) | (with_reducible refine (?_ : LeaveK _ _ _ _ _ _ _))) | (k_unfold; (try dsimp only)) | ((fail_if_success (fail_if_success k_fold)); (with_reducible refine Mine.fold_q ?_); intro qk ek sk; (try ((with_reducible rename Fr _ _ _ _ => kF); (fail_if_success (have := Mine.pin_chk kF (by with_reducible assumption))); (refine Mine.pin_m kF ?_); intro mk kF9 pk; (try clear kF); (with_reducible rename News _ _ _ _ => kN); (refine Mine.pin_N kN ?_); intro nk kN9; (try clear kN)))) | walk1 | (dsimp only; walk1) | (leave1; walk_say "STEP leave1"; try dsimp only) | fail "no step")
    all_goals (first
      | (exfalso; first | exact absurd (by with_reducible assumption : _ = []) (by with_reducible assumption) | exact np_absurd (by with_reducible assumption) (by with_reducible assumption))
      | (refine TurnNext.mk' (by k_asm) ⟨_, _, _, _, _, _, _, ?_, (by first | exact Mine.see_go (Mine.see_cons (by with_unfolding_all rfl) (Mine.see_cons (by with_unfolding_all rfl) (Mine.see_cons (by with_unfolding_all rfl) (Mine.see_cons (by with_unfolding_all rfl) (Mine.see_cons (by with_unfolding_all rfl) ((by repeat (first | exact Mine.see_refl | refine Mine.see_off (by k_mem) ?_ | refine Mine.see_cons (by with_unfolding_all rfl) ?_)))))))) | exact Eq.symm (Mine.see_go (Mine.see_cons (by with_unfolding_all rfl) (Mine.see_cons (by with_unfolding_all rfl) (Mine.see_cons (by with_unfolding_all rfl) (Mine.see_cons (by with_unfolding_all rfl) (Mine.see_cons (by with_unfolding_all rfl) ((by repeat (first | exact Mine.see_refl | refine Mine.see_off (by k_mem) ?_ | refine Mine.see_cons (by with_unfolding_all rfl) ?_)))))))))), rfl⟩ (by k_asm) (sub3 (by k_mem) (by k_mem) (by k_mem)) (by intro p hp; rw [List.mem_singleton.mp hp]; exact hlI); rw [List.foldl_append]; simp only [List.foldl_cons, List.foldl_nil, npStep]; first
        | (rw [if_pos (by with_reducible assumption)]; with_reducible assumption)
        | (rw [if_neg (by with_reducible assumption), if_pos (by with_reducible assumption)]; with_reducible assumption)
        | (rw [if_neg (by with_reducible assumption), if_neg (by rw [(by with_reducible assumption : (c == _) = false)]; decide), if_pos (by with_reducible assumption)]; with_reducible assumption)
        | (rw [if_neg (by with_reducible assumption), if_neg (by rw [(by with_reducible assumption : (c == _) = false)]; decide), if_neg (by rw [(by with_reducible assumption : (c != _) = false)]; decide)]; first | with_reducible assumption | (rename (List.foldl npStep [] pre = []) => h9; rw [h9] at hits ⊢; exact hits))))
  · rintro m₁ nx h tk ⟨its, n, t1, t2, t3, t4, b, hits, rfl, rfl⟩ F1 N1
    dsimp only [envOf, List.cons_append, List.nil_append] at F1 N1
    change StrsAre _ (npEnd x) at hits
    repeat' (first | ((fail_if_success (fail_if_success k_unfold)); first | (with_reducible refine (?_ : wpAny _ _ _ _ _ _)) | (with_reducible refine (?_ : LeaveK _ _ _ _ _ _ _))) | (k_unfold; (try dsimp only)) | ((fail_if_success (fail_if_success k_fold)); (with_reducible refine Mine.fold_q ?_); intro qk ek sk; (try ((with_reducible rename Fr _ _ _ _ => kF); (fail_if_success (have := Mine.pin_chk kF (by with_reducible assumption))); (refine Mine.pin_m kF ?_); intro mk kF9 pk; (try clear kF); (with_reducible rename News _ _ _ _ => kN); (refine Mine.pin_N kN ?_); intro nk kN9; (try clear kN)))) | walk1 | (dsimp only; walk1) | (leave1; walk_say "STEP leave1"; try dsimp only) | fail "no step")
    · exact hret _ _ _ (by k_asm) (news_back N (by assumption) (by assumption))
    · omega

end

/-! ## L1 -/
section
theorem plStep_len (st : List Str) (c : Str) : (plStep st c).length ≤ st.length + 1 := by
  unfold plStep
  split
  · simp; omega
  · split <;> simp
theorem plLoop_len : ∀ (cs : List Str) (st : List Str), (cs.foldl plStep st).length ≤ st.length + cs.length
  | [], st => Nat.le_refl _
  | c :: cs, st => by
    have h1 := plLoop_len cs (plStep st c)
    have h2 := plStep_len st c
    simp only [List.foldl_cons, List.length_cons]; omega
set_option maxRecDepth 100000 in
set_option maxHeartbeats 8000000 in
theorem place_spec {w : World} {mean : ExcName → Option Value} {mg mb : Str → Option Value}
    {dp un : Nat} {gd : Option (List Code)} {cn : Str} {cs : Scope} {a : Addr} {ccd : Value} {cl : List (Str × Addr)} {outer : List Env} {A₀ : Around} {base h₀ : Heap} {L : Addr} {m : Str → Option Value} {news : List (Addr × Obj)} {s : Shared} {Q E : Value → Shared → Prop} {x : Str} {t2 : Tok}
    (B : Below A₀ base outer h₀) (F : Fr h₀ L s.heap m) (X : (Mine.hd.heap_1_39 w.params).In h₀) (N : News h₀ L s.heap news) (T : (Top Mine.hd.view_1_40 (looseW Mine.hd.view_1_40 [Str.ofString "check_arg_types_genericpath", Str.ofString "join_posixpath", Str.ofString "_twin_re_1", Str.ofString "UnsupportedOperation", Str.ofString "IOBase", Str.ofString "BufferedIOBase", Str.ofString "TextIOBase", Str.ofString "BytesIO", Str.ofString "StringIO", Str.ofString "check_arg_types_path", Str.ofString "join_path", Str.ofString "shlex", Str.ofString "split", Str.ofString "_find_unsafe"]) mean mg mb h₀)) (hk : cs.kind = .function)
    (hd : dp + 3 < recursionLimit) (hu : un + 24 < cLine) (hx : x.length ≤ 1048576) (hp : (Txt.split x (Str.ofString "/")).length ≤ 1000)
    (hok : ((plEnd x).map (·.length)).sum + (plEnd x).length * 64 ≤ 16777216) (hjl : (Txt.join (Str.ofString "/") (plEnd x)).length ≤ 1048576)
    (hret : ∀ (t' : Tok) (h' : Heap) (tk' : Nat), Fr h₀ L h' m → News h₀ L h' news → Q (.str (plPlace x) t') { s with heap := h', toks := tk' }) :
    wpAny (model PySem.Challenge.rw_ik0143_01.row.prog w) (ktrTop dp un gd cn cs L a ccd cl outer) (call (.ref 886) [.str x t2]) Q E s := by
  refine wpAny_call ?_
  k_dflt (refine' code_defG B F X News.nil T ?kA ?kF ?kK ?k6 ?k7 ?k8 ?k9 ?kB ?_ ?c2 ?c3 ?c4 ?c5; (case kA => exact rfl); (case kF => exact rfl); (case kK => exact hk); (case k6 => k_is); (case k7 => k_is); (case k8 => ktr_room); (case k9 => first | exact BindsTo.of_eq rfl | exact binds_K (by k_in) rfl (by k_is) rfl rfl rfl); (case c5 => decide); (case kB => exact locs rfl); (case c2 => exact rfl); (case c3 => exact rfl); (case c4 => exact rfl); k_whole; intro g' L' h' FG' F' N' B' X' T' kG'; (try (refine Mine.fold_e ?_; intro ev ar qk ek sk)))
  repeat' (first | ((fail_if_success (fail_if_success k_unfold)); first | (with_reducible refine (?_ : wpAny _ _ _ _ _ _)) | (with_reducible refine (?_ : LeaveK _ _ _ _ _ _ _))) | (k_unfold; (try dsimp only)) | ((fail_if_success (fail_if_success k_fold)); (with_reducible refine Mine.fold_q ?_); intro qk ek sk; (try ((with_reducible rename Fr _ _ _ _ => kF); (fail_if_success (have := Mine.pin_chk kF (by with_reducible assumption))); (refine Mine.pin_m kF ?_); intro mk kF9 pk; (try clear kF); (with_reducible rename News _ _ _ _ => kN); (refine Mine.pin_N kN ?_); intro nk kN9; (try clear kN)))) | ((fail_if_success (with_reducible show wpAny _ _ (eval (PySem.Expr.IfExp _ _ _ _) _) _ _ _)); walk1) | ((fail_if_success (with_reducible show wpAny _ _ (eval (PySem.Expr.IfExp _ _ _ _) _) _ _ _)); dsimp only; walk1) | (leave1; walk_say "STEP leave1"; try dsimp only) | fail "no step")
  refine wpAny_mono (Q := fun v s' => Keep (∃ D its h' tk, v = .ref D ∧ s' = { s with heap := h', toks := tk } ∧ Fr g' L' h' (frMap kF9) ∧ News g' L' h' [(D, listOf (List.toArray its) 0)] ∧ StrsAre its (plInit x))) ?_ ?_ (fun _ _ e => e)
  · repeat' (first | ((fail_if_success (fail_if_success k_unfold)); first | (with_reducible refine (?_ : wpAny _ _ _ _ _ _)) | (with_reducible refine (?_ : LeaveK _ _ _ _ _ _ _))) | (k_unfold; (try dsimp only)) | ((fail_if_success (fail_if_success k_fold)); (with_reducible refine Mine.fold_q ?_); intro qk ek sk; (try ((with_reducible rename Fr _ _ _ _ => kF); (fail_if_success (have := Mine.pin_chk kF (by with_reducible assumption))); (refine Mine.pin_m kF ?_); intro mk kF9 pk; (try clear kF); (with_reducible rename News _ _ _ _ => kN); (refine Mine.pin_N kN ?_); intro nk kN9; (try clear kN)))) | walk1 | (dsimp only; walk1) | (leave1; walk_say "STEP leave1"; try dsimp only) | fail "no step")
    · exact ⟨_, _, _, _, rfl, rfl, by k_asm, by k_asm, by unfold plInit; rw [if_pos (by assumption)]; exact .nil⟩
    · exact ⟨_, _, _, _, rfl, rfl, by k_asm, by k_asm, by unfold plInit; rw [if_neg (by simp [*])]; exact .cons _ _ (.cons _ _ .nil)⟩
  rintro v s' ⟨lS, its0, h0, tk0, rfl, rfl, F0, N0, hits0⟩
  dsimp only [frMap] at F0
  repeat' (first | ((fail_if_success (fail_if_success k_unfold)); first | (with_reducible refine (?_ : wpAny _ _ _ _ _ _)) | (with_reducible refine (?_ : LeaveK _ _ _ _ _ _ _))) | (k_unfold; (try dsimp only)) | ((fail_if_success (fail_if_success k_fold)); (with_reducible refine Mine.fold_q ?_); intro qk ek sk; (try ((with_reducible rename Fr _ _ _ _ => kF); (fail_if_success (have := Mine.pin_chk kF (by with_reducible assumption))); (refine Mine.pin_m kF ?_); intro mk kF9 pk; (try clear kF); (with_reducible rename News _ _ _ _ => kN); (refine Mine.pin_N kN ?_); intro nk kN9; (try clear kN)))) | walk1 | (dsimp only; walk1) | (leave1; walk_say "STEP leave1"; try dsimp only) | fail "no step")
  k_here
  · rename_i eS hS hlen hIL FF NN
    refine for_strs (m₀ := _) (vs := _) (cst := [_]) (nx₀ := [(lS, _)]) (ss := Txt.split x (Str.ofString "/")) (fun pre m nx => ∃ (D : Addr) (its : List Value) (n : Nat) (b : Str → Option Value), StrsAre its (pre.foldl plStep (plInit x)) ∧ m = (fun y => if y = Str.ofString "steps" then some (Value.ref D) else if y = Str.ofString "path" then some (Value.str x t2) else b y) ∧ nx = [(D, listOf its.toArray n)]) rfl ?_ (eS ▸ hS) FF (by exact news_sub NN (sub2 (by k_mem) (by k_mem))) ⟨_, _, 0, _, hits0, (by first | exact Mine.see_go (Mine.see_cons (by with_unfolding_all rfl) (Mine.see_cons (by with_unfolding_all rfl) ((by repeat (first | exact Mine.see_refl | refine Mine.see_off (by k_mem) ?_ | refine Mine.see_cons (by with_unfolding_all rfl) ?_))))) | exact Eq.symm (Mine.see_go (Mine.see_cons (by with_unfolding_all rfl) (Mine.see_cons (by with_unfolding_all rfl) ((by repeat (first | exact Mine.see_refl | refine Mine.see_off (by k_mem) ?_ | refine Mine.see_cons (by with_unfolding_all rfl) ?_))))))), rfl⟩ ?_ ?_
    · exact Or.inr ⟨_, List.mem_singleton_self _, rfl, _, rfl⟩
    · rintro pre c post t m₁ nx I oI h tk hss hoff ⟨D, its, n, b, hits, rfl, rfl⟩ F1 N1
      dsimp only [envOf, List.cons_append, List.nil_append] at F1 N1
      have hz : (pre.foldl plStep (plInit x)).length + 1 ≤ sizeLine := by
        have h1 := plLoop_len pre (plInit x)
        have h2 : (plInit x).length ≤ 2 := by unfold plInit; split <;> simp
        rw [hss, List.length_append, List.length_cons] at hp
        rw [sizeLine_eq]; omega
      repeat' (first | ((fail_if_success (fail_if_success k_unfold)); first | (with_reducible refine (?_ : wpAny _ _ _ _ _ _)) | (with_reducible refine (?_ : LeaveK _ _ _ _ _ _ _))) | (k_unfold; (try dsimp only)) | ((fail_if_success (fail_if_success k_fold)); (with_reducible refine Mine.fold_q ?_); intro qk ek sk; (try ((with_reducible rename Fr _ _ _ _ => kF); (fail_if_success (have := Mine.pin_chk kF (by with_reducible assumption))); (refine Mine.pin_m kF ?_); intro mk kF9 pk; (try clear kF); (with_reducible rename News _ _ _ _ => kN); (refine Mine.pin_N kN ?_); intro nk kN9; (try clear kN)))) | walk1 | (dsimp only; walk1) | (leave1; walk_say "STEP leave1"; try dsimp only) | fail "no step")
      all_goals refine TurnNext.mk' (by k_asm) ⟨_, _, _, _, ?_, (by first | exact Mine.see_go (Mine.see_cons (by with_unfolding_all rfl) (Mine.see_cons (by with_unfolding_all rfl) ((by repeat (first | exact Mine.see_refl | refine Mine.see_off (by k_mem) ?_ | refine Mine.see_cons (by with_unfolding_all rfl) ?_))))) | exact Eq.symm (Mine.see_go (Mine.see_cons (by with_unfolding_all rfl) (Mine.see_cons (by with_unfolding_all rfl) ((by repeat (first | exact Mine.see_refl | refine Mine.see_off (by k_mem) ?_ | refine Mine.see_cons (by with_unfolding_all rfl) ?_))))))), rfl⟩ (by k_asm) (sub3 (by k_mem) (by k_mem) (by k_mem)) (by intro p hp; rw [List.mem_singleton.mp hp]; first | exact hoff _ (List.mem_cons_self ..) | k_ne)
      all_goals (rw [List.foldl_append]; simp only [List.foldl_cons, List.foldl_nil, plStep, *, if_true, if_false, Bool.false_eq_true])
      all_goals assumption
    · rintro m₁ nx h tk ⟨D, its, n, b, hits, rfl, rfl⟩ F1 N1
      dsimp only [envOf, List.cons_append, List.nil_append] at F1 N1
      change StrsAre _ (plEnd x) at hits
      repeat' (first | ((fail_if_success (fail_if_success k_unfold)); first | (with_reducible refine (?_ : wpAny _ _ _ _ _ _)) | (with_reducible refine (?_ : LeaveK _ _ _ _ _ _ _))) | (k_unfold; (try dsimp only)) | ((fail_if_success (fail_if_success k_fold)); (with_reducible refine Mine.fold_q ?_); intro qk ek sk; (try ((with_reducible rename Fr _ _ _ _ => kF); (fail_if_success (have := Mine.pin_chk kF (by with_reducible assumption))); (refine Mine.pin_m kF ?_); intro mk kF9 pk; (try clear kF); (with_reducible rename News _ _ _ _ => kN); (refine Mine.pin_N kN ?_); intro nk kN9; (try clear kN)))) | walk1 | (dsimp only; walk1) | (leave1; walk_say "STEP leave1"; try dsimp only) | fail "no step")
      all_goals refine Eq.mp (congrArg (fun y => Q (.str y _) _) (?_ : plPlace x = _)) (hret _ _ _ (by k_asm) (news_back N (by assumption) (by assumption)))
      all_goals simp only [plPlace, *, if_true, if_false, and_true, and_false, true_and, false_and, Bool.false_eq_true]

end

/-! ## A3 -/
section
open PySem.Spec PySem.Builtin PySem.Builtin.Str
/-! the plain law of the places: normpath of the path joined to /r/it's is the place -/
theorem idx_clip (a b n : Nat) : strSliceIndices (some (a : Int)) (some (b : Int)) 1 n = strSliceIndices (some ((min a n : Nat) : Int)) (some ((min b n : Nat) : Int)) 1 n := by
  have h1 : ¬ ((a : Int) < 0) := by omega
  have h2 : ¬ ((b : Int) < 0) := by omega
  have h3 : ¬ (((min a n : Nat) : Int) < 0) := by omega
  have h4 : ¬ (((min b n : Nat) : Int) < 0) := by omega
  have h5 : (1 : Int) > 0 := by decide
  simp only [strSliceIndices, h1, h2, h3, h4, h5, if_false, if_true]
  congr 2 <;> omega
theorem sl_ab (x : Str) {a b : Nat} (h : a ≤ b) : (Txt.slice x (some (a : Int)) (some (b : Int))).cps.toList = (x.cps.toList.drop a).take (b - a) := by
  have e : Txt.slice x (some (a : Int)) (some (b : Int)) = Txt.slice x (some ((min a x.length : Nat) : Int)) (some ((min b x.length : Nat) : Int)) := by
    unfold Txt.slice
    rw [idx_clip]
  have h1 : min b x.length ≤ x.length := Nat.min_le_right _ _
  rw [e, slice_nn x (by omega) h1]
  show (_ : List Nat) = _
  simp only [List.toList_toArray]
  have hl : x.length = x.cps.toList.length := len_cps x
  rcases Nat.lt_or_ge a x.length with ha | ha
  · rw [Nat.min_eq_left (Nat.le_of_lt ha)]
    rcases Nat.lt_or_ge b x.length with hb | hb
    · rw [Nat.min_eq_left (Nat.le_of_lt hb)]
    · rw [Nat.min_eq_right hb, List.take_of_length_le (by rw [List.length_drop]; omega), List.take_of_length_le (by rw [List.length_drop]; omega)]
  · rw [Nat.min_eq_right ha, List.drop_of_length_le (by omega), List.drop_of_length_le (by omega)]
    simp
theorem sl_to (x : Str) (b : Nat) : (Txt.slice x none (some (b : Int))).cps.toList = x.cps.toList.take b := by
  have e : Txt.slice x none (some (b : Int)) = Txt.slice x (some ((0 : Nat) : Int)) (some (b : Int)) := by
    unfold Txt.slice
    have : strSliceIndices none (some (b : Int)) 1 x.length = strSliceIndices (some ((0 : Nat) : Int)) (some (b : Int)) 1 x.length := by
      have h5 : (1 : Int) > 0 := by decide
      have h6 : ¬ (((0 : Nat) : Int) < 0) := by decide
      simp only [strSliceIndices, h5, h6, if_true, if_false]
      congr 1 <;> omega
    rw [this]
  rw [e, sl_ab x (Nat.zero_le b)]; simp
theorem sl_from (x : Str) (a : Nat) : (Txt.slice x (some (a : Int)) none).cps.toList = x.cps.toList.drop a := by
  have e : Txt.slice x (some (a : Int)) none = Txt.slice x (some (a : Int)) (some ((a + x.length : Nat) : Int)) := by
    unfold Txt.slice
    have : strSliceIndices (some (a : Int)) none 1 x.length = strSliceIndices (some (a : Int)) (some ((a + x.length : Nat) : Int)) 1 x.length := by
      have h5 : (1 : Int) > 0 := by decide
      have h6 : ¬ (((a + x.length : Nat) : Int) < 0) := by omega
      simp only [strSliceIndices, h5, h6, if_true, if_false]
      congr 1 <;> omega
    rw [this]
  rw [e, sl_ab x (by omega), List.take_of_length_le (by rw [List.length_drop, ← len_cps]; omega)]
theorem beq_cps (x y : Str) : (x == y) = (x.cps.toList == y.cps.toList) := (PyProof.Rows.eq_meets x y).symm
theorem bne_cps (x y : Str) : (x != y) = !(x.cps.toList == y.cps.toList) := by rw [bne, beq_cps]
noncomputable def spl (c : Nat) : List Nat → List (List Nat)
  | [] => [[]]
  | x :: l => if x = c then [] :: spl c l else match spl c l with
    | [] => [[x]]
    | h :: t => (x :: h) :: t
theorem spl_free : ∀ {c : Nat} {p : List Nat}, c ∉ p → spl c p = [p]
  | _, [], _ => rfl
  | c, x :: p, h => by
    unfold spl
    rw [if_neg (fun e => h (by rw [e]; exact List.mem_cons_self ..)), spl_free fun q => h (List.mem_cons_of_mem _ q)]
theorem spl_app : ∀ {c : Nat} {p : List Nat} (l : List Nat), c ∉ p → spl c (p ++ c :: l) = p :: spl c l
  | c, [], l, _ => by
    rw [List.nil_append]
    conv => lhs; unfold spl
    rw [if_pos rfl]
  | c, x :: p, l, h => by
    rw [List.cons_append]
    conv => lhs; unfold spl
    rw [if_neg (fun e => h (by rw [e]; exact List.mem_cons_self ..)), spl_app l fun q => h (List.mem_cons_of_mem _ q)]
theorem spl_jn {c : Nat} : ∀ (ps : List (List Nat)), ps ≠ [] → (∀ p ∈ ps, c ∉ p) → spl c (jn [c] ps) = ps
  | [], h, _ => absurd rfl h
  | [p], _, h => spl_free (h p (List.mem_cons_self ..))
  | p :: q :: r, _, h => by
    show spl c (p ++ [c] ++ jn [c] (q :: r)) = _
    rw [List.append_assoc, List.singleton_append, spl_app _ (h p (List.mem_cons_self ..)), spl_jn (q :: r) (by simp) fun x hx => h x (List.mem_cons_of_mem _ hx)]
theorem split_spl (x : Str) (c : Nat) : (Txt.split x ⟨#[c]⟩).map (·.cps.toList) = spl c x.cps.toList := by
  have e : jn [c] ((Txt.split x ⟨#[c]⟩).map (·.cps.toList)) = x.cps.toList := by
    have := jn_cps ⟨#[c]⟩ (Txt.split x ⟨#[c]⟩)
    rw [StrLaws.join_split] at this
    exact this.symm
  rw [← e, spl_jn]
  · intro q
    have := PyProof.Rows.split_pos x ⟨#[c]⟩
    rw [List.map_eq_nil_iff] at q
    rw [q] at this; simp at this
  · intro p hp
    obtain ⟨y, hy, rfl⟩ := List.mem_map.mp hp
    exact StrLaws.split_free x c y hy
theorem split_eq (x : Str) (c : Nat) : Txt.split x ⟨#[c]⟩ = (spl c x.cps.toList).map mkS := by
  rw [← split_spl, List.map_map]
  have : (mkS ∘ fun y : Str => y.cps.toList) = _root_.id := funext mkS_cps
  rw [this, List.map_id]
theorem ofSl : Str.ofString "/" = ⟨#[47]⟩ := by decide
theorem spl_cons (l : List Nat) : spl 47 (47 :: l) = [] :: spl 47 l := by
  conv => lhs; unfold spl
  rw [if_pos rfl]
theorem steps_eq (st : List Str) (c : Str) : npStep st c = plStep st c := by
  unfold npStep plStep
  have e1 : ([Str.ofString "", Str.ofString "."].any fun x => x == c) = (decide ((c.length : Int) = 0) || (c == Str.ofString ".")) := by
    simp only [List.any_cons, List.any_nil, Bool.or_false]
    congr 1
    · rw [Bool.eq_iff_iff, beq_iff_eq, decide_eq_true_iff]
      constructor
      · rintro rfl; decide
      · intro h; rw [len0 h]; decide
    · rw [Bool.eq_iff_iff, beq_iff_eq, beq_iff_eq]; exact eq_comm
  rw [e1]
  by_cases h1 : (c.length : Int) = 0
  · have := len0 h1
    subst this
    rw [if_pos h1, if_neg (by decide), if_pos (by decide)]
  · rw [if_neg h1]
    by_cases h2 : (c == Str.ofString ".") = true
    · have := eq_of_beq h2
      subst this
      rw [if_pos h2, if_neg (by decide), if_pos (by decide)]
    · rw [if_neg h2]
      by_cases h3 : (c == Str.ofString "..") = true
      · rw [if_pos h3, if_neg (by rw [bne, h3]; decide)]
      · rw [if_neg h3, if_pos (by rw [bne]; simp only [Bool.not_eq_true] at h3; rw [h3]; decide), if_neg]
        rw [show decide ((c.length : Int) = 0) = false from decide_eq_false h1, Bool.false_or]; exact h2
theorem fold_eq (cs st : List Str) : cs.foldl npStep st = cs.foldl plStep st := by
  have : npStep = plStep := funext fun st => funext fun c => steps_eq st c
  rw [this]
theorem np_nil (st : List Str) : npStep st (mkS []) = st := by unfold npStep; rw [if_pos (by decide)]
/-- the list that is joined, of a path's signs -/
noncomputable def ends (l : List Nat) (st : List Str) : List Str := ((spl 47 l).map mkS).foldl npStep st
theorem ends_cons (l : List Nat) (st : List Str) : ends (47 :: l) st = ends l st := by
  unfold ends
  rw [spl_cons, List.map_cons, List.foldl_cons, np_nil]
theorem npEnd_eq (x : Str) : npEnd x = ends (srP x).cps.toList [] := by
  unfold npEnd ends; rw [ofSl, split_eq]
theorem plEnd_eq (x : Str) : plEnd x = ends x.cps.toList (plInit x) := by
  unfold plEnd ends; rw [← fold_eq, ofSl, split_eq]
theorem sl01 (x : Str) : (Txt.slice x none (some 1)).cps.toList = x.cps.toList.take 1 := sl_to x 1
theorem sl02 (x : Str) : (Txt.slice x none (some 2)).cps.toList = x.cps.toList.take 2 := sl_to x 2
theorem sl12 (x : Str) : (Txt.slice x (some 1) (some 2)).cps.toList = (x.cps.toList.drop 1).take 1 := sl_ab x (by omega : 1 ≤ 2)
theorem sl23 (x : Str) : (Txt.slice x (some 2) (some 3)).cps.toList = (x.cps.toList.drop 2).take 1 := sl_ab x (by omega : 2 ≤ 3)
theorem sl1n (x : Str) : (Txt.slice x (some 1) none).cps.toList = x.cps.toList.drop 1 := sl_from x 1
theorem sl2n (x : Str) : (Txt.slice x (some 2) none).cps.toList = x.cps.toList.drop 2 := sl_from x 2
theorem c47 : (Str.ofString "/").cps.toList = [47] := by decide
theorem c4747 : (Str.ofString "//").cps.toList = [47, 47] := by decide
theorem startswith_sl (x : Str) : Txt.startswith x (Str.ofString "/") = (x.cps.toList.take 1 == [47]) := by
  unfold Txt.startswith subAt
  rw [ofSl]
  show (decide (0 + 1 ≤ x.length) && x.cps.extract 0 (0 + 1) == #[47]) = _
  have h1 : (x.cps.extract 0 (0 + 1) == #[47]) = (x.cps.toList.take 1 == [47]) := by
    rw [Bool.eq_iff_iff, beq_iff_eq, beq_iff_eq, ← Array.toList_inj, Array.toList_extract]
    simp
  rw [h1]
  cases hx : x.cps.toList with
  | nil => simp
  | cons a l =>
    have : 0 + 1 ≤ x.length := by rw [len_cps, hx]; simp
    rw [decide_eq_true this, Bool.true_and]
theorem jnP_cps (p : Str) : (jnP p).cps.toList = if p.cps.toList.take 1 = [47] then p.cps.toList else 47 :: 114 :: 47 :: 105 :: 116 :: 39 :: 115 :: 47 :: p.cps.toList := by
  unfold jnP
  rw [startswith_sl]
  by_cases h : p.cps.toList.take 1 = [47]
  · rw [if_pos (by rw [h]; decide), if_pos h]
  · rw [if_neg (by rw [beq_iff_eq]; exact h), if_neg h, cps_app, cps_app, c47]
    rw [show (Str.ofString "/r/it's").cps.toList = [47, 114, 47, 105, 116, 39, 115] by decide]
    rfl
theorem srI_cps (x : Str) : (srI x).cps.toList = if x.cps.toList.take 1 = [47] then (if (x.cps.toList.drop 1).take 1 = [47] ∧ (x.cps.toList.drop 2).take 1 ≠ [47] then [47, 47] else [47]) else [] := by
  unfold srI
  simp only [beq_cps, bne_cps, sl01, sl12, sl23, c47]
  by_cases h1 : x.cps.toList.take 1 = [47]
  · rw [if_pos h1, if_neg (by rw [h1]; decide)]
    by_cases h2 : (x.cps.toList.drop 1).take 1 = [47]
    · rw [if_neg (by rw [h2]; decide)]
      by_cases h3 : (x.cps.toList.drop 2).take 1 = [47]
      · rw [if_pos (by rw [h3]; decide), if_neg (by simp [h3])]; exact c47
      · rw [if_neg (by rw [beq_iff_eq]; exact h3), if_pos ⟨h2, h3⟩, sl02]
        cases hx : x.cps.toList with
        | nil => rw [hx] at h1; simp at h1
        | cons a l =>
          rw [hx] at h1 h2
          cases l with
          | nil => simp at h2
          | cons b l => simp at h1 h2; simp [h1, h2]
    · rw [if_pos (by simpa using h2), if_neg (fun q => h2 q.1)]; exact c47
  · rw [if_neg h1, if_pos (by simpa using h1)]; decide
theorem srP_cps (x : Str) : (srP x).cps.toList = if x.cps.toList.take 1 = [47] then (if (x.cps.toList.drop 1).take 1 = [47] ∧ (x.cps.toList.drop 2).take 1 ≠ [47] then x.cps.toList.drop 2 else x.cps.toList.drop 1) else x.cps.toList := by
  unfold srP
  simp only [beq_cps, bne_cps, sl01, sl12, sl23, c47]
  by_cases h1 : x.cps.toList.take 1 = [47]
  · rw [if_pos h1, if_neg (by rw [h1]; decide)]
    by_cases h2 : (x.cps.toList.drop 1).take 1 = [47]
    · rw [if_neg (by rw [h2]; decide)]
      by_cases h3 : (x.cps.toList.drop 2).take 1 = [47]
      · rw [if_pos (by rw [h3]; decide), if_neg (by simp [h3])]; exact sl1n x
      · rw [if_neg (by rw [beq_iff_eq]; exact h3), if_pos ⟨h2, h3⟩, sl2n]
    · rw [if_pos (by simpa using h2), if_neg (fun q => h2 q.1)]; exact sl1n x
  · rw [if_neg h1, if_pos (by simpa using h1)]
theorem plInit_eq (x : Str) : plInit x = if x.cps.toList.take 1 = [47] then [] else [mkS [114], mkS [105, 116, 39, 115]] := by
  unfold plInit
  rw [beq_cps, sl01, c47]
  by_cases h1 : x.cps.toList.take 1 = [47]
  · rw [if_pos h1, if_pos (by rw [h1]; decide)]
  · rw [if_neg h1, if_neg (by rw [beq_iff_eq]; exact h1)]
    rw [show Str.ofString "r" = mkS [114] by decide, show Str.ofString "it's" = mkS [105, 116, 39, 115] by decide]
theorem head_eq (x : Str) : ((Txt.slice x none (some 2) == Str.ofString "//") = true ∧ (Txt.slice x (some 2) (some 3) != Str.ofString "/") = true) ↔ (x.cps.toList.take 2 = [47, 47] ∧ (x.cps.toList.drop 2).take 1 ≠ [47]) := by
  rw [beq_cps, bne_cps, sl02, sl23, c47, c4747, beq_iff_eq, Bool.not_eq_true', beq_eq_false_iff_ne]
/-- P4 -/
theorem place_law (p : Str) : srI (jnP p) ++ Txt.join (Str.ofString "/") (npEnd (jnP p)) = plPlace p := by
  unfold plPlace
  have key : (srI (jnP p) = if x' : (Txt.slice p none (some 2) == Str.ofString "//") = true ∧ (Txt.slice p (some 2) (some 3) != Str.ofString "/") = true then Str.ofString "//" else Str.ofString "/") ∧ npEnd (jnP p) = plEnd p := by
    rw [npEnd_eq, plEnd_eq, srP_cps, plInit_eq, jnP_cps]
    by_cases h1 : p.cps.toList.take 1 = [47]
    · simp only [if_pos h1]
      have hp : p.cps.toList = 47 :: p.cps.toList.drop 1 := by
        cases hx : p.cps.toList with
        | nil => rw [hx] at h1; simp at h1
        | cons a l => rw [hx] at h1; simp at h1; simp [h1]
      have ej : (jnP p).cps.toList = p.cps.toList := by rw [jnP_cps, if_pos h1]
      by_cases h2 : (p.cps.toList.drop 1).take 1 = [47] ∧ (p.cps.toList.drop 2).take 1 ≠ [47]
      · rw [if_pos h2]
        have hp2 : p.cps.toList.drop 1 = 47 :: p.cps.toList.drop 2 := by
          cases hx : p.cps.toList with
          | nil => rw [hx] at h1; simp at h1
          | cons a l =>
            rw [hx] at h2
            cases l with
            | nil => simp at h2
            | cons b l => have := h2.1; simp at this; simp [this]
        have hh : p.cps.toList.take 2 = [47, 47] := by rw [hp, hp2]; simp
        constructor
        · rw [dif_pos ((head_eq p).mpr ⟨hh, h2.2⟩)]
          refine str_ext ?_
          rw [srI_cps, ej, if_pos h1, if_pos h2, c4747]
        · conv => rhs; rw [hp, ends_cons, hp2, ends_cons]
      · rw [if_neg h2]
        constructor
        · rw [dif_neg]
          · refine str_ext ?_
            rw [srI_cps, ej, if_pos h1, if_neg h2, c47]
          · rw [head_eq]
            rintro ⟨q1, q2⟩
            refine h2 ⟨?_, q2⟩
            cases hx : p.cps.toList with
            | nil => rw [hx] at q1; simp at q1
            | cons a l =>
              rw [hx] at q1
              cases l with
              | nil => simp at q1
              | cons b l => simp at q1; simp [q1]
        · conv => rhs; rw [hp, ends_cons]
    · simp only [if_neg h1]
      constructor
      · rw [dif_neg]
        · refine str_ext ?_
          rw [srI_cps, jnP_cps, if_neg h1, c47]
          simp
        · rw [head_eq]
          rintro ⟨q1, _⟩
          refine h1 ?_
          cases hx : p.cps.toList with
          | nil => rw [hx] at q1; simp at q1
          | cons a l => rw [hx] at q1; simp at q1; simp [q1]
      · have e0 : (47 :: 114 :: 47 :: 105 :: 116 :: 39 :: 115 :: 47 :: p.cps.toList).take 1 = [47] := rfl
        rw [if_pos e0, if_neg (by simp)]
        show ends ([114] ++ 47 :: ([105, 116, 39, 115] ++ 47 :: p.cps.toList)) [] = _
        unfold ends
        rw [spl_app _ (by decide), spl_app _ (by decide)]
        simp only [List.map_cons, List.foldl_cons]
        congr 1
  rw [key.1, key.2]
  by_cases h : (Txt.slice p none (some 2) == Str.ofString "//") = true ∧ (Txt.slice p (some 2) (some 3) != Str.ofString "/") = true
  · rw [dif_pos h, if_pos h]
  · rw [dif_neg h, if_neg h]

end

/-! ## L2 -/
section
theorem reg_own0_L2 : True := by
  k_with "exec For Name Name cons nil" => ((k_here; (refine wpAny_mono (E := fun _ _ => False) ?_ (fun _ _ h => h) (fun _ _ h => h.elim)); ktu_for))
  trivial
set_option maxRecDepth 100000 in
set_option maxHeartbeats 8000000 in
theorem join_spec {w : World} {mean : ExcName → Option Value} {mg mb : Str → Option Value}
    {dp un : Nat} {gd : Option (List Code)} {cn : Str} {cs : Scope} {a : Addr} {ccd : Value} {cl : List (Str × Addr)} {outer : List Env} {A₀ : Around} {base h₀ : Heap} {L : Addr} {m : Str → Option Value} {news : List (Addr × Obj)} {s : Shared} {Q E : Value → Shared → Prop} {x : Str} {t1 t2 : Tok}
    (B : Below A₀ base outer h₀) (F : Fr h₀ L s.heap m) (X : (Mine.hd.heap_1_39 w.params).In h₀) (N : News h₀ L s.heap news) (T : (Top Mine.hd.view_1_40 (looseW Mine.hd.view_1_40 [Str.ofString "check_arg_types_genericpath", Str.ofString "join_posixpath", Str.ofString "_twin_re_1", Str.ofString "UnsupportedOperation", Str.ofString "IOBase", Str.ofString "BufferedIOBase", Str.ofString "TextIOBase", Str.ofString "BytesIO", Str.ofString "StringIO", Str.ofString "check_arg_types_path", Str.ofString "join_path", Str.ofString "shlex", Str.ofString "split", Str.ofString "_find_unsafe"]) mean mg mb h₀)) (hk : cs.kind = .function)
    (hd : dp + 3 < recursionLimit) (hu : un + 24 < cLine) (hx : x.length ≤ 1048)
    (hret : ∀ (b : Str) (t' : Tok) (h' : Heap) (tk' : Nat), jnP x = b → Fr h₀ L h' m → News h₀ L h' news → Q (.str b t') { s with heap := h', toks := tk' }) :
    wpAny (model PySem.Challenge.rw_ik0143_01.row.prog w) (ktrTop dp un gd cn cs L a ccd cl outer) (call (.ref 152) [.str (Str.ofString "/r/it's") t1, .str x t2]) Q E s := by
  refine wpAny_call ?_
  k_dflt (kp_kind "rest"; (refine' Mine.restG B F X N T ?kA ?kF ?kK ?k6 ?k7 ?k8 ?kV ?kP ?kG ?kB ?_ ?c2 ?c3 ?c4 ?c5; (case kA => exact rfl); (case kF => exact rfl); (case kK => exact hk); (case k6 => k_is); (case k7 => k_is); (case k8 => ktr_room); (case kV => kl_lit); (case kP => exact rfl); (case kG => exact fun _ => rfl); (case kB => exact fun _ => locs rfl); (case c5 => decide); (case c2 => exact rfl); (case c3 => exact rfl); (case c4 => exact rfl); k_whole; intro D' g' L' h' FG' F' N' B' X' T' kG'; (try (refine Mine.fold_e ?_; intro ev ar qk ek sk))))
  k_steps
  all_goals refine hret _ _ _ _ ?_ (by k_asm) (news_backR N (by assumption) (by assumption))
  all_goals simp only [jnP, *, if_true, if_false, Bool.false_eq_true]

end

theorem words3 : True := by
  k_with "call builtin:list.extend" => ((k_here; (with_reducible show wpAny _ _ (call (Value.builtin _) [Value.ref _, Value.ref _]) _ _ _); k_dflt (refine' Mine.st_extend ?F_35 ?N_35 ?b_35 ?U_35 ?i_35 ?j_35 ?z_35 ?_; (case F_35 => k_asm); (case N_35 => k_asm); (case b_35 => k_mem); (case U_35 => (intro _; k_upd)); (case i_35 => with_reducible assumption); (case j_35 => with_reducible assumption); (case z_35 => first | with_reducible assumption | (rw [sizeLine_eq]; (try simp only [List.length_drop]); omega))); intro h'z k'z F'z N'z hI'z; (try k_sweep)))
  trivial
/-! ## R19 -/
section
open PySem.Calls PySem.Spec
theorem newsT_pair {A₀ : Around} {base h₀ H g g' h' h₀' : Heap} {env : Env} {outer : List Env} {L L' a b : Addr} {oa ob : Obj} {m' : Str → Option Value} {news : List (Addr × Obj)} (hf : env.frame = some L) (B : Below A₀ base outer h₀) (N : News h₀ L H news) (G : GSub H g [a, b]) (T : KtsTurn (frs (env :: outer)) g g') (F : Fr g' L' h' m') (T1 : KtsTurn (frs outer) h₀ h₀') (K : News h₀' L h' [(a, oa), (b, ob)]) (ha : (a, oa) ∈ news) (hb : (b, ob) ∈ news) : News h₀' L h' news := by
  intro p hp
  by_cases h1 : p.1 = a
  · have : p.2 = oa := Option.some.inj ((N p hp).1.symm.trans (h1 ▸ (N _ ha).1))
    rw [show p = (a, oa) from Prod.ext h1 this]
    exact K _ (List.mem_cons_self ..)
  · by_cases h2 : p.1 = b
    · have : p.2 = ob := Option.some.inj ((N p hp).1.symm.trans (h2 ▸ (N _ hb).1))
      rw [show p = (b, ob) from Prod.ext h2 this]
      exact K _ (List.mem_cons_of_mem _ (List.mem_singleton_self _))
    · exact ⟨F.keep _ _ (T.other _ _ (G _ _ (N p hp).1 (by simp [h1, h2])) fun hm => by
        rcases mem_frs hf hm with z | z
        · exact (N p hp).2.1 z
        · obtain ⟨_, o, ho, _⟩ := B.frames.mem z
          exact absurd ((N p hp).2.2.symm.trans ho) (by simp)), (N p hp).2.1, T1.none_ _ (N p hp).2.2⟩
noncomputable abbrev outOf {A₀ : Around} {base g : Heap} {o : List Env} (_ : Below A₀ base o g) : List Env := o
noncomputable abbrev arOf {A₀ : Around} {base g : Heap} {o : List Env} (_ : Below A₀ base o g) : Around := A₀
theorem sl_drop {A : List Str} {i : Nat} {e : Str} (h : A[i]? = some e) : A.drop i = e :: A.drop (i + 1) := by
  have h1 := (List.getElem?_eq_some_iff.mp h)
  obtain ⟨hl, he⟩ := h1
  rw [← he, List.getElem_cons_drop]
theorem sl_lt {A B : List Str} {i j k : Nat} {e x : Str} (hA : A[i]? = some e) (hB : B[j]? = some x) (h : lts e x = true) (hdw : dw e (A.drop (i + 1)) = A.drop k) :
    sld (A.drop i) (B.drop j) = (e :: (sld (A.drop k) (B.drop j)).1, (sld (A.drop k) (B.drop j)).2) := by
  rw [sl_drop hA, sl_drop hB, sld_lt h, hdw]
theorem sl_gt {A B : List Str} {i j k : Nat} {e x : Str} (hA : A[i]? = some e) (hB : B[j]? = some x) (h : lts e x = false) (h' : lts x e = true) (hdw : dw x (B.drop (j + 1)) = B.drop k) :
    sld (A.drop i) (B.drop j) = ((sld (A.drop i) (B.drop k)).1, x :: (sld (A.drop i) (B.drop k)).2) := by
  rw [sl_drop hA, sl_drop hB, sld_gt h h', hdw]
theorem sl_eq {A B : List Str} {i j k l : Nat} {e x : Str} (hA : A[i]? = some e) (hB : B[j]? = some x) (h : lts e x = false) (h' : lts x e = false) (hdw : dw e (A.drop (i + 1)) = A.drop k) (hdw' : dw x (B.drop (j + 1)) = B.drop l) :
    sld (A.drop i) (B.drop j) = sld (A.drop k) (B.drop l) := by
  rw [sl_drop hA, sl_drop hB, sld_eq h h', hdw, hdw']
theorem sl_end {A : List Str} {e : Str} {k i : Nat} (h : dw e (A.drop (i + 1)) = dw e (A.drop k)) (hk : ¬ k < A.length) : dw e (A.drop (i + 1)) = A.drop k := by
  rw [h, List.drop_of_length_le (by omega)]; rfl
theorem sl_more {A : List Str} {e c : Str} {k i : Nat} (h : dw e (A.drop (i + 1)) = dw e (A.drop k)) (hc : A[k]? = some c) (q : (c == e) = true) : dw e (A.drop (i + 1)) = dw e (A.drop (k + 1)) := by
  rw [h, sl_drop hc, dw_yes q]
theorem sl_stop {A : List Str} {e c : Str} {k i : Nat} (h : dw e (A.drop (i + 1)) = dw e (A.drop k)) (hc : A[k]? = some c) (q : (c == e) = false) : dw e (A.drop (i + 1)) = A.drop k := by
  rw [h, sl_drop hc, dw_no q]
theorem lts_of {x y : Str} (h : x.cps.toList < y.cps.toList) : lts x y = true := lts_iff.mpr h
theorem lts_not {x y : Str} (h : ¬ x.cps.toList < y.cps.toList) : lts x y = false := by rw [← Bool.not_eq_true, lts_iff]; exact h
noncomputable abbrev tup2 (a b : Value) : Obj := { cls := .type "tuple", data := .seq [a, b].toArray }
/-- the frame and the ledger of sorted_list_difference: ahead of a turn -/
inductive SldInv (g : Heap) (L' : Addr) (la lb lM lU : Addr) (va vb : List Value) (na nb : Nat) (A B9 : List Str) (s : Shared) (i j : Nat) (mis une : List Str) : Shared → Prop
  | intro (h : Heap) (tk : Nat) (b : Str → Option Value) (vm vu : List Value) (n1 n2 : Nat) (ti tj : Tok)
    (F : Fr g L' h (fun y => if y = Str.ofString "i" then some (.int (i : Int) ti) else if y = Str.ofString "j" then some (.int (j : Int) tj) else if y = Str.ofString "missing" then some (.ref lM) else if y = Str.ofString "unexpected" then some (.ref lU) else if y = Str.ofString "expected" then some (.ref la) else if y = Str.ofString "actual" then some (.ref lb) else b y))
    (N : News g L' h [(lU, listOf vu.toArray n2), (lM, listOf vm.toArray n1), (la, listOf va.toArray na), (lb, listOf vb.toArray nb)]) (hvm : StrsAre vm mis) (hvu : StrsAre vu une) (hi : i ≤ A.length) (hj : j ≤ B9.length) (hmi : mis.length ≤ i) (hun : une.length ≤ j)
    (e1 : (sld A B9).1 = mis ++ (sld (A.drop i) (B9.drop j)).1) (e2 : (sld A B9).2 = une ++ (sld (A.drop i) (B9.drop j)).2) : SldInv g L' la lb lM lU va vb na nb A B9 s i j mis une { s with heap := h, toks := tk }
/-- at the end -/
inductive SldEnd (g' : Heap) (oe : List Env) (ae : Around) (base : Heap) (L' : Addr) (la lb lM lU : Addr) (va vb : List Value) (na nb : Nat) (s : Shared) (mis une : List Str) : Shared → Prop
  | intro (g h : Heap) (tk i j : Nat) (b : Str → Option Value) (vm vu : List Value) (n1 n2 : Nat) (ti tj : Tok) (T : KtsTurn (frs oe) g' g) (B : Below ae base oe g)
    (F : Fr g L' h (fun y => if y = Str.ofString "i" then some (.int (i : Int) ti) else if y = Str.ofString "j" then some (.int (j : Int) tj) else if y = Str.ofString "missing" then some (.ref lM) else if y = Str.ofString "unexpected" then some (.ref lU) else if y = Str.ofString "expected" then some (.ref la) else if y = Str.ofString "actual" then some (.ref lb) else b y))
    (N : News g L' h [(lU, listOf vu.toArray n2), (lM, listOf vm.toArray n1), (la, listOf va.toArray na), (lb, listOf vb.toArray nb)]) (hvm : StrsAre vm mis) (hvu : StrsAre vu une) : SldEnd g' oe ae base L' la lb lM lU va vb na nb s mis une { s with heap := h, toks := tk }
/-- in a loop over equal ones -/
inductive DwInv (g : Heap) (L' : Addr) (s : Shared) (mp : Nat → Tok → Str → Option Value) (led : List (Addr × Obj)) (A : List Str) (e : Str) (i k : Nat) : Shared → Prop
  | intro (h : Heap) (tk : Nat) (tj : Tok) (F : Fr g L' h (mp k tj)) (N : News g L' h led) (h1 : i + 1 ≤ k) (h2 : k ≤ A.length) (h3 : dw e (A.drop (i + 1)) = dw e (A.drop k)) : DwInv g L' s mp led A e i k { s with heap := h, toks := tk }
set_option maxRecDepth 100000 in
set_option maxHeartbeats 8000000 in
theorem sld_spec {w : World} {mean : ExcName → Option Value} {mg mb : Str → Option Value}
    {dp un : Nat} {gd : Option (List Code)} {cn : Str} {cs : Scope} {a : Addr} {ccd : Value} {cl : List (Str × Addr)} {outer : List Env} {A₀ : Around} {base h₀ : Heap} {L : Addr} {m : Str → Option Value} {news : List (Addr × Obj)} {s : Shared} {Q E : Value → Shared → Prop} {va vb : List Value} {A B9 : List Str} {la lb : Addr} {na nb : Nat}
    (XB : (Mine.hd.heap_1_39 w.params).In base) (TB : Top Mine.hd.view_1_40 (looseW Mine.hd.view_1_40 [Str.ofString "check_arg_types_genericpath", Str.ofString "join_posixpath", Str.ofString "_twin_re_1", Str.ofString "UnsupportedOperation", Str.ofString "IOBase", Str.ofString "BufferedIOBase", Str.ofString "TextIOBase", Str.ofString "BytesIO", Str.ofString "StringIO", Str.ofString "check_arg_types_path", Str.ofString "join_path", Str.ofString "shlex", Str.ofString "split", Str.ofString "_find_unsafe"]) mean mg mb base) (B : Below A₀ base outer h₀) (F : Fr h₀ L s.heap m) (X : (Mine.hd.heap_1_39 w.params).In h₀) (N : News h₀ L s.heap news) (T : (Top Mine.hd.view_1_40 (looseW Mine.hd.view_1_40 [Str.ofString "check_arg_types_genericpath", Str.ofString "join_posixpath", Str.ofString "_twin_re_1", Str.ofString "UnsupportedOperation", Str.ofString "IOBase", Str.ofString "BufferedIOBase", Str.ofString "TextIOBase", Str.ofString "BytesIO", Str.ofString "StringIO", Str.ofString "check_arg_types_path", Str.ofString "join_path", Str.ofString "shlex", Str.ofString "split", Str.ofString "_find_unsafe"]) mean mg mb h₀)) (hk : cs.kind = .function)
    (hma : (la, listOf va.toArray na) ∈ news) (hmb : (lb, listOf vb.toArray nb) ∈ news) (hva : StrsAre va A) (hvb : StrsAre vb B9) (hsa : A.length ≤ 1000) (hsb : B9.length ≤ 1000)
    (hd : dp + 8 < recursionLimit) (hu : un + 60 < cLine)
    (hret : ∀ (R D1 D2 : Addr) (v1 v2 : List Value) (n1 n2 : Nat) (g9 h' : Heap) (tk' : Nat), KtsTurn (frs outer) h₀ g9 → Below A₀ base outer g9 → Fr g9 L h' m → News g9 L h' news → News g9 L h' [(R, tup2 (.ref D1) (.ref D2)), (D1, listOf v1.toArray n1), (D2, listOf v2.toArray n2)] → StrsAre v1 (sld A B9).1 → StrsAre v2 (sld A B9).2 → Q (.ref R) { s with heap := h', toks := tk' }) :
    wpAny (model PySem.Challenge.rw_ik0143_01.row.prog w) (ktrTop dp un gd cn cs L a ccd cl outer) (call (.ref 51) [.ref la, .ref lb]) Q E s := by
  have N2 : News h₀ L s.heap [(la, listOf va.toArray na), (lb, listOf vb.toArray nb)] := news_sub N (sub2 hma hmb)
  refine wpAny_call ?_
  k_dflt (refine' code_defT B F X N2 T ?kA ?kF ?kK ?k6 ?k7 ?k8 ?k9 ?kB ?_ ?c2 ?c3 ?c4 ?c5; (case kA => exact rfl); (case kF => exact rfl); (case kK => exact hk); (case k6 => k_is); (case k7 => k_is); (case k8 => ktr_room); (case k9 => first | exact BindsTo.of_eq rfl | exact binds_K (by k_in) rfl (by k_is) rfl rfl rfl); (case c5 => decide); (case kB => exact locs rfl); (case c2 => exact rfl); (case c3 => exact rfl); (case c4 => exact rfl); k_whole; intro g' L' h' FG' F' N' B' X' T' kG'; (try (refine Mine.fold_e ?_; intro ev ar qk ek sk)))
  clear N2
  repeat' (first | (k_unfold; (try dsimp only)) | ((fail_if_success (with_reducible show wpAny _ _ (exec (Stmt.While _ _ _ _) _) _ _ _)); walk1) | ((fail_if_success (with_reducible show wpAny _ _ (exec (Stmt.While _ _ _ _) _) _ _ _)); dsimp only; walk1))
  rename (Fr g' L' _ _) => FF
  rename (News g' L' _ _) => NN
  rename_i lM _ oM _ _ lU _ oU _
  refine wpAny_mono (Q := fun f s' => Keep (f = Flow.next ∧ SldEnd g' (outOf B') (arOf B') base L' la lb lM lU va vb na nb s (sld A B9).1 (sld A B9).2 s')) ?_ ?_ (fun _ _ e => e)
  · refine whl_inv (ι := Nat × Nat × List Str × List Str) (fun i => (A.length - i.1) + (B9.length - i.2.1)) (fun i s' => SldInv g' L' la lb lM lU va vb na nb A B9 s i.1 i.2.1 i.2.2.1 i.2.2.2 s') (by first | passes_own | with_unfolding_all passes_own) ?_ (0, 0, [], []) _
      (SldInv.intro _ _ _ [] [] 0 0 _ _ (Fr.eq FF (by first | exact Mine.see_go (Mine.see_cons (by with_unfolding_all rfl) (Mine.see_cons (by with_unfolding_all rfl) (Mine.see_cons (by with_unfolding_all rfl) (Mine.see_cons (by with_unfolding_all rfl) (Mine.see_cons (by with_unfolding_all rfl) (Mine.see_cons (by with_unfolding_all rfl) ((by repeat (first | exact Mine.see_refl | refine Mine.see_off (by k_mem) ?_ | refine Mine.see_cons (by with_unfolding_all rfl) ?_))))))))) | exact Eq.symm (Mine.see_go (Mine.see_cons (by with_unfolding_all rfl) (Mine.see_cons (by with_unfolding_all rfl) (Mine.see_cons (by with_unfolding_all rfl) (Mine.see_cons (by with_unfolding_all rfl) (Mine.see_cons (by with_unfolding_all rfl) (Mine.see_cons (by with_unfolding_all rfl) ((by repeat (first | exact Mine.see_refl | refine Mine.see_off (by k_mem) ?_ | refine Mine.see_cons (by with_unfolding_all rfl) ?_)))))))))))) NN .nil .nil (Nat.zero_le _) (Nat.zero_le _) (Nat.zero_le _) (Nat.zero_le _) rfl rfl)
    rintro ⟨i, j, mis, une⟩ _ ⟨h, tk, b, vm, vu, n1, n2, ti, tj, F1, N1, hvm, hvu, hi, hj, hmi, hun, e1, e2⟩
    dsimp only at *
    clear FF NN
    repeat' (first | ((fail_if_success (fail_if_success k_unfold)); first | (with_reducible refine (?_ : wpAny _ _ _ _ _ _)) | (with_reducible refine (?_ : LeaveK _ _ _ _ _ _ _))) | (k_unfold; (try dsimp only)) | ((fail_if_success (fail_if_success k_fold)); (with_reducible refine Mine.fold_q ?_); intro qk ek sk; (try ((with_reducible rename Fr _ _ _ _ => kF); (fail_if_success (have := Mine.pin_chk kF (by with_reducible assumption))); (refine Mine.pin_m kF ?_); intro mk kF9 pk; (try clear kF); (with_reducible rename News _ _ _ _ => kN); (refine Mine.pin_N kN ?_); intro nk kN9; (try clear kN)))) | ((fail_if_success (with_reducible show wpAny _ _ (exec (Stmt.Try _ _ _ _ _) _) _ _ _)); walk1) | ((fail_if_success (with_reducible show wpAny _ _ (exec (Stmt.Try _ _ _ _ _) _) _ _ _)); dsimp only; walk1) | (leave1; walk_say "STEP leave1"; try dsimp only) | fail "no step")
    refine wpAny_Try_except ?_
    k_fold
    have hEx : ∀ (i j : Nat) (mis une : List Str) (b : Str → Option Value) (vm vu : List Value) (n1 n2 : Nat) (ti tj : Tok) (h1 : Heap) (tk1 : Nat) (e : Addr) (c : Value),
        XAny (arOf B') base (outOf B') g' L' h1 (fun y => if y = Str.ofString "i" then some (.int (i : Int) ti) else if y = Str.ofString "j" then some (.int (j : Int) tj) else if y = Str.ofString "missing" then some (.ref lM) else if y = Str.ofString "unexpected" then some (.ref lU) else if y = Str.ofString "expected" then some (.ref la) else if y = Str.ofString "actual" then some (.ref lb) else b y)
          [(lU, listOf vu.toArray n2), (lM, listOf vm.toArray n1), (la, listOf va.toArray na), (lb, listOf vb.toArray nb)] "IndexError" c e → StrsAre vm mis → StrsAre vu une → i ≤ A.length → j ≤ B9.length → mis.length ≤ 1000 → une.length ≤ 1000 →
        (sld A B9).1 = mis ++ A.drop i → (sld A B9).2 = une ++ B9.drop j → ek (.ref e) { s with heap := h1, toks := tk1 } := by
      clear hi hj hmi hun e1 e2 hvm hvu kF9 kN9
      intro i j mis une b vm vu n1 n2 ti tj h1 tk1 e c xa hvm hvu hi hj hmi hun e1 e2
      show wpAny _ _ (noteFrame _ _) _ _ _
      refine note_any rfl rfl (fun q => by cases q) xa ?_
      clear xa
      intro g1 h1 T oe oT T1 K1 F1 xa
      refine handle_T (T' := "IndexError") F1 xa (XB.keeps K1.stays) (TB.keeps K1.stays) ?ex PyProof.Rows.Boot.«IndexError» (by decide) PySem.F.isExc_IndexError PySem.F.notTuple_IndexError ?hs ?_ rfl rfl (by decide) (by first | passes_own | with_unfolding_all passes_own)
      case ex => k_is
      case hs => rw [isSubtype_type]; kernel_rfl
      intro h2 F2 N2
      have X1 := XB.keeps K1.stays
      have P1 := TB.keeps K1.stays
      clear F1 xa X' T'
      repeat' (first | ((fail_if_success (fail_if_success k_unfold)); first | (with_reducible refine (?_ : wpAny _ _ _ _ _ _)) | (with_reducible refine (?_ : LeaveK _ _ _ _ _ _ _))) | (k_unfold; (try dsimp only)) | ((fail_if_success (fail_if_success k_fold)); (with_reducible refine Mine.fold_q ?_); intro qk ek sk; (try ((with_reducible rename Fr _ _ _ _ => kF); (fail_if_success (have := Mine.pin_chk kF (by with_reducible assumption))); (refine Mine.pin_m kF ?_); intro mk kF9 pk; (try clear kF); (with_reducible rename News _ _ _ _ => kN); (refine Mine.pin_N kN ?_); intro nk kN9; (try clear kN)))) | walk1 | (dsimp only; walk1) | (leave1; walk_say "STEP leave1"; try dsimp only) | fail "no step")
      rename (Fr g1 L' _ _) => F9
      rename (News g1 L' _ _) => N9
      rename (StrsAre _ (mis ++ _)) => s1
      rename (StrsAre _ (une ++ _)) => s2
      rw [Int.toNat_natCast, ← e1] at s1
      rw [Int.toNat_natCast, ← e2] at s2
      dsimp only [WhlTurn, Keep]
      exact ⟨rfl, .intro g1 _ _ i j b _ _ _ _ _ _ T1 K1 F9 (fun p hp => N9 p (List.mem_cons_of_mem _ (List.mem_cons_of_mem _ hp))) s1 s2⟩
    repeat' (first | ((fail_if_success (fail_if_success k_unfold)); first | (with_reducible refine (?_ : wpAny _ _ _ _ _ _)) | (with_reducible refine (?_ : LeaveK _ _ _ _ _ _ _))) | (k_unfold; (try dsimp only)) | ((fail_if_success (fail_if_success k_fold)); (with_reducible refine Mine.fold_q ?_); intro qk ek sk; (try ((with_reducible rename Fr _ _ _ _ => kF); (fail_if_success (have := Mine.pin_chk kF (by with_reducible assumption))); (refine Mine.pin_m kF ?_); intro mk kF9 pk; (try clear kF); (with_reducible rename News _ _ _ _ => kN); (refine Mine.pin_N kN ?_); intro nk kN9; (try clear kN)))) | ((fail_if_success (with_reducible show wpAny _ _ (subscriptTail _ _ (Value.ref _) (Value.int _ _)) _ _ _)); walk1) | ((fail_if_success (with_reducible show wpAny _ _ (subscriptTail _ _ (Value.ref _) (Value.int _ _)) _ _ _)); dsimp only; walk1) | (leave1; walk_say "STEP leave1"; try dsimp only) | fail "no step")
    by_cases hiA : i < A.length
    · k_dflt (refine' Mine.st_itemN ?l ?i ?a ?b ?_ (by with_unfolding_all rfl); (case l => kmk_list); (case i => exact hva); (case a => exact hiA); (case b => exact hsa))
      intro e0 te he0
      repeat' (first | ((fail_if_success (fail_if_success k_unfold)); first | (with_reducible refine (?_ : wpAny _ _ _ _ _ _)) | (with_reducible refine (?_ : LeaveK _ _ _ _ _ _ _))) | (k_unfold; (try dsimp only)) | ((fail_if_success (fail_if_success k_fold)); (with_reducible refine Mine.fold_q ?_); intro qk ek sk; (try ((with_reducible rename Fr _ _ _ _ => kF); (fail_if_success (have := Mine.pin_chk kF (by with_reducible assumption))); (refine Mine.pin_m kF ?_); intro mk kF9 pk; (try clear kF); (with_reducible rename News _ _ _ _ => kN); (refine Mine.pin_N kN ?_); intro nk kN9; (try clear kN)))) | ((fail_if_success (with_reducible show wpAny _ _ (subscriptTail _ _ (Value.ref _) (Value.int _ _)) _ _ _)); walk1) | ((fail_if_success (with_reducible show wpAny _ _ (subscriptTail _ _ (Value.ref _) (Value.int _ _)) _ _ _)); dsimp only; walk1) | (leave1; walk_say "STEP leave1"; try dsimp only) | fail "no step")
      by_cases hjB : j < B9.length
      · k_dflt (refine' Mine.st_itemN ?l ?i ?a ?b ?_ (by with_unfolding_all rfl); (case l => kmk_list); (case i => exact hvb); (case a => exact hjB); (case b => exact hsb))
        intro a0 ta ha0
        have hA0 : A[i]? = some e0 := he0
        have hB0 : B9[j]? = some a0 := ha0
        repeat' (first | ((fail_if_success (fail_if_success k_unfold)); first | (with_reducible refine (?_ : wpAny _ _ _ _ _ _)) | (with_reducible refine (?_ : LeaveK _ _ _ _ _ _ _))) | (k_unfold; (try dsimp only)) | ((fail_if_success (fail_if_success k_fold)); (with_reducible refine Mine.fold_q ?_); intro qk ek sk; (try ((with_reducible rename Fr _ _ _ _ => kF); (fail_if_success (have := Mine.pin_chk kF (by with_reducible assumption))); (refine Mine.pin_m kF ?_); intro mk kF9 pk; (try clear kF); (with_reducible rename News _ _ _ _ => kN); (refine Mine.pin_N kN ?_); intro nk kN9; (try clear kN)))) | ((fail_if_success (with_reducible show wpAny _ _ (exec (Stmt.While _ _ _ _) _) _ _ _)); walk1) | ((fail_if_success (with_reducible show wpAny _ _ (exec (Stmt.While _ _ _ _) _) _ _ _)); dsimp only; walk1) | (leave1; walk_say "STEP leave1"; try dsimp only) | fail "no step")
        · rename (_ < _) => hlt
          rename (StrsAre _ (mis ++ [e0])) => hvm2
          have hlt' := lts_of hlt
          rename (Fr g' L' _ _) => F3
          rename (News g' L' _ _) => N3
          refine whl_inv (ι := Nat) (fun k => A.length - k) (fun k s' => DwInv g' L' s (fun k tj2 => (fun y => if y = Str.ofString "i" then some (.int ((k : Int)) tj2) else if y = Str.ofString "j" then some (.int ((j : Int)) tj) else if y = Str.ofString "e" then some (.str e0 te) else if y = Str.ofString "a" then some (.str a0 ta) else if y = Str.ofString "missing" then some (.ref lM) else if y = Str.ofString "unexpected" then some (.ref lU) else if y = Str.ofString "expected" then some (.ref la) else if y = Str.ofString "actual" then some (.ref lb) else b y)) [(lU, listOf vu.toArray n2), (lM, listOf (vm ++ [Value.str e0 te]).toArray (n1 + 1)), (la, listOf va.toArray na), (lb, listOf vb.toArray nb)] A e0 i k s') (by first | passes_own | with_unfolding_all passes_own) ?_ (i + 1) _
            (DwInv.intro _ _ _ (Fr.eq F3 (by (try dsimp only); rw [Int.natCast_add, Int.natCast_one]; exact (by first | exact Mine.see_go (Mine.see_cons (by with_unfolding_all rfl) (Mine.see_cons (by with_unfolding_all rfl) (Mine.see_cons (by with_unfolding_all rfl) (Mine.see_cons (by with_unfolding_all rfl) (Mine.see_cons (by with_unfolding_all rfl) (Mine.see_cons (by with_unfolding_all rfl) (Mine.see_cons (by with_unfolding_all rfl) (Mine.see_cons (by with_unfolding_all rfl) ((by repeat (first | exact Mine.see_refl | refine Mine.see_off (by k_mem) ?_ | refine Mine.see_cons (by with_unfolding_all rfl) ?_))))))))))) | exact Eq.symm (Mine.see_go (Mine.see_cons (by with_unfolding_all rfl) (Mine.see_cons (by with_unfolding_all rfl) (Mine.see_cons (by with_unfolding_all rfl) (Mine.see_cons (by with_unfolding_all rfl) (Mine.see_cons (by with_unfolding_all rfl) (Mine.see_cons (by with_unfolding_all rfl) (Mine.see_cons (by with_unfolding_all rfl) (Mine.see_cons (by with_unfolding_all rfl) ((by repeat (first | exact Mine.see_refl | refine Mine.see_off (by k_mem) ?_ | refine Mine.see_cons (by with_unfolding_all rfl) ?_))))))))))))))) (by first | exact N3 | exact fun p hp => N3 p (by simpa using hp)) (Nat.le_refl _) (by omega) rfl)
          rintro k _ ⟨h, tk, tk2, F4, N4, hk1k, hk2k, hdwk⟩
          try dsimp only at F4
          clear F3 N3
          repeat' (first | ((fail_if_success (fail_if_success k_unfold)); first | (with_reducible refine (?_ : wpAny _ _ _ _ _ _)) | (with_reducible refine (?_ : LeaveK _ _ _ _ _ _ _))) | (k_unfold; (try dsimp only)) | ((fail_if_success (fail_if_success k_fold)); (with_reducible refine Mine.fold_q ?_); intro qk ek sk; (try ((with_reducible rename Fr _ _ _ _ => kF); (fail_if_success (have := Mine.pin_chk kF (by with_reducible assumption))); (refine Mine.pin_m kF ?_); intro mk kF9 pk; (try clear kF); (with_reducible rename News _ _ _ _ => kN); (refine Mine.pin_N kN ?_); intro nk kN9; (try clear kN)))) | ((fail_if_success (with_reducible show wpAny _ _ (subscriptTail _ _ (Value.ref _) (Value.int _ _)) _ _ _)); walk1) | ((fail_if_success (with_reducible show wpAny _ _ (subscriptTail _ _ (Value.ref _) (Value.int _ _)) _ _ _)); dsimp only; walk1) | (leave1; walk_say "STEP leave1"; try dsimp only) | fail "no step")
          by_cases hkAk : k < A.length
          · k_dflt (refine' Mine.st_itemN ?l ?i ?a ?b ?_ (by with_unfolding_all rfl); (case l => kmk_list); (case i => exact hva); (case a => exact hkAk); (case b => exact hsa))
            intro ck tck hck
            repeat' (first | ((fail_if_success (fail_if_success k_unfold)); first | (with_reducible refine (?_ : wpAny _ _ _ _ _ _)) | (with_reducible refine (?_ : LeaveK _ _ _ _ _ _ _))) | (k_unfold; (try dsimp only)) | ((fail_if_success (fail_if_success k_fold)); (with_reducible refine Mine.fold_q ?_); intro qk ek sk; (try ((with_reducible rename Fr _ _ _ _ => kF); (fail_if_success (have := Mine.pin_chk kF (by with_reducible assumption))); (refine Mine.pin_m kF ?_); intro mk kF9 pk; (try clear kF); (with_reducible rename News _ _ _ _ => kN); (refine Mine.pin_N kN ?_); intro nk kN9; (try clear kN)))) | walk1 | (dsimp only; walk1) | (leave1; walk_say "STEP leave1"; try dsimp only) | fail "no step")
            cases hcek : (ck == e0) with
            | true =>
              refine WhlIf.yes rfl ?_
              repeat' (first | ((fail_if_success (fail_if_success k_unfold)); first | (with_reducible refine (?_ : wpAny _ _ _ _ _ _)) | (with_reducible refine (?_ : LeaveK _ _ _ _ _ _ _))) | (k_unfold; (try dsimp only)) | ((fail_if_success (fail_if_success k_fold)); (with_reducible refine Mine.fold_q ?_); intro qk ek sk; (try ((with_reducible rename Fr _ _ _ _ => kF); (fail_if_success (have := Mine.pin_chk kF (by with_reducible assumption))); (refine Mine.pin_m kF ?_); intro mk kF9 pk; (try clear kF); (with_reducible rename News _ _ _ _ => kN); (refine Mine.pin_N kN ?_); intro nk kN9; (try clear kN)))) | walk1 | (dsimp only; walk1) | (leave1; walk_say "STEP leave1"; try dsimp only) | fail "no step")
              rename (Fr g' L' _ _) => F9
              rename (News g' L' _ _) => N9
              exact ⟨k + 1, Nat.sub_succ_lt_self _ _ hkAk, .intro _ _ _ (Fr.eq F9 (by (try dsimp only); rw [Int.natCast_add, Int.natCast_one]; exact (by first | exact Mine.see_go (Mine.see_cons (by with_unfolding_all rfl) (Mine.see_cons (by with_unfolding_all rfl) (Mine.see_cons (by with_unfolding_all rfl) (Mine.see_cons (by with_unfolding_all rfl) (Mine.see_cons (by with_unfolding_all rfl) (Mine.see_cons (by with_unfolding_all rfl) (Mine.see_cons (by with_unfolding_all rfl) (Mine.see_cons (by with_unfolding_all rfl) ((by repeat (first | exact Mine.see_refl | refine Mine.see_off (by k_mem) ?_ | refine Mine.see_cons (by with_unfolding_all rfl) ?_))))))))))) | exact Eq.symm (Mine.see_go (Mine.see_cons (by with_unfolding_all rfl) (Mine.see_cons (by with_unfolding_all rfl) (Mine.see_cons (by with_unfolding_all rfl) (Mine.see_cons (by with_unfolding_all rfl) (Mine.see_cons (by with_unfolding_all rfl) (Mine.see_cons (by with_unfolding_all rfl) (Mine.see_cons (by with_unfolding_all rfl) (Mine.see_cons (by with_unfolding_all rfl) ((by repeat (first | exact Mine.see_refl | refine Mine.see_off (by k_mem) ?_ | refine Mine.see_cons (by with_unfolding_all rfl) ?_))))))))))))))) N9 (Nat.le_succ_of_le hk1k) hkAk (sl_more hdwk hck hcek)⟩
            | false =>
              refine WhlIf.no rfl ?_
              have hstk := sl_stop hdwk hck hcek
              have q := sl_lt hA0 hB0 hlt' hstk
              rw [q] at e1 e2
              repeat' (first | ((fail_if_success (fail_if_success k_unfold)); first | (with_reducible refine (?_ : wpAny _ _ _ _ _ _)) | (with_reducible refine (?_ : LeaveK _ _ _ _ _ _ _))) | (k_unfold; (try dsimp only)) | ((fail_if_success (fail_if_success k_fold)); (with_reducible refine Mine.fold_q ?_); intro qk ek sk; (try ((with_reducible rename Fr _ _ _ _ => kF); (fail_if_success (have := Mine.pin_chk kF (by with_reducible assumption))); (refine Mine.pin_m kF ?_); intro mk kF9 pk; (try clear kF); (with_reducible rename News _ _ _ _ => kN); (refine Mine.pin_N kN ?_); intro nk kN9; (try clear kN)))) | walk1 | (dsimp only; walk1) | (leave1; walk_say "STEP leave1"; try dsimp only) | fail "no step")
              rename (Fr g' L' _ _) => F9
              rename (News g' L' _ _) => N9
              exact ⟨(k, j, mis ++ [e0], une), by dsimp only; omega, .intro _ _ (fun y => if y = Str.ofString "e" then some (.str e0 te) else if y = Str.ofString "a" then some (.str a0 ta) else b y) _ _ _ _ _ _ (Fr.eq F9 (by first | exact Mine.see_go (Mine.see_cons (by with_unfolding_all rfl) (Mine.see_cons (by with_unfolding_all rfl) (Mine.see_cons (by with_unfolding_all rfl) (Mine.see_cons (by with_unfolding_all rfl) (Mine.see_cons (by with_unfolding_all rfl) (Mine.see_cons (by with_unfolding_all rfl) ((by repeat (first | exact Mine.see_refl | refine Mine.see_off (by k_mem) ?_ | refine Mine.see_cons (by with_unfolding_all rfl) ?_))))))))) | exact Eq.symm (Mine.see_go (Mine.see_cons (by with_unfolding_all rfl) (Mine.see_cons (by with_unfolding_all rfl) (Mine.see_cons (by with_unfolding_all rfl) (Mine.see_cons (by with_unfolding_all rfl) (Mine.see_cons (by with_unfolding_all rfl) (Mine.see_cons (by with_unfolding_all rfl) ((by repeat (first | exact Mine.see_refl | refine Mine.see_off (by k_mem) ?_ | refine Mine.see_cons (by with_unfolding_all rfl) ?_)))))))))))) N9 hvm2 hvu (by dsimp only; omega) (by dsimp only; omega) (by dsimp only; first | omega | (rw [List.length_append, List.length_singleton]; omega)) (by dsimp only; first | omega | (rw [List.length_append, List.length_singleton]; omega)) (by rw [e1]; simp) (by rw [e2])⟩
          · have hstk := sl_end hdwk hkAk
            have hnlk : A.drop k = [] := List.drop_of_length_le (Nat.not_lt.mp hkAk)
            k_dflt (refine' Mine.st_out rfl ?k1 ?k2 ?k3 ?k4 ?k5 ?_ (by with_unfolding_all rfl); (case k1 => kmk_list); (case k2 => exact hva); (case k3 => exact hkAk); (case k4 => exact hk2k); (case k5 => exact hsa))
            intro h9 tk9 e9 x9
            rename (Fr g' L' _ _) => F9
            rename (News g' L' _ _) => N9
            obtain ⟨F8, x8⟩ := xnew_of F9 N9 x9
            have q := sl_lt hA0 hB0 hlt' hstk
            rw [q, hnlk, sld_nil] at e1 e2
            exact hEx k j (mis ++ [e0]) une (fun y => if y = Str.ofString "e" then some (.str e0 te) else if y = Str.ofString "a" then some (.str a0 ta) else b y) _ _ _ _ _ _ h9 tk9 e9 .none (Or.inl ⟨B', Fr.eq F8 (by first | exact Mine.see_go (Mine.see_cons (by with_unfolding_all rfl) (Mine.see_cons (by with_unfolding_all rfl) (Mine.see_cons (by with_unfolding_all rfl) (Mine.see_cons (by with_unfolding_all rfl) (Mine.see_cons (by with_unfolding_all rfl) (Mine.see_cons (by with_unfolding_all rfl) ((by repeat (first | exact Mine.see_refl | refine Mine.see_off (by k_mem) ?_ | refine Mine.see_cons (by with_unfolding_all rfl) ?_))))))))) | exact Eq.symm (Mine.see_go (Mine.see_cons (by with_unfolding_all rfl) (Mine.see_cons (by with_unfolding_all rfl) (Mine.see_cons (by with_unfolding_all rfl) (Mine.see_cons (by with_unfolding_all rfl) (Mine.see_cons (by with_unfolding_all rfl) (Mine.see_cons (by with_unfolding_all rfl) ((by repeat (first | exact Mine.see_refl | refine Mine.see_off (by k_mem) ?_ | refine Mine.see_cons (by with_unfolding_all rfl) ?_))))))))))), x8⟩) hvm2 hvu hk2k hj (by rw [List.length_append, List.length_singleton]; omega) (by omega) (by rw [e1, hnlk]; simp) (by rw [e2])
        · rename (¬ _ < _) => hn1
          rename (_ < _) => hlt
          rename (StrsAre _ (une ++ [a0])) => hvu2
          have hlt' := lts_of hlt
          have hn1' := lts_not hn1
          rename (Fr g' L' _ _) => F3
          rename (News g' L' _ _) => N3
          refine whl_inv (ι := Nat) (fun k => B9.length - k) (fun k s' => DwInv g' L' s (fun k tj2 => (fun y => if y = Str.ofString "i" then some (.int ((i : Int)) ti) else if y = Str.ofString "j" then some (.int ((k : Int)) tj2) else if y = Str.ofString "e" then some (.str e0 te) else if y = Str.ofString "a" then some (.str a0 ta) else if y = Str.ofString "missing" then some (.ref lM) else if y = Str.ofString "unexpected" then some (.ref lU) else if y = Str.ofString "expected" then some (.ref la) else if y = Str.ofString "actual" then some (.ref lb) else b y)) [(lU, listOf (vu ++ [Value.str a0 ta]).toArray (n2 + 1)), (lM, listOf vm.toArray n1), (la, listOf va.toArray na), (lb, listOf vb.toArray nb)] B9 a0 j k s') (by first | passes_own | with_unfolding_all passes_own) ?_ (j + 1) _
            (DwInv.intro _ _ _ (Fr.eq F3 (by (try dsimp only); rw [Int.natCast_add, Int.natCast_one]; exact (by first | exact Mine.see_go (Mine.see_cons (by with_unfolding_all rfl) (Mine.see_cons (by with_unfolding_all rfl) (Mine.see_cons (by with_unfolding_all rfl) (Mine.see_cons (by with_unfolding_all rfl) (Mine.see_cons (by with_unfolding_all rfl) (Mine.see_cons (by with_unfolding_all rfl) (Mine.see_cons (by with_unfolding_all rfl) (Mine.see_cons (by with_unfolding_all rfl) ((by repeat (first | exact Mine.see_refl | refine Mine.see_off (by k_mem) ?_ | refine Mine.see_cons (by with_unfolding_all rfl) ?_))))))))))) | exact Eq.symm (Mine.see_go (Mine.see_cons (by with_unfolding_all rfl) (Mine.see_cons (by with_unfolding_all rfl) (Mine.see_cons (by with_unfolding_all rfl) (Mine.see_cons (by with_unfolding_all rfl) (Mine.see_cons (by with_unfolding_all rfl) (Mine.see_cons (by with_unfolding_all rfl) (Mine.see_cons (by with_unfolding_all rfl) (Mine.see_cons (by with_unfolding_all rfl) ((by repeat (first | exact Mine.see_refl | refine Mine.see_off (by k_mem) ?_ | refine Mine.see_cons (by with_unfolding_all rfl) ?_))))))))))))))) (by first | exact N3 | exact fun p hp => N3 p (by simpa using hp)) (Nat.le_refl _) (by omega) rfl)
          rintro k _ ⟨h, tk, tk2, F4, N4, hk1k, hk2k, hdwk⟩
          try dsimp only at F4
          clear F3 N3
          repeat' (first | ((fail_if_success (fail_if_success k_unfold)); first | (with_reducible refine (?_ : wpAny _ _ _ _ _ _)) | (with_reducible refine (?_ : LeaveK _ _ _ _ _ _ _))) | (k_unfold; (try dsimp only)) | ((fail_if_success (fail_if_success k_fold)); (with_reducible refine Mine.fold_q ?_); intro qk ek sk; (try ((with_reducible rename Fr _ _ _ _ => kF); (fail_if_success (have := Mine.pin_chk kF (by with_reducible assumption))); (refine Mine.pin_m kF ?_); intro mk kF9 pk; (try clear kF); (with_reducible rename News _ _ _ _ => kN); (refine Mine.pin_N kN ?_); intro nk kN9; (try clear kN)))) | ((fail_if_success (with_reducible show wpAny _ _ (subscriptTail _ _ (Value.ref _) (Value.int _ _)) _ _ _)); walk1) | ((fail_if_success (with_reducible show wpAny _ _ (subscriptTail _ _ (Value.ref _) (Value.int _ _)) _ _ _)); dsimp only; walk1) | (leave1; walk_say "STEP leave1"; try dsimp only) | fail "no step")
          by_cases hkAk : k < B9.length
          · k_dflt (refine' Mine.st_itemN ?l ?i ?a ?b ?_ (by with_unfolding_all rfl); (case l => kmk_list); (case i => exact hvb); (case a => exact hkAk); (case b => exact hsb))
            intro ck tck hck
            repeat' (first | ((fail_if_success (fail_if_success k_unfold)); first | (with_reducible refine (?_ : wpAny _ _ _ _ _ _)) | (with_reducible refine (?_ : LeaveK _ _ _ _ _ _ _))) | (k_unfold; (try dsimp only)) | ((fail_if_success (fail_if_success k_fold)); (with_reducible refine Mine.fold_q ?_); intro qk ek sk; (try ((with_reducible rename Fr _ _ _ _ => kF); (fail_if_success (have := Mine.pin_chk kF (by with_reducible assumption))); (refine Mine.pin_m kF ?_); intro mk kF9 pk; (try clear kF); (with_reducible rename News _ _ _ _ => kN); (refine Mine.pin_N kN ?_); intro nk kN9; (try clear kN)))) | walk1 | (dsimp only; walk1) | (leave1; walk_say "STEP leave1"; try dsimp only) | fail "no step")
            cases hcek : (ck == a0) with
            | true =>
              refine WhlIf.yes rfl ?_
              repeat' (first | ((fail_if_success (fail_if_success k_unfold)); first | (with_reducible refine (?_ : wpAny _ _ _ _ _ _)) | (with_reducible refine (?_ : LeaveK _ _ _ _ _ _ _))) | (k_unfold; (try dsimp only)) | ((fail_if_success (fail_if_success k_fold)); (with_reducible refine Mine.fold_q ?_); intro qk ek sk; (try ((with_reducible rename Fr _ _ _ _ => kF); (fail_if_success (have := Mine.pin_chk kF (by with_reducible assumption))); (refine Mine.pin_m kF ?_); intro mk kF9 pk; (try clear kF); (with_reducible rename News _ _ _ _ => kN); (refine Mine.pin_N kN ?_); intro nk kN9; (try clear kN)))) | walk1 | (dsimp only; walk1) | (leave1; walk_say "STEP leave1"; try dsimp only) | fail "no step")
              rename (Fr g' L' _ _) => F9
              rename (News g' L' _ _) => N9
              exact ⟨k + 1, Nat.sub_succ_lt_self _ _ hkAk, .intro _ _ _ (Fr.eq F9 (by (try dsimp only); rw [Int.natCast_add, Int.natCast_one]; exact (by first | exact Mine.see_go (Mine.see_cons (by with_unfolding_all rfl) (Mine.see_cons (by with_unfolding_all rfl) (Mine.see_cons (by with_unfolding_all rfl) (Mine.see_cons (by with_unfolding_all rfl) (Mine.see_cons (by with_unfolding_all rfl) (Mine.see_cons (by with_unfolding_all rfl) (Mine.see_cons (by with_unfolding_all rfl) (Mine.see_cons (by with_unfolding_all rfl) ((by repeat (first | exact Mine.see_refl | refine Mine.see_off (by k_mem) ?_ | refine Mine.see_cons (by with_unfolding_all rfl) ?_))))))))))) | exact Eq.symm (Mine.see_go (Mine.see_cons (by with_unfolding_all rfl) (Mine.see_cons (by with_unfolding_all rfl) (Mine.see_cons (by with_unfolding_all rfl) (Mine.see_cons (by with_unfolding_all rfl) (Mine.see_cons (by with_unfolding_all rfl) (Mine.see_cons (by with_unfolding_all rfl) (Mine.see_cons (by with_unfolding_all rfl) (Mine.see_cons (by with_unfolding_all rfl) ((by repeat (first | exact Mine.see_refl | refine Mine.see_off (by k_mem) ?_ | refine Mine.see_cons (by with_unfolding_all rfl) ?_))))))))))))))) N9 (Nat.le_succ_of_le hk1k) hkAk (sl_more hdwk hck hcek)⟩
            | false =>
              refine WhlIf.no rfl ?_
              have hstk := sl_stop hdwk hck hcek
              have q := sl_gt hA0 hB0 hn1' hlt' hstk
              rw [q] at e1 e2
              repeat' (first | ((fail_if_success (fail_if_success k_unfold)); first | (with_reducible refine (?_ : wpAny _ _ _ _ _ _)) | (with_reducible refine (?_ : LeaveK _ _ _ _ _ _ _))) | (k_unfold; (try dsimp only)) | ((fail_if_success (fail_if_success k_fold)); (with_reducible refine Mine.fold_q ?_); intro qk ek sk; (try ((with_reducible rename Fr _ _ _ _ => kF); (fail_if_success (have := Mine.pin_chk kF (by with_reducible assumption))); (refine Mine.pin_m kF ?_); intro mk kF9 pk; (try clear kF); (with_reducible rename News _ _ _ _ => kN); (refine Mine.pin_N kN ?_); intro nk kN9; (try clear kN)))) | walk1 | (dsimp only; walk1) | (leave1; walk_say "STEP leave1"; try dsimp only) | fail "no step")
              rename (Fr g' L' _ _) => F9
              rename (News g' L' _ _) => N9
              exact ⟨(i, k, mis, une ++ [a0]), by dsimp only; omega, .intro _ _ (fun y => if y = Str.ofString "e" then some (.str e0 te) else if y = Str.ofString "a" then some (.str a0 ta) else b y) _ _ _ _ _ _ (Fr.eq F9 (by first | exact Mine.see_go (Mine.see_cons (by with_unfolding_all rfl) (Mine.see_cons (by with_unfolding_all rfl) (Mine.see_cons (by with_unfolding_all rfl) (Mine.see_cons (by with_unfolding_all rfl) (Mine.see_cons (by with_unfolding_all rfl) (Mine.see_cons (by with_unfolding_all rfl) ((by repeat (first | exact Mine.see_refl | refine Mine.see_off (by k_mem) ?_ | refine Mine.see_cons (by with_unfolding_all rfl) ?_))))))))) | exact Eq.symm (Mine.see_go (Mine.see_cons (by with_unfolding_all rfl) (Mine.see_cons (by with_unfolding_all rfl) (Mine.see_cons (by with_unfolding_all rfl) (Mine.see_cons (by with_unfolding_all rfl) (Mine.see_cons (by with_unfolding_all rfl) (Mine.see_cons (by with_unfolding_all rfl) ((by repeat (first | exact Mine.see_refl | refine Mine.see_off (by k_mem) ?_ | refine Mine.see_cons (by with_unfolding_all rfl) ?_)))))))))))) N9 hvm hvu2 (by dsimp only; omega) (by dsimp only; omega) (by dsimp only; first | omega | (rw [List.length_append, List.length_singleton]; omega)) (by dsimp only; first | omega | (rw [List.length_append, List.length_singleton]; omega)) (by rw [e1]) (by rw [e2]; simp)⟩
          · have hstk := sl_end hdwk hkAk
            have hnlk : B9.drop k = [] := List.drop_of_length_le (Nat.not_lt.mp hkAk)
            k_dflt (refine' Mine.st_out rfl ?k1 ?k2 ?k3 ?k4 ?k5 ?_ (by with_unfolding_all rfl); (case k1 => kmk_list); (case k2 => exact hvb); (case k3 => exact hkAk); (case k4 => exact hk2k); (case k5 => exact hsb))
            intro h9 tk9 e9 x9
            rename (Fr g' L' _ _) => F9
            rename (News g' L' _ _) => N9
            obtain ⟨F8, x8⟩ := xnew_of F9 N9 x9
            have q := sl_gt hA0 hB0 hn1' hlt' hstk
            rw [q, hnlk, sld_nil'] at e1 e2
            exact hEx i k mis (une ++ [a0]) (fun y => if y = Str.ofString "e" then some (.str e0 te) else if y = Str.ofString "a" then some (.str a0 ta) else b y) _ _ _ _ _ _ h9 tk9 e9 .none (Or.inl ⟨B', Fr.eq F8 (by first | exact Mine.see_go (Mine.see_cons (by with_unfolding_all rfl) (Mine.see_cons (by with_unfolding_all rfl) (Mine.see_cons (by with_unfolding_all rfl) (Mine.see_cons (by with_unfolding_all rfl) (Mine.see_cons (by with_unfolding_all rfl) (Mine.see_cons (by with_unfolding_all rfl) ((by repeat (first | exact Mine.see_refl | refine Mine.see_off (by k_mem) ?_ | refine Mine.see_cons (by with_unfolding_all rfl) ?_))))))))) | exact Eq.symm (Mine.see_go (Mine.see_cons (by with_unfolding_all rfl) (Mine.see_cons (by with_unfolding_all rfl) (Mine.see_cons (by with_unfolding_all rfl) (Mine.see_cons (by with_unfolding_all rfl) (Mine.see_cons (by with_unfolding_all rfl) (Mine.see_cons (by with_unfolding_all rfl) ((by repeat (first | exact Mine.see_refl | refine Mine.see_off (by k_mem) ?_ | refine Mine.see_cons (by with_unfolding_all rfl) ?_))))))))))), x8⟩) hvm hvu2 hi hk2k (by omega) (by rw [List.length_append, List.length_singleton]; omega) (by rw [e1]) (by rw [e2, hnlk]; simp)
        · rename (¬ a0.cps.toList < _) => hn2
          rename (¬ e0.cps.toList < _) => hn1
          have hn1' := lts_not hn1
          have hn2' := lts_not hn2
          rename (Fr g' L' _ _) => F3
          rename (News g' L' _ _) => N3
          refine whl_inv (ι := Nat) (fun k => A.length - k) (fun k s' => DwInv g' L' s (fun k tj2 => (fun y => if y = Str.ofString "i" then some (.int ((k : Int)) tj2) else if y = Str.ofString "j" then some (.int ((j : Int)) tj) else if y = Str.ofString "e" then some (.str e0 te) else if y = Str.ofString "a" then some (.str a0 ta) else if y = Str.ofString "missing" then some (.ref lM) else if y = Str.ofString "unexpected" then some (.ref lU) else if y = Str.ofString "expected" then some (.ref la) else if y = Str.ofString "actual" then some (.ref lb) else b y)) [(lU, listOf vu.toArray n2), (lM, listOf vm.toArray n1), (la, listOf va.toArray na), (lb, listOf vb.toArray nb)] A e0 i k s') (by first | passes_own | with_unfolding_all passes_own) ?_ (i + 1) _
            (DwInv.intro _ _ _ (Fr.eq F3 (by (try dsimp only); rw [Int.natCast_add, Int.natCast_one]; exact (by first | exact Mine.see_go (Mine.see_cons (by with_unfolding_all rfl) (Mine.see_cons (by with_unfolding_all rfl) (Mine.see_cons (by with_unfolding_all rfl) (Mine.see_cons (by with_unfolding_all rfl) (Mine.see_cons (by with_unfolding_all rfl) (Mine.see_cons (by with_unfolding_all rfl) (Mine.see_cons (by with_unfolding_all rfl) (Mine.see_cons (by with_unfolding_all rfl) ((by repeat (first | exact Mine.see_refl | refine Mine.see_off (by k_mem) ?_ | refine Mine.see_cons (by with_unfolding_all rfl) ?_))))))))))) | exact Eq.symm (Mine.see_go (Mine.see_cons (by with_unfolding_all rfl) (Mine.see_cons (by with_unfolding_all rfl) (Mine.see_cons (by with_unfolding_all rfl) (Mine.see_cons (by with_unfolding_all rfl) (Mine.see_cons (by with_unfolding_all rfl) (Mine.see_cons (by with_unfolding_all rfl) (Mine.see_cons (by with_unfolding_all rfl) (Mine.see_cons (by with_unfolding_all rfl) ((by repeat (first | exact Mine.see_refl | refine Mine.see_off (by k_mem) ?_ | refine Mine.see_cons (by with_unfolding_all rfl) ?_))))))))))))))) (by first | exact N3 | exact fun p hp => N3 p (by simpa using hp)) (Nat.le_refl _) (by omega) rfl)
          rintro k _ ⟨h, tk, tk2, F4, N4, hk1k, hk2k, hdwk⟩
          try dsimp only at F4
          clear F3 N3
          repeat' (first | ((fail_if_success (fail_if_success k_unfold)); first | (with_reducible refine (?_ : wpAny _ _ _ _ _ _)) | (with_reducible refine (?_ : LeaveK _ _ _ _ _ _ _))) | (k_unfold; (try dsimp only)) | ((fail_if_success (fail_if_success k_fold)); (with_reducible refine Mine.fold_q ?_); intro qk ek sk; (try ((with_reducible rename Fr _ _ _ _ => kF); (fail_if_success (have := Mine.pin_chk kF (by with_reducible assumption))); (refine Mine.pin_m kF ?_); intro mk kF9 pk; (try clear kF); (with_reducible rename News _ _ _ _ => kN); (refine Mine.pin_N kN ?_); intro nk kN9; (try clear kN)))) | ((fail_if_success (with_reducible show wpAny _ _ (subscriptTail _ _ (Value.ref _) (Value.int _ _)) _ _ _)); walk1) | ((fail_if_success (with_reducible show wpAny _ _ (subscriptTail _ _ (Value.ref _) (Value.int _ _)) _ _ _)); dsimp only; walk1) | (leave1; walk_say "STEP leave1"; try dsimp only) | fail "no step")
          by_cases hkAk : k < A.length
          · k_dflt (refine' Mine.st_itemN ?l ?i ?a ?b ?_ (by with_unfolding_all rfl); (case l => kmk_list); (case i => exact hva); (case a => exact hkAk); (case b => exact hsa))
            intro ck tck hck
            repeat' (first | ((fail_if_success (fail_if_success k_unfold)); first | (with_reducible refine (?_ : wpAny _ _ _ _ _ _)) | (with_reducible refine (?_ : LeaveK _ _ _ _ _ _ _))) | (k_unfold; (try dsimp only)) | ((fail_if_success (fail_if_success k_fold)); (with_reducible refine Mine.fold_q ?_); intro qk ek sk; (try ((with_reducible rename Fr _ _ _ _ => kF); (fail_if_success (have := Mine.pin_chk kF (by with_reducible assumption))); (refine Mine.pin_m kF ?_); intro mk kF9 pk; (try clear kF); (with_reducible rename News _ _ _ _ => kN); (refine Mine.pin_N kN ?_); intro nk kN9; (try clear kN)))) | walk1 | (dsimp only; walk1) | (leave1; walk_say "STEP leave1"; try dsimp only) | fail "no step")
            cases hcek : (ck == e0) with
            | true =>
              refine WhlIf.yes rfl ?_
              repeat' (first | ((fail_if_success (fail_if_success k_unfold)); first | (with_reducible refine (?_ : wpAny _ _ _ _ _ _)) | (with_reducible refine (?_ : LeaveK _ _ _ _ _ _ _))) | (k_unfold; (try dsimp only)) | ((fail_if_success (fail_if_success k_fold)); (with_reducible refine Mine.fold_q ?_); intro qk ek sk; (try ((with_reducible rename Fr _ _ _ _ => kF); (fail_if_success (have := Mine.pin_chk kF (by with_reducible assumption))); (refine Mine.pin_m kF ?_); intro mk kF9 pk; (try clear kF); (with_reducible rename News _ _ _ _ => kN); (refine Mine.pin_N kN ?_); intro nk kN9; (try clear kN)))) | walk1 | (dsimp only; walk1) | (leave1; walk_say "STEP leave1"; try dsimp only) | fail "no step")
              rename (Fr g' L' _ _) => F9
              rename (News g' L' _ _) => N9
              exact ⟨k + 1, Nat.sub_succ_lt_self _ _ hkAk, .intro _ _ _ (Fr.eq F9 (by (try dsimp only); rw [Int.natCast_add, Int.natCast_one]; exact (by first | exact Mine.see_go (Mine.see_cons (by with_unfolding_all rfl) (Mine.see_cons (by with_unfolding_all rfl) (Mine.see_cons (by with_unfolding_all rfl) (Mine.see_cons (by with_unfolding_all rfl) (Mine.see_cons (by with_unfolding_all rfl) (Mine.see_cons (by with_unfolding_all rfl) (Mine.see_cons (by with_unfolding_all rfl) (Mine.see_cons (by with_unfolding_all rfl) ((by repeat (first | exact Mine.see_refl | refine Mine.see_off (by k_mem) ?_ | refine Mine.see_cons (by with_unfolding_all rfl) ?_))))))))))) | exact Eq.symm (Mine.see_go (Mine.see_cons (by with_unfolding_all rfl) (Mine.see_cons (by with_unfolding_all rfl) (Mine.see_cons (by with_unfolding_all rfl) (Mine.see_cons (by with_unfolding_all rfl) (Mine.see_cons (by with_unfolding_all rfl) (Mine.see_cons (by with_unfolding_all rfl) (Mine.see_cons (by with_unfolding_all rfl) (Mine.see_cons (by with_unfolding_all rfl) ((by repeat (first | exact Mine.see_refl | refine Mine.see_off (by k_mem) ?_ | refine Mine.see_cons (by with_unfolding_all rfl) ?_))))))))))))))) N9 (Nat.le_succ_of_le hk1k) hkAk (sl_more hdwk hck hcek)⟩
            | false =>
              refine WhlIf.no rfl ?_
              have hstk := sl_stop hdwk hck hcek
              repeat' (first | ((fail_if_success (fail_if_success k_unfold)); first | (with_reducible refine (?_ : wpAny _ _ _ _ _ _)) | (with_reducible refine (?_ : LeaveK _ _ _ _ _ _ _))) | (k_unfold; (try dsimp only)) | ((fail_if_success (fail_if_success k_fold)); (with_reducible refine Mine.fold_q ?_); intro qk ek sk; (try ((with_reducible rename Fr _ _ _ _ => kF); (fail_if_success (have := Mine.pin_chk kF (by with_reducible assumption))); (refine Mine.pin_m kF ?_); intro mk kF9 pk; (try clear kF); (with_reducible rename News _ _ _ _ => kN); (refine Mine.pin_N kN ?_); intro nk kN9; (try clear kN)))) | ((fail_if_success (with_reducible show wpAny _ _ (exec (Stmt.While _ _ _ _) _) _ _ _)); walk1) | ((fail_if_success (with_reducible show wpAny _ _ (exec (Stmt.While _ _ _ _) _) _ _ _)); dsimp only; walk1) | (leave1; walk_say "STEP leave1"; try dsimp only) | fail "no step")
              rename (Fr g' L' _ _) => F3
              rename (News g' L' _ _) => N3
              refine whl_inv (ι := Nat) (fun l => B9.length - l) (fun l s' => DwInv g' L' s (fun l tj2 => (fun y => if y = Str.ofString "i" then some (.int ((k : Int)) tk2) else if y = Str.ofString "j" then some (.int ((l : Int)) tj2) else if y = Str.ofString "e" then some (.str e0 te) else if y = Str.ofString "a" then some (.str a0 ta) else if y = Str.ofString "missing" then some (.ref lM) else if y = Str.ofString "unexpected" then some (.ref lU) else if y = Str.ofString "expected" then some (.ref la) else if y = Str.ofString "actual" then some (.ref lb) else b y)) [(lU, listOf vu.toArray n2), (lM, listOf vm.toArray n1), (la, listOf va.toArray na), (lb, listOf vb.toArray nb)] B9 a0 j l s') (by first | passes_own | with_unfolding_all passes_own) ?_ (j + 1) _
                (DwInv.intro _ _ _ (Fr.eq F3 (by (try dsimp only); rw [Int.natCast_add, Int.natCast_one]; exact (by first | exact Mine.see_go (Mine.see_cons (by with_unfolding_all rfl) (Mine.see_cons (by with_unfolding_all rfl) (Mine.see_cons (by with_unfolding_all rfl) (Mine.see_cons (by with_unfolding_all rfl) (Mine.see_cons (by with_unfolding_all rfl) (Mine.see_cons (by with_unfolding_all rfl) (Mine.see_cons (by with_unfolding_all rfl) (Mine.see_cons (by with_unfolding_all rfl) ((by repeat (first | exact Mine.see_refl | refine Mine.see_off (by k_mem) ?_ | refine Mine.see_cons (by with_unfolding_all rfl) ?_))))))))))) | exact Eq.symm (Mine.see_go (Mine.see_cons (by with_unfolding_all rfl) (Mine.see_cons (by with_unfolding_all rfl) (Mine.see_cons (by with_unfolding_all rfl) (Mine.see_cons (by with_unfolding_all rfl) (Mine.see_cons (by with_unfolding_all rfl) (Mine.see_cons (by with_unfolding_all rfl) (Mine.see_cons (by with_unfolding_all rfl) (Mine.see_cons (by with_unfolding_all rfl) ((by repeat (first | exact Mine.see_refl | refine Mine.see_off (by k_mem) ?_ | refine Mine.see_cons (by with_unfolding_all rfl) ?_))))))))))))))) (by first | exact N3 | exact fun p hp => N3 p (by simpa using hp)) (Nat.le_refl _) (by omega) rfl)
              rintro l _ ⟨h, tk, tl2, F4, N4, hk1l, hk2l, hdwl⟩
              try dsimp only at F4
              clear F3 N3
              repeat' (first | ((fail_if_success (fail_if_success k_unfold)); first | (with_reducible refine (?_ : wpAny _ _ _ _ _ _)) | (with_reducible refine (?_ : LeaveK _ _ _ _ _ _ _))) | (k_unfold; (try dsimp only)) | ((fail_if_success (fail_if_success k_fold)); (with_reducible refine Mine.fold_q ?_); intro qk ek sk; (try ((with_reducible rename Fr _ _ _ _ => kF); (fail_if_success (have := Mine.pin_chk kF (by with_reducible assumption))); (refine Mine.pin_m kF ?_); intro mk kF9 pk; (try clear kF); (with_reducible rename News _ _ _ _ => kN); (refine Mine.pin_N kN ?_); intro nk kN9; (try clear kN)))) | ((fail_if_success (with_reducible show wpAny _ _ (subscriptTail _ _ (Value.ref _) (Value.int _ _)) _ _ _)); walk1) | ((fail_if_success (with_reducible show wpAny _ _ (subscriptTail _ _ (Value.ref _) (Value.int _ _)) _ _ _)); dsimp only; walk1) | (leave1; walk_say "STEP leave1"; try dsimp only) | fail "no step")
              by_cases hkAl : l < B9.length
              · k_dflt (refine' Mine.st_itemN ?l ?i ?a ?b ?_ (by with_unfolding_all rfl); (case l => kmk_list); (case i => exact hvb); (case a => exact hkAl); (case b => exact hsb))
                intro cl tcl hcl
                repeat' (first | ((fail_if_success (fail_if_success k_unfold)); first | (with_reducible refine (?_ : wpAny _ _ _ _ _ _)) | (with_reducible refine (?_ : LeaveK _ _ _ _ _ _ _))) | (k_unfold; (try dsimp only)) | ((fail_if_success (fail_if_success k_fold)); (with_reducible refine Mine.fold_q ?_); intro qk ek sk; (try ((with_reducible rename Fr _ _ _ _ => kF); (fail_if_success (have := Mine.pin_chk kF (by with_reducible assumption))); (refine Mine.pin_m kF ?_); intro mk kF9 pk; (try clear kF); (with_reducible rename News _ _ _ _ => kN); (refine Mine.pin_N kN ?_); intro nk kN9; (try clear kN)))) | walk1 | (dsimp only; walk1) | (leave1; walk_say "STEP leave1"; try dsimp only) | fail "no step")
                cases hcel : (cl == a0) with
                | true =>
                  refine WhlIf.yes rfl ?_
                  repeat' (first | ((fail_if_success (fail_if_success k_unfold)); first | (with_reducible refine (?_ : wpAny _ _ _ _ _ _)) | (with_reducible refine (?_ : LeaveK _ _ _ _ _ _ _))) | (k_unfold; (try dsimp only)) | ((fail_if_success (fail_if_success k_fold)); (with_reducible refine Mine.fold_q ?_); intro qk ek sk; (try ((with_reducible rename Fr _ _ _ _ => kF); (fail_if_success (have := Mine.pin_chk kF (by with_reducible assumption))); (refine Mine.pin_m kF ?_); intro mk kF9 pk; (try clear kF); (with_reducible rename News _ _ _ _ => kN); (refine Mine.pin_N kN ?_); intro nk kN9; (try clear kN)))) | walk1 | (dsimp only; walk1) | (leave1; walk_say "STEP leave1"; try dsimp only) | fail "no step")
                  rename (Fr g' L' _ _) => F9
                  rename (News g' L' _ _) => N9
                  exact ⟨l + 1, Nat.sub_succ_lt_self _ _ hkAl, .intro _ _ _ (Fr.eq F9 (by (try dsimp only); rw [Int.natCast_add, Int.natCast_one]; exact (by first | exact Mine.see_go (Mine.see_cons (by with_unfolding_all rfl) (Mine.see_cons (by with_unfolding_all rfl) (Mine.see_cons (by with_unfolding_all rfl) (Mine.see_cons (by with_unfolding_all rfl) (Mine.see_cons (by with_unfolding_all rfl) (Mine.see_cons (by with_unfolding_all rfl) (Mine.see_cons (by with_unfolding_all rfl) (Mine.see_cons (by with_unfolding_all rfl) ((by repeat (first | exact Mine.see_refl | refine Mine.see_off (by k_mem) ?_ | refine Mine.see_cons (by with_unfolding_all rfl) ?_))))))))))) | exact Eq.symm (Mine.see_go (Mine.see_cons (by with_unfolding_all rfl) (Mine.see_cons (by with_unfolding_all rfl) (Mine.see_cons (by with_unfolding_all rfl) (Mine.see_cons (by with_unfolding_all rfl) (Mine.see_cons (by with_unfolding_all rfl) (Mine.see_cons (by with_unfolding_all rfl) (Mine.see_cons (by with_unfolding_all rfl) (Mine.see_cons (by with_unfolding_all rfl) ((by repeat (first | exact Mine.see_refl | refine Mine.see_off (by k_mem) ?_ | refine Mine.see_cons (by with_unfolding_all rfl) ?_))))))))))))))) N9 (Nat.le_succ_of_le hk1l) hkAl (sl_more hdwl hcl hcel)⟩
                | false =>
                  refine WhlIf.no rfl ?_
                  have hstl := sl_stop hdwl hcl hcel
                  have q := sl_eq hA0 hB0 hn1' hn2' hstk hstl
                  rw [q] at e1 e2
                  repeat' (first | ((fail_if_success (fail_if_success k_unfold)); first | (with_reducible refine (?_ : wpAny _ _ _ _ _ _)) | (with_reducible refine (?_ : LeaveK _ _ _ _ _ _ _))) | (k_unfold; (try dsimp only)) | ((fail_if_success (fail_if_success k_fold)); (with_reducible refine Mine.fold_q ?_); intro qk ek sk; (try ((with_reducible rename Fr _ _ _ _ => kF); (fail_if_success (have := Mine.pin_chk kF (by with_reducible assumption))); (refine Mine.pin_m kF ?_); intro mk kF9 pk; (try clear kF); (with_reducible rename News _ _ _ _ => kN); (refine Mine.pin_N kN ?_); intro nk kN9; (try clear kN)))) | walk1 | (dsimp only; walk1) | (leave1; walk_say "STEP leave1"; try dsimp only) | fail "no step")
                  rename (Fr g' L' _ _) => F9
                  rename (News g' L' _ _) => N9
                  exact ⟨(k, l, mis, une), by dsimp only; omega, .intro _ _ (fun y => if y = Str.ofString "e" then some (.str e0 te) else if y = Str.ofString "a" then some (.str a0 ta) else b y) _ _ _ _ _ _ (Fr.eq F9 (by first | exact Mine.see_go (Mine.see_cons (by with_unfolding_all rfl) (Mine.see_cons (by with_unfolding_all rfl) (Mine.see_cons (by with_unfolding_all rfl) (Mine.see_cons (by with_unfolding_all rfl) (Mine.see_cons (by with_unfolding_all rfl) (Mine.see_cons (by with_unfolding_all rfl) ((by repeat (first | exact Mine.see_refl | refine Mine.see_off (by k_mem) ?_ | refine Mine.see_cons (by with_unfolding_all rfl) ?_))))))))) | exact Eq.symm (Mine.see_go (Mine.see_cons (by with_unfolding_all rfl) (Mine.see_cons (by with_unfolding_all rfl) (Mine.see_cons (by with_unfolding_all rfl) (Mine.see_cons (by with_unfolding_all rfl) (Mine.see_cons (by with_unfolding_all rfl) (Mine.see_cons (by with_unfolding_all rfl) ((by repeat (first | exact Mine.see_refl | refine Mine.see_off (by k_mem) ?_ | refine Mine.see_cons (by with_unfolding_all rfl) ?_)))))))))))) N9 hvm hvu (by dsimp only; omega) (by dsimp only; omega) (by dsimp only; first | omega | (rw [List.length_append, List.length_singleton]; omega)) (by dsimp only; first | omega | (rw [List.length_append, List.length_singleton]; omega)) e1 e2⟩
              · have hstl := sl_end hdwl hkAl
                have hnll : B9.drop l = [] := List.drop_of_length_le (Nat.not_lt.mp hkAl)
                k_dflt (refine' Mine.st_out rfl ?k1 ?k2 ?k3 ?k4 ?k5 ?_ (by with_unfolding_all rfl); (case k1 => kmk_list); (case k2 => exact hvb); (case k3 => exact hkAl); (case k4 => exact hk2l); (case k5 => exact hsb))
                intro h9 tk9 e9 x9
                rename (Fr g' L' _ _) => F9
                rename (News g' L' _ _) => N9
                obtain ⟨F8, x8⟩ := xnew_of F9 N9 x9
                show wpAny _ _ (noteFrame _ _) _ _ _
                refine note_new rfl rfl (fun q => by cases q) B' F8 x8 ?_
                intro g1 h1 T1 oe oT T9 K1 F1 xa
                refine cameBack_T rfl F1 xa ?_
                intro h2 oT2 F2 xa2
                have q := sl_eq hA0 hB0 hn1' hn2' hstk hstl
                rw [q, hnll, sld_nil'] at e1 e2
                exact hEx k l mis une (fun y => if y = Str.ofString "e" then some (.str e0 te) else if y = Str.ofString "a" then some (.str a0 ta) else b y) _ _ _ _ _ _ h2 _ e9 .none (Or.inr ⟨g1, T1, oe, oT2, T9, K1, Fr.eq F2 (by first | exact Mine.see_go (Mine.see_cons (by with_unfolding_all rfl) (Mine.see_cons (by with_unfolding_all rfl) (Mine.see_cons (by with_unfolding_all rfl) (Mine.see_cons (by with_unfolding_all rfl) (Mine.see_cons (by with_unfolding_all rfl) (Mine.see_cons (by with_unfolding_all rfl) ((by repeat (first | exact Mine.see_refl | refine Mine.see_off (by k_mem) ?_ | refine Mine.see_cons (by with_unfolding_all rfl) ?_))))))))) | exact Eq.symm (Mine.see_go (Mine.see_cons (by with_unfolding_all rfl) (Mine.see_cons (by with_unfolding_all rfl) (Mine.see_cons (by with_unfolding_all rfl) (Mine.see_cons (by with_unfolding_all rfl) (Mine.see_cons (by with_unfolding_all rfl) (Mine.see_cons (by with_unfolding_all rfl) ((by repeat (first | exact Mine.see_refl | refine Mine.see_off (by k_mem) ?_ | refine Mine.see_cons (by with_unfolding_all rfl) ?_))))))))))), xa2⟩) hvm hvu hk2k hk2l (by omega) (by omega) e1 (by rw [e2, hnll])
          · have hstk := sl_end hdwk hkAk
            have hnlk : A.drop k = [] := List.drop_of_length_le (Nat.not_lt.mp hkAk)
            k_dflt (refine' Mine.st_out rfl ?k1 ?k2 ?k3 ?k4 ?k5 ?_ (by with_unfolding_all rfl); (case k1 => kmk_list); (case k2 => exact hva); (case k3 => exact hkAk); (case k4 => exact hk2k); (case k5 => exact hsa))
            intro h9 tk9 e9 x9
            rename (Fr g' L' _ _) => F9
            rename (News g' L' _ _) => N9
            obtain ⟨F8, x8⟩ := xnew_of F9 N9 x9
            show wpAny _ _ (noteFrame _ _) _ _ _
            refine note_new rfl rfl (fun q => by cases q) B' F8 x8 ?_
            intro g1 h1 T1 oe oT T9 K1 F1 xa
            refine ⟨ref_ne_byPass _, ?_⟩
            refine note_again rfl xa ?_
            refine flight_T F1 xa ?_
            intro h2 oT2 F2 xa2
            obtain ⟨vs1, hv1, hv2, hv3⟩ := xa2.fe
            have N2 := xa2.N
            have X1 := XB.keeps K1.stays
            have P1 := TB.keeps K1.stays
            clear X' T'
            repeat' (first | ((fail_if_success (fail_if_success k_unfold)); first | (with_reducible refine (?_ : wpAny _ _ _ _ _ _)) | (with_reducible refine (?_ : LeaveK _ _ _ _ _ _ _))) | (k_unfold; (try dsimp only)) | ((fail_if_success (fail_if_success k_fold)); (with_reducible refine Mine.fold_q ?_); intro qk ek sk; (try ((with_reducible rename Fr _ _ _ _ => kF); (fail_if_success (have := Mine.pin_chk kF (by with_reducible assumption))); (refine Mine.pin_m kF ?_); intro mk kF9 pk; (try clear kF); (with_reducible rename News _ _ _ _ => kN); (refine Mine.pin_N kN ?_); intro nk kN9; (try clear kN)))) | ((fail_if_success (with_reducible show wpAny _ _ (exec (Stmt.While _ _ _ _) _) _ _ _)); walk1) | ((fail_if_success (with_reducible show wpAny _ _ (exec (Stmt.While _ _ _ _) _) _ _ _)); dsimp only; walk1) | (leave1; walk_say "STEP leave1"; try dsimp only) | fail "no step")
            rename (Fr g1 L' _ _) => F3
            rename (News g1 L' _ _) => N3
            refine whl_inv (ι := Nat) (fun l => B9.length - l) (fun l s' => DwInv g1 L' s (fun l tj2 => (fun y => if y = Str.ofString "i" then some (.int ((k : Int)) tk2) else if y = Str.ofString "j" then some (.int ((l : Int)) tj2) else if y = Str.ofString "e" then some (.str e0 te) else if y = Str.ofString "a" then some (.str a0 ta) else if y = Str.ofString "missing" then some (.ref lM) else if y = Str.ofString "unexpected" then some (.ref lU) else if y = Str.ofString "expected" then some (.ref la) else if y = Str.ofString "actual" then some (.ref lb) else b y)) [(e9, oe), (T1, oT2), (lU, listOf vu.toArray n2), (lM, listOf vm.toArray n1), (la, listOf va.toArray na), (lb, listOf vb.toArray nb)] B9 a0 j l s') (by first | passes_own | with_unfolding_all passes_own) ?_ (j + 1) _
              (DwInv.intro _ _ _ (Fr.eq F3 (by (try dsimp only); rw [Int.natCast_add, Int.natCast_one]; exact (by first | exact Mine.see_go (Mine.see_cons (by with_unfolding_all rfl) (Mine.see_cons (by with_unfolding_all rfl) (Mine.see_cons (by with_unfolding_all rfl) (Mine.see_cons (by with_unfolding_all rfl) (Mine.see_cons (by with_unfolding_all rfl) (Mine.see_cons (by with_unfolding_all rfl) (Mine.see_cons (by with_unfolding_all rfl) (Mine.see_cons (by with_unfolding_all rfl) ((by repeat (first | exact Mine.see_refl | refine Mine.see_off (by k_mem) ?_ | refine Mine.see_cons (by with_unfolding_all rfl) ?_))))))))))) | exact Eq.symm (Mine.see_go (Mine.see_cons (by with_unfolding_all rfl) (Mine.see_cons (by with_unfolding_all rfl) (Mine.see_cons (by with_unfolding_all rfl) (Mine.see_cons (by with_unfolding_all rfl) (Mine.see_cons (by with_unfolding_all rfl) (Mine.see_cons (by with_unfolding_all rfl) (Mine.see_cons (by with_unfolding_all rfl) (Mine.see_cons (by with_unfolding_all rfl) ((by repeat (first | exact Mine.see_refl | refine Mine.see_off (by k_mem) ?_ | refine Mine.see_cons (by with_unfolding_all rfl) ?_))))))))))))))) (by first | exact N3 | exact fun p hp => N3 p (by simpa using hp)) (Nat.le_refl _) (by omega) rfl)
            rintro l _ ⟨h, tk, tl2, F4, N4, hk1l, hk2l, hdwl⟩
            try dsimp only at F4
            clear F3 N3
            repeat' (first | ((fail_if_success (fail_if_success k_unfold)); first | (with_reducible refine (?_ : wpAny _ _ _ _ _ _)) | (with_reducible refine (?_ : LeaveK _ _ _ _ _ _ _))) | (k_unfold; (try dsimp only)) | ((fail_if_success (fail_if_success k_fold)); (with_reducible refine Mine.fold_q ?_); intro qk ek sk; (try ((with_reducible rename Fr _ _ _ _ => kF); (fail_if_success (have := Mine.pin_chk kF (by with_reducible assumption))); (refine Mine.pin_m kF ?_); intro mk kF9 pk; (try clear kF); (with_reducible rename News _ _ _ _ => kN); (refine Mine.pin_N kN ?_); intro nk kN9; (try clear kN)))) | ((fail_if_success (with_reducible show wpAny _ _ (subscriptTail _ _ (Value.ref _) (Value.int _ _)) _ _ _)); walk1) | ((fail_if_success (with_reducible show wpAny _ _ (subscriptTail _ _ (Value.ref _) (Value.int _ _)) _ _ _)); dsimp only; walk1) | (leave1; walk_say "STEP leave1"; try dsimp only) | fail "no step")
            by_cases hkAl : l < B9.length
            · k_dflt (refine' Mine.st_itemN ?l ?i ?a ?b ?_ (by with_unfolding_all rfl); (case l => kmk_list); (case i => exact hvb); (case a => exact hkAl); (case b => exact hsb))
              intro cl tcl hcl
              repeat' (first | ((fail_if_success (fail_if_success k_unfold)); first | (with_reducible refine (?_ : wpAny _ _ _ _ _ _)) | (with_reducible refine (?_ : LeaveK _ _ _ _ _ _ _))) | (k_unfold; (try dsimp only)) | ((fail_if_success (fail_if_success k_fold)); (with_reducible refine Mine.fold_q ?_); intro qk ek sk; (try ((with_reducible rename Fr _ _ _ _ => kF); (fail_if_success (have := Mine.pin_chk kF (by with_reducible assumption))); (refine Mine.pin_m kF ?_); intro mk kF9 pk; (try clear kF); (with_reducible rename News _ _ _ _ => kN); (refine Mine.pin_N kN ?_); intro nk kN9; (try clear kN)))) | walk1 | (dsimp only; walk1) | (leave1; walk_say "STEP leave1"; try dsimp only) | fail "no step")
              cases hcel : (cl == a0) with
              | true =>
                refine WhlIf.yes rfl ?_
                repeat' (first | ((fail_if_success (fail_if_success k_unfold)); first | (with_reducible refine (?_ : wpAny _ _ _ _ _ _)) | (with_reducible refine (?_ : LeaveK _ _ _ _ _ _ _))) | (k_unfold; (try dsimp only)) | ((fail_if_success (fail_if_success k_fold)); (with_reducible refine Mine.fold_q ?_); intro qk ek sk; (try ((with_reducible rename Fr _ _ _ _ => kF); (fail_if_success (have := Mine.pin_chk kF (by with_reducible assumption))); (refine Mine.pin_m kF ?_); intro mk kF9 pk; (try clear kF); (with_reducible rename News _ _ _ _ => kN); (refine Mine.pin_N kN ?_); intro nk kN9; (try clear kN)))) | walk1 | (dsimp only; walk1) | (leave1; walk_say "STEP leave1"; try dsimp only) | fail "no step")
                rename (Fr g1 L' _ _) => F9
                rename (News g1 L' _ _) => N9
                exact ⟨l + 1, Nat.sub_succ_lt_self _ _ hkAl, .intro _ _ _ (Fr.eq F9 (by (try dsimp only); rw [Int.natCast_add, Int.natCast_one]; exact (by first | exact Mine.see_go (Mine.see_cons (by with_unfolding_all rfl) (Mine.see_cons (by with_unfolding_all rfl) (Mine.see_cons (by with_unfolding_all rfl) (Mine.see_cons (by with_unfolding_all rfl) (Mine.see_cons (by with_unfolding_all rfl) (Mine.see_cons (by with_unfolding_all rfl) (Mine.see_cons (by with_unfolding_all rfl) (Mine.see_cons (by with_unfolding_all rfl) ((by repeat (first | exact Mine.see_refl | refine Mine.see_off (by k_mem) ?_ | refine Mine.see_cons (by with_unfolding_all rfl) ?_))))))))))) | exact Eq.symm (Mine.see_go (Mine.see_cons (by with_unfolding_all rfl) (Mine.see_cons (by with_unfolding_all rfl) (Mine.see_cons (by with_unfolding_all rfl) (Mine.see_cons (by with_unfolding_all rfl) (Mine.see_cons (by with_unfolding_all rfl) (Mine.see_cons (by with_unfolding_all rfl) (Mine.see_cons (by with_unfolding_all rfl) (Mine.see_cons (by with_unfolding_all rfl) ((by repeat (first | exact Mine.see_refl | refine Mine.see_off (by k_mem) ?_ | refine Mine.see_cons (by with_unfolding_all rfl) ?_))))))))))))))) N9 (Nat.le_succ_of_le hk1l) hkAl (sl_more hdwl hcl hcel)⟩
              | false =>
                refine WhlIf.no rfl ?_
                have hstl := sl_stop hdwl hcl hcel
                repeat' (first | ((fail_if_success (fail_if_success k_unfold)); first | (with_reducible refine (?_ : wpAny _ _ _ _ _ _)) | (with_reducible refine (?_ : LeaveK _ _ _ _ _ _ _))) | (k_unfold; (try dsimp only)) | ((fail_if_success (fail_if_success k_fold)); (with_reducible refine Mine.fold_q ?_); intro qk ek sk; (try ((with_reducible rename Fr _ _ _ _ => kF); (fail_if_success (have := Mine.pin_chk kF (by with_reducible assumption))); (refine Mine.pin_m kF ?_); intro mk kF9 pk; (try clear kF); (with_reducible rename News _ _ _ _ => kN); (refine Mine.pin_N kN ?_); intro nk kN9; (try clear kN)))) | ((fail_if_success (with_reducible show wpAny _ _ (PySem.passOn _ _ _) _ _ _)); walk1) | ((fail_if_success (with_reducible show wpAny _ _ (PySem.passOn _ _ _) _ _ _)); dsimp only; walk1) | (leave1; walk_say "STEP leave1"; try dsimp only) | fail "no step")
                rename (Fr g1 L' _ _) => F9
                rename (News g1 L' _ _) => N9
                refine passOn_T rfl F9 ⟨N9, xa2.cls, xa2.fe, xa2.fT, xa2.ne, xa2.off⟩ ?_
                intro h3 oT4 F5 xb
                have q := sl_eq hA0 hB0 hn1' hn2' hstk hstl
                rw [q, hnlk, sld_nil] at e1 e2
                exact hEx k l mis une (fun y => if y = Str.ofString "e" then some (.str e0 te) else if y = Str.ofString "a" then some (.str a0 ta) else b y) _ _ _ _ _ _ h3 _ e9 .none (Or.inr ⟨g1, T1, oe, oT4, T9, K1, Fr.eq F5 (by first | exact Mine.see_go (Mine.see_cons (by with_unfolding_all rfl) (Mine.see_cons (by with_unfolding_all rfl) (Mine.see_cons (by with_unfolding_all rfl) (Mine.see_cons (by with_unfolding_all rfl) (Mine.see_cons (by with_unfolding_all rfl) (Mine.see_cons (by with_unfolding_all rfl) ((by repeat (first | exact Mine.see_refl | refine Mine.see_off (by k_mem) ?_ | refine Mine.see_cons (by with_unfolding_all rfl) ?_))))))))) | exact Eq.symm (Mine.see_go (Mine.see_cons (by with_unfolding_all rfl) (Mine.see_cons (by with_unfolding_all rfl) (Mine.see_cons (by with_unfolding_all rfl) (Mine.see_cons (by with_unfolding_all rfl) (Mine.see_cons (by with_unfolding_all rfl) (Mine.see_cons (by with_unfolding_all rfl) ((by repeat (first | exact Mine.see_refl | refine Mine.see_off (by k_mem) ?_ | refine Mine.see_cons (by with_unfolding_all rfl) ?_))))))))))), xb⟩) hvm hvu hk2k hk2l (by omega) (by omega) (by rw [e1, hnlk]) e2
            · have hstl := sl_end hdwl hkAl
              have hnll : B9.drop l = [] := List.drop_of_length_le (Nat.not_lt.mp hkAl)
              k_dflt (refine' Mine.item_out_H (e1 := e9) (oe1 := oe) (vs1 := vs1) rfl ?F ?N ?hme hv1 hv3 ?hli ?hout ?hhi ?_; (case F => k_asm); (case N => k_asm); (case hme => k_mem); (case hli => kmk_list); (case hout => exact out_le hvb hkAl); (case hhi => exact nat_63 hk2l hsb))
              intro h8 tk8 e8 F8 x8
              show wpAny _ _ (noteFrame _ _) _ _ _
              refine note_new rfl rfl (fun q => by cases q) K1 F8 x8 ?_
              intro g2 h3 T2 oe2 oT3 T10 K2 F3 xb
              refine cameBack_T rfl F3 xb ?_
              intro h4 oT4 F5 xb2
              have q := sl_eq hA0 hB0 hn1' hn2' hstk hstl
              rw [q, hnlk, sld_nil] at e1 e2
              exact hEx k l mis une (fun y => if y = Str.ofString "e" then some (.str e0 te) else if y = Str.ofString "a" then some (.str a0 ta) else b y) _ _ _ _ _ _ h4 _ e8 (.ref e9) (Or.inr ⟨g2, T2, oe2, oT4, T9.trans T10, K2, Fr.eq F5 (by first | exact Mine.see_go (Mine.see_cons (by with_unfolding_all rfl) (Mine.see_cons (by with_unfolding_all rfl) (Mine.see_cons (by with_unfolding_all rfl) (Mine.see_cons (by with_unfolding_all rfl) (Mine.see_cons (by with_unfolding_all rfl) (Mine.see_cons (by with_unfolding_all rfl) ((by repeat (first | exact Mine.see_refl | refine Mine.see_off (by k_mem) ?_ | refine Mine.see_cons (by with_unfolding_all rfl) ?_))))))))) | exact Eq.symm (Mine.see_go (Mine.see_cons (by with_unfolding_all rfl) (Mine.see_cons (by with_unfolding_all rfl) (Mine.see_cons (by with_unfolding_all rfl) (Mine.see_cons (by with_unfolding_all rfl) (Mine.see_cons (by with_unfolding_all rfl) (Mine.see_cons (by with_unfolding_all rfl) ((by repeat (first | exact Mine.see_refl | refine Mine.see_off (by k_mem) ?_ | refine Mine.see_cons (by with_unfolding_all rfl) ?_))))))))))), xb2.sub fun p hp => List.mem_cons_of_mem _ (List.mem_cons_of_mem _ hp)⟩) hvm hvu hk2k hk2l (by omega) (by omega) (by rw [e1, hnlk]) e2
      · k_dflt (refine' item_outK rfl ?k1 (Or.inr ?k2) ?k3 ?k4 ?_; (case k1 => kmk_list); (case k2 => (rw [List.size_toArray, hvb.length]; omega)); (case k3 => omega); (case k4 => omega))
        intro h9 tk9 e9 x9
        rename (Fr g' L' _ _) => F9
        rename (News g' L' _ _) => N9
        obtain ⟨F8, x8⟩ := xnew_of F9 N9 x9
        rw [List.drop_of_length_le (Nat.not_lt.mp hjB), sld_nil'] at e1 e2
        exact hEx i j mis une _ vm vu n1 n2 _ _ h9 tk9 e9 .none (Or.inl ⟨B', Fr.eq F8 (by first | exact Mine.see_go (Mine.see_cons (by with_unfolding_all rfl) (Mine.see_cons (by with_unfolding_all rfl) (Mine.see_cons (by with_unfolding_all rfl) (Mine.see_cons (by with_unfolding_all rfl) (Mine.see_cons (by with_unfolding_all rfl) (Mine.see_cons (by with_unfolding_all rfl) ((by repeat (first | exact Mine.see_refl | refine Mine.see_off (by k_mem) ?_ | refine Mine.see_cons (by with_unfolding_all rfl) ?_))))))))) | exact Eq.symm (Mine.see_go (Mine.see_cons (by with_unfolding_all rfl) (Mine.see_cons (by with_unfolding_all rfl) (Mine.see_cons (by with_unfolding_all rfl) (Mine.see_cons (by with_unfolding_all rfl) (Mine.see_cons (by with_unfolding_all rfl) (Mine.see_cons (by with_unfolding_all rfl) ((by repeat (first | exact Mine.see_refl | refine Mine.see_off (by k_mem) ?_ | refine Mine.see_cons (by with_unfolding_all rfl) ?_))))))))))), x8⟩) hvm hvu hi hj (by omega) (by omega) e1 (by rw [e2, List.drop_of_length_le (Nat.not_lt.mp hjB)])
    · k_dflt (refine' item_outK rfl ?k1 (Or.inr ?k2) ?k3 ?k4 ?_; (case k1 => kmk_list); (case k2 => (rw [List.size_toArray, hva.length]; omega)); (case k3 => omega); (case k4 => omega))
      intro h9 tk9 e9 x9
      rename (Fr g' L' _ _) => F9
      rename (News g' L' _ _) => N9
      obtain ⟨F8, x8⟩ := xnew_of F9 N9 x9
      rw [List.drop_of_length_le (Nat.not_lt.mp hiA), sld_nil] at e1 e2
      exact hEx i j mis une b vm vu n1 n2 ti tj h9 tk9 e9 .none (Or.inl ⟨B', F8, x8⟩) hvm hvu hi hj (by omega) (by omega) (by rw [e1, List.drop_of_length_le (Nat.not_lt.mp hiA)]) e2
  · rintro f _ ⟨rfl, ⟨g9, h, tk, i, j, b, vm, vu, n1, n2, ti, tj, T9, B8, F1, N1, hvm, hvu⟩⟩
    have X1 := XB.keeps B8.stays
    have P1 := TB.keeps B8.stays
    clear FF NN X' T'
    repeat' (first | ((fail_if_success (fail_if_success k_unfold)); first | (with_reducible refine (?_ : wpAny _ _ _ _ _ _)) | (with_reducible refine (?_ : LeaveK _ _ _ _ _ _ _))) | (k_unfold; (try dsimp only)) | ((fail_if_success (fail_if_success k_fold)); (with_reducible refine Mine.fold_q ?_); intro qk ek sk; (try ((with_reducible rename Fr _ _ _ _ => kF); (fail_if_success (have := Mine.pin_chk kF (by with_reducible assumption))); (refine Mine.pin_m kF ?_); intro mk kF9 pk; (try clear kF); (with_reducible rename News _ _ _ _ => kN); (refine Mine.pin_N kN ?_); intro nk kN9; (try clear kN)))) | walk1 | (dsimp only; walk1) | (leave1; walk_say "STEP leave1"; try dsimp only) | fail "no step")
    rename (Fr g9 L' _ _) => F9
    rename (News g9 L' _ _) => N9
    exact leaveT_ T9 F9 N9 fun h₀' T8 B7 F8 N8 => hret _ lM lU vm vu _ _ h₀' _ _ T8 B7 F8
      (newsT_pair rfl B N kG' T9 F9 T8 (fun p hp => N8 p (List.mem_cons_of_mem _ (List.mem_cons_of_mem _ (List.mem_cons_of_mem _ hp)))) hma hmb)
      (news_sub N8 (sub3 (.head _) (.tail _ (.tail _ (.head _))) (.tail _ (.head _)))) hvm hvu

end

/-! ## R20 -/
section
open PySem.Calls PySem.Spec
theorem newsT_sub {A₀ : Around} {base h₀ H g g' h' h₀' : Heap} {env : Env} {outer : List Env} {L L' a b : Addr} {m' : Str → Option Value} {news keep : List (Addr × Obj)} (hf : env.frame = some L) (B : Below A₀ base outer h₀) (N : News h₀ L H news) (G : GSub H g [a, b]) (T : KtsTurn (frs (env :: outer)) g g') (F : Fr g' L' h' m') (T1 : KtsTurn (frs outer) h₀ h₀') (hk : ∀ p ∈ keep, p ∈ news ∧ p.1 ≠ a ∧ p.1 ≠ b) : News h₀' L h' keep := by
  intro p hp
  obtain ⟨hp, h1, h2⟩ := hk p hp
  exact ⟨F.keep _ _ (T.other _ _ (G _ _ (N p hp).1 (by simp [h1, h2])) fun hm => by
        rcases mem_frs hf hm with z | z
        · exact (N p hp).2.1 z
        · obtain ⟨_, o, ho, _⟩ := B.frames.mem z
          exact absurd ((N p hp).2.2.symm.trans ho) (by simp)), (N p hp).2.1, T1.none_ _ (N p hp).2.2⟩
theorem un_step {r act mis : List Str} {c : Str} (e : r = r.dropLast ++ [c]) : unF r.reverse act mis = if c ∈ act then unF r.dropLast.reverse (act.erase c) mis else unF r.dropLast.reverse act (mis ++ [c]) := by
  conv => lhs; rw [e, List.reverse_append]
  rfl
inductive UndInv (g' : Heap) (oe : List Env) (ae : Around) (base : Heap) (L' la lb lM : Addr) (A B9 : List Str) (s : Shared) (r act mis : List Str) : Shared → Prop
  | intro (g1 h : Heap) (tk : Nat) (vr vact vm : List Value) (n1 n2 n3 : Nat) (b : Str → Option Value) (T : KtsTurn (frs oe) g' g1) (B : Below ae base oe g1) (F : Fr g1 L' h (fun y => if y = Str.ofString "missing" then some (.ref lM) else if y = Str.ofString "expected" then some (.ref la) else if y = Str.ofString "actual" then some (.ref lb) else b y)) (N : News g1 L' h [(lM, listOf vm.toArray n3), (la, listOf vr.toArray n1), (lb, listOf vact.toArray n2)])
    (hvr : StrsAre vr r) (hvact : StrsAre vact act) (hvm : StrsAre vm mis) (hl1 : act.length ≤ 1000) (hl2 : mis.length + r.length ≤ 1000) (e1 : unF A.reverse B9 [] = unF r.reverse act mis) : UndInv g' oe ae base L' la lb lM A B9 s r act mis { s with heap := h, toks := tk }
inductive UndEnd (g' : Heap) (oe : List Env) (ae : Around) (base : Heap) (L' la lb lM : Addr) (A B9 : List Str) (s : Shared) : Shared → Prop
  | intro (g9 h : Heap) (tk : Nat) (vr vact vm : List Value) (n1 n2 n3 : Nat) (b : Str → Option Value) (T : KtsTurn (frs oe) g' g9) (B : Below ae base oe g9) (F : Fr g9 L' h (fun y => if y = Str.ofString "missing" then some (.ref lM) else if y = Str.ofString "expected" then some (.ref la) else if y = Str.ofString "actual" then some (.ref lb) else b y)) (N : News g9 L' h [(lM, listOf vm.toArray n3), (la, listOf vr.toArray n1), (lb, listOf vact.toArray n2)])
    (hvact : StrsAre vact (unF A.reverse B9 []).2) (hvm : StrsAre vm (unF A.reverse B9 []).1) : UndEnd g' oe ae base L' la lb lM A B9 s { s with heap := h, toks := tk }
set_option maxRecDepth 100000 in
set_option maxHeartbeats 8000000 in
theorem und_spec {w : World} {mean : ExcName → Option Value} {mg mb : Str → Option Value}
    {dp un : Nat} {gd : Option (List Code)} {cn : Str} {cs : Scope} {a : Addr} {ccd : Value} {cl : List (Str × Addr)} {outer : List Env} {A₀ : Around} {base h₀ : Heap} {L : Addr} {m : Str → Option Value} {news : List (Addr × Obj)} {s : Shared} {Q E : Value → Shared → Prop} {va vb : List Value} {A B9 : List Str} {la lb : Addr} {na nb : Nat} {keep : List (Addr × Obj)}
    (XB : (Mine.hd.heap_1_39 w.params).In base) (TB : Top Mine.hd.view_1_40 (looseW Mine.hd.view_1_40 [Str.ofString "check_arg_types_genericpath", Str.ofString "join_posixpath", Str.ofString "_twin_re_1", Str.ofString "UnsupportedOperation", Str.ofString "IOBase", Str.ofString "BufferedIOBase", Str.ofString "TextIOBase", Str.ofString "BytesIO", Str.ofString "StringIO", Str.ofString "check_arg_types_path", Str.ofString "join_path", Str.ofString "shlex", Str.ofString "split", Str.ofString "_find_unsafe"]) mean mg mb base) (B : Below A₀ base outer h₀) (F : Fr h₀ L s.heap m) (X : (Mine.hd.heap_1_39 w.params).In h₀) (N : News h₀ L s.heap news) (T : (Top Mine.hd.view_1_40 (looseW Mine.hd.view_1_40 [Str.ofString "check_arg_types_genericpath", Str.ofString "join_posixpath", Str.ofString "_twin_re_1", Str.ofString "UnsupportedOperation", Str.ofString "IOBase", Str.ofString "BufferedIOBase", Str.ofString "TextIOBase", Str.ofString "BytesIO", Str.ofString "StringIO", Str.ofString "check_arg_types_path", Str.ofString "join_path", Str.ofString "shlex", Str.ofString "split", Str.ofString "_find_unsafe"]) mean mg mb h₀)) (hk : cs.kind = .function)
    (hma : (la, listOf va.toArray na) ∈ news) (hmb : (lb, listOf vb.toArray nb) ∈ news) (hab : @Ne Nat la lb) (hkeep : ∀ p ∈ keep, p ∈ news ∧ p.1 ≠ la ∧ p.1 ≠ lb) (hva : StrsAre va A) (hvb : StrsAre vb B9) (hsa : A.length ≤ 1000) (hsb : B9.length ≤ 1000)
    (hd : dp + 8 < recursionLimit) (hu : un + 60 < cLine)
    (hret : ∀ (R D1 : Addr) (v1 v2 : List Value) (n1 n2 : Nat) (g9 h' : Heap) (tk' : Nat), KtsTurn (frs outer) h₀ g9 → Below A₀ base outer g9 → Fr g9 L h' m → News g9 L h' keep → News g9 L h' [(R, tup2 (.ref D1) (.ref lb)), (D1, listOf v1.toArray n1), (lb, listOf v2.toArray n2)] → StrsAre v1 (unF A.reverse B9 []).1 → StrsAre v2 (unF A.reverse B9 []).2 → Q (.ref R) { s with heap := h', toks := tk' }) :
    wpAny (model PySem.Challenge.rw_ik0143_01.row.prog w) (ktrTop dp un gd cn cs L a ccd cl outer) (call (.ref 58) [.ref la, .ref lb]) Q E s := by
  have N2 : News h₀ L s.heap [(la, listOf va.toArray na), (lb, listOf vb.toArray nb)] := news_sub N (sub2 hma hmb)
  refine wpAny_call ?_
  k_dflt (refine' code_defT B F X N2 T ?kA ?kF ?kK ?k6 ?k7 ?k8 ?k9 ?kB ?_ ?c2 ?c3 ?c4 ?c5; (case kA => exact rfl); (case kF => exact rfl); (case kK => exact hk); (case k6 => k_is); (case k7 => k_is); (case k8 => ktr_room); (case k9 => first | exact BindsTo.of_eq rfl | exact binds_K (by k_in) rfl (by k_is) rfl rfl rfl); (case c5 => decide); (case kB => exact locs rfl); (case c2 => exact rfl); (case c3 => exact rfl); (case c4 => exact rfl); k_whole; intro g' L' h' FG' F' N' B' X' T' kG'; (try (refine Mine.fold_e ?_; intro ev ar qk ek sk)))
  clear N2
  repeat' (first | ((fail_if_success (fail_if_success k_unfold)); first | (with_reducible refine (?_ : wpAny _ _ _ _ _ _)) | (with_reducible refine (?_ : LeaveK _ _ _ _ _ _ _))) | (k_unfold; (try dsimp only)) | ((fail_if_success (fail_if_success k_fold)); (with_reducible refine Mine.fold_q ?_); intro qk ek sk; (try ((with_reducible rename Fr _ _ _ _ => kF); (fail_if_success (have := Mine.pin_chk kF (by with_reducible assumption))); (refine Mine.pin_m kF ?_); intro mk kF9 pk; (try clear kF); (with_reducible rename News _ _ _ _ => kN); (refine Mine.pin_N kN ?_); intro nk kN9; (try clear kN)))) | ((fail_if_success (with_reducible show wpAny _ _ (exec (Stmt.While _ _ _ _) _) _ _ _)); walk1) | ((fail_if_success (with_reducible show wpAny _ _ (exec (Stmt.While _ _ _ _) _) _ _ _)); dsimp only; walk1) | (leave1; walk_say "STEP leave1"; try dsimp only) | fail "no step")
  rename (Fr g' L' _ _) => FF
  rename (News g' L' _ _) => NN
  rename (_ < _ ∧ _ < _ ∧ True) => oM
  rename_i lM _ _
  refine wpAny_mono (Q := fun f s' => Keep (f = Flow.next ∧ UndEnd g' (outOf B') (arOf B') base L' la lb lM A B9 s s')) ?_ ?_ (fun _ _ e => e)
  · refine whl_inv (ι := List Str × List Str × List Str) (fun i => i.1.length) (fun i s' => UndInv g' (outOf B') (arOf B') base L' la lb lM A B9 s i.1 i.2.1 i.2.2 s') (by first | passes_own | with_unfolding_all passes_own) ?_ (A, B9, []) _
      (UndInv.intro g' _ _ va vb [] na nb 0 _ KtsTurn.refl B' (Fr.eq FF (by first | exact Mine.see_go (Mine.see_cons (by with_unfolding_all rfl) (Mine.see_cons (by with_unfolding_all rfl) (Mine.see_cons (by with_unfolding_all rfl) ((by repeat (first | exact Mine.see_refl | refine Mine.see_off (by k_mem) ?_ | refine Mine.see_cons (by with_unfolding_all rfl) ?_)))))) | exact Eq.symm (Mine.see_go (Mine.see_cons (by with_unfolding_all rfl) (Mine.see_cons (by with_unfolding_all rfl) (Mine.see_cons (by with_unfolding_all rfl) ((by repeat (first | exact Mine.see_refl | refine Mine.see_off (by k_mem) ?_ | refine Mine.see_cons (by with_unfolding_all rfl) ?_))))))))) NN hva hvb .nil hsb (by simpa using hsa) rfl)
    rintro ⟨r, act, mis⟩ _ ⟨g1, h, tk, vr, vact, vm, n1, n2, n3, b, T1, B1, F1, N1, hvr, hvact, hvm, hl1, hl2, e1⟩
    dsimp only at *
    have X1 := XB.keeps B1.stays
    have P1 := TB.keeps B1.stays
    clear FF NN X' T'
    have hlr : r.length ≤ 1000 := by omega
    repeat' (first | ((fail_if_success (fail_if_success k_unfold)); first | (with_reducible refine (?_ : wpAny _ _ _ _ _ _)) | (with_reducible refine (?_ : LeaveK _ _ _ _ _ _ _))) | (k_unfold; (try dsimp only)) | ((fail_if_success (with_reducible show wpAny _ _ (call (Value.builtin "list.remove") _) _ _ _)); walk1) | ((fail_if_success (with_reducible show wpAny _ _ (call (Value.builtin "list.remove") _) _ _ _)); dsimp only; walk1) | (leave1; walk_say "STEP leave1"; try dsimp only) | fail "no step")
    · rename (r = []) => h0
      subst h0
      exact ⟨rfl, .intro g1 _ _ vr vact vm n1 n2 n3 b T1 B1 F1 N1 (by rw [e1]; exact hvact) (by rw [e1]; exact hvm)⟩
    · rename (Fr g1 L' _ _) => F9
      rename (News g1 L' _ _) => N9
      rename (r = _ ++ _) => er9
      rename (StrsAre _ (List.dropLast _)) => hI9
      have e2 := un_step (act := act) (mis := mis) er9
      have hl3 : r.dropLast.length < r.length := by
        have := congrArg List.length er9
        rw [List.length_append, List.length_singleton] at this; omega
      by_cases hc : c'z ∈ act
      · k_dflt (refine' Mine.st_remove ?F ?N ?hi hc ?U ?z ?_; (case F => k_asm); (case N => k_asm); (case hi => exact hvact); (case U => (intro _; k_upd)); (case z => (rw [sizeLine_eq]; omega)))
        intro h8 us F8 N8 hus
        clear F9 N9
        repeat' (first | ((fail_if_success (fail_if_success k_unfold)); first | (with_reducible refine (?_ : wpAny _ _ _ _ _ _)) | (with_reducible refine (?_ : LeaveK _ _ _ _ _ _ _))) | (k_unfold; (try dsimp only)) | ((fail_if_success (fail_if_success k_fold)); (with_reducible refine Mine.fold_q ?_); intro qk ek sk; (try ((with_reducible rename Fr _ _ _ _ => kF); (fail_if_success (have := Mine.pin_chk kF (by with_reducible assumption))); (refine Mine.pin_m kF ?_); intro mk kF9 pk; (try clear kF); (with_reducible rename News _ _ _ _ => kN); (refine Mine.pin_N kN ?_); intro nk kN9; (try clear kN)))) | walk1 | (dsimp only; walk1) | (leave1; walk_say "STEP leave1"; try dsimp only) | fail "no step")
        exact ⟨(r.dropLast, act.erase c'z, mis), hl3, .intro g1 _ _ vr.dropLast us vm _ _ n3 (fun y => if y = Str.ofString "item" then some (.str c'z t'z) else b y) T1 B1 (Fr.eq F8 (by first | exact Mine.see_go (Mine.see_cons (by with_unfolding_all rfl) (Mine.see_cons (by with_unfolding_all rfl) (Mine.see_cons (by with_unfolding_all rfl) ((by repeat (first | exact Mine.see_refl | refine Mine.see_off (by k_mem) ?_ | refine Mine.see_cons (by with_unfolding_all rfl) ?_)))))) | exact Eq.symm (Mine.see_go (Mine.see_cons (by with_unfolding_all rfl) (Mine.see_cons (by with_unfolding_all rfl) (Mine.see_cons (by with_unfolding_all rfl) ((by repeat (first | exact Mine.see_refl | refine Mine.see_off (by k_mem) ?_ | refine Mine.see_cons (by with_unfolding_all rfl) ?_))))))))) N8 hI9 hus hvm (Nat.le_trans List.length_erase_le hl1) (by dsimp only; omega) (by rw [e1, e2, if_pos hc])⟩
      · k_dflt (refine' Mine.st_remove_none rfl ?N ?hm ?hi hc ?_; (case N => k_asm); (case hm => k_mem); (case hi => exact hvact))
        intro h8 tk8 e8 x8
        obtain ⟨F7, x7⟩ := xnew_of F9 N9 x8
        show wpAny _ _ (noteFrame _ _) _ _ _
        refine note_new rfl rfl (fun q => by cases q) B1 F7 x7 ?_
        intro g2 h2 T oe oT T2 B2 F6 xa
        refine handle_T (T' := "ValueError") F6 xa (XB.keeps B2.stays) (TB.keeps B2.stays) ?ex PyProof.Rows.Boot.«ValueError» (by decide) PySem.F.isExc_ValueError PySem.F.notTuple_ValueError ?hs ?_ rfl rfl (by decide) (by first | passes_own | with_unfolding_all passes_own)
        case ex => k_is
        case hs => rw [isSubtype_type]; kernel_rfl
        intro h3 F5 N5
        have X2 := XB.keeps B2.stays
        have P2 := TB.keeps B2.stays
        clear F9 N9 F7 x7 F6 xa X1 P1
        repeat' (first | ((fail_if_success (fail_if_success k_unfold)); first | (with_reducible refine (?_ : wpAny _ _ _ _ _ _)) | (with_reducible refine (?_ : LeaveK _ _ _ _ _ _ _))) | (k_unfold; (try dsimp only)) | ((fail_if_success (fail_if_success k_fold)); (with_reducible refine Mine.fold_q ?_); intro qk ek sk; (try ((with_reducible rename Fr _ _ _ _ => kF); (fail_if_success (have := Mine.pin_chk kF (by with_reducible assumption))); (refine Mine.pin_m kF ?_); intro mk kF9 pk; (try clear kF); (with_reducible rename News _ _ _ _ => kN); (refine Mine.pin_N kN ?_); intro nk kN9; (try clear kN)))) | walk1 | (dsimp only; walk1) | (leave1; walk_say "STEP leave1"; try dsimp only) | fail "no step")
        rename (Fr g2 L' _ _) => F4
        rename (News g2 L' _ _) => N4
        rename (StrsAre _ (mis ++ [c'z])) => hv4
        exact ⟨(r.dropLast, act, mis ++ [c'z]), hl3, .intro g2 _ _ vr.dropLast vact _ _ _ _ (fun y => if y = Str.ofString "item" then some (.str c'z t'z) else b y) (T1.trans T2) B2 (Fr.eq F4 (by first | exact Mine.see_go (Mine.see_cons (by with_unfolding_all rfl) (Mine.see_cons (by with_unfolding_all rfl) (Mine.see_cons (by with_unfolding_all rfl) ((by repeat (first | exact Mine.see_refl | refine Mine.see_off (by k_mem) ?_ | refine Mine.see_cons (by with_unfolding_all rfl) ?_)))))) | exact Eq.symm (Mine.see_go (Mine.see_cons (by with_unfolding_all rfl) (Mine.see_cons (by with_unfolding_all rfl) (Mine.see_cons (by with_unfolding_all rfl) ((by repeat (first | exact Mine.see_refl | refine Mine.see_off (by k_mem) ?_ | refine Mine.see_cons (by with_unfolding_all rfl) ?_))))))))) N4 hI9 hvact hv4 hl1 (by dsimp only; rw [List.length_append, List.length_singleton]; omega) (by rw [e1, e2, if_neg hc])⟩
  · rintro f _ ⟨rfl, ⟨g9, h, tk, vr, vact, vm, n1, n2, n3, b, T9, B8, F1, N1, hvact, hvm⟩⟩
    have X1 := XB.keeps B8.stays
    have P1 := TB.keeps B8.stays
    clear FF NN X' T'
    repeat' (first | ((fail_if_success (fail_if_success k_unfold)); first | (with_reducible refine (?_ : wpAny _ _ _ _ _ _)) | (with_reducible refine (?_ : LeaveK _ _ _ _ _ _ _))) | (k_unfold; (try dsimp only)) | ((fail_if_success (fail_if_success k_fold)); (with_reducible refine Mine.fold_q ?_); intro qk ek sk; (try ((with_reducible rename Fr _ _ _ _ => kF); (fail_if_success (have := Mine.pin_chk kF (by with_reducible assumption))); (refine Mine.pin_m kF ?_); intro mk kF9 pk; (try clear kF); (with_reducible rename News _ _ _ _ => kN); (refine Mine.pin_N kN ?_); intro nk kN9; (try clear kN)))) | walk1 | (dsimp only; walk1) | (leave1; walk_say "STEP leave1"; try dsimp only) | fail "no step")
    rename (Fr g9 L' _ _) => F9
    rename (News g9 L' _ _) => N9
    exact leaveT_ T9 F9 N9 fun h₀' T8 B7 F8 N8 => hret _ lM vm vact _ _ h₀' _ _ T8 B7 F8
      (newsT_sub rfl B N kG' T9 F9 T8 hkeep)
      (news_sub N8 (sub3 (.head _) (.tail _ (.head _)) (.tail _ (.tail _ (.tail _ (.head _)))))) hvm hvact

end

theorem words4 : True := by
  k_with "callWith ref" => ((k_here; (with_reducible show wpAny _ _ (callWith _ (Value.ref 867) _ (backTo _ (starEach (_ :: _) _)) []) _ _ _); k_dflt (refine' Mine.callWith_find ?k1_12 (by rfl) (by rfl); k_whole)))
  k_with "And" => (((with_reducible show Frag.In Mine.srK _ ∧ _); k_dflt (refine ⟨Mine.srK_in ((Frag.In.keeps (by k_asm) (Fr.keep (by k_asm))) _ _ (by k_is)) ((Frag.In.keeps (by k_asm) (Fr.keep (by k_asm))) _ _ (by k_is)) ((Frag.In.keeps (by k_asm) (Fr.keep (by k_asm))) _ _ (by k_is)), ?_⟩); (try dsimp only [List.nil_append, List.cons_append])))
  k_with "call ref" => ((k_here; (with_reducible show wpAny _ _ (call (Value.ref 867) [Value.str _ _]) _ _ _); k_dflt (refine' Mine.call_search ?X_14 ?F_14 ?N_14 ?_ ?_ ?hs_14; (case F_14 => k_asm); (case N_14 => k_asm); (case X_14 => exact Mine.srK_in ((Frag.In.keeps (by k_asm) (Fr.keep (by k_asm))) _ _ (by k_is)) ((Frag.In.keeps (by k_asm) (Fr.keep (by k_asm))) _ _ (by k_is)) ((Frag.In.keeps (by k_asm) (Fr.keep (by k_asm))) _ _ (by k_is))); (case hs_14 => with_reducible assumption); k_whole) <;> intros))
  trivial
/-! ## L4 -/
section
set_option maxRecDepth 100000 in
set_option maxHeartbeats 8000000 in
theorem quote_spec {w : World} {mean : ExcName → Option Value} {mg mb : Str → Option Value}
    {dp un : Nat} {gd : Option (List Code)} {cn : Str} {cs : Scope} {a : Addr} {ccd : Value} {cl : List (Str × Addr)} {outer : List Env} {A₀ : Around} {base h₀ : Heap} {L : Addr} {m : Str → Option Value} {news : List (Addr × Obj)} {s : Shared} {Q E : Value → Shared → Prop} {x : Str} {t : Tok}
    (B : Below A₀ base outer h₀) (F : Fr h₀ L s.heap m) (X : (Mine.hd.heap_1_39 w.params).In h₀) (N : News h₀ L s.heap news) (T : (Top Mine.hd.view_1_40 (looseW Mine.hd.view_1_40 [Str.ofString "check_arg_types_genericpath", Str.ofString "join_posixpath", Str.ofString "_twin_re_1", Str.ofString "UnsupportedOperation", Str.ofString "IOBase", Str.ofString "BufferedIOBase", Str.ofString "TextIOBase", Str.ofString "BytesIO", Str.ofString "StringIO", Str.ofString "check_arg_types_path", Str.ofString "join_path", Str.ofString "shlex", Str.ofString "split", Str.ofString "_find_unsafe"]) mean mg mb h₀)) (hk : cs.kind = .function)
    (hd : dp + 3 < recursionLimit) (hu : un + 24 < cLine) (hx : x.length ≤ 1048) (hs : (srFound x).isSome = true) (hrl : (Txt.replace x (Str.ofString "'") (Str.ofString "'\"'\"'")).length ≤ 1048)
    (hret : ∀ (t' : Tok) (h' : Heap) (tk' : Nat), Fr h₀ L h' m → News h₀ L h' news → Q (.str (qtOf x) t') { s with heap := h', toks := tk' }) :
    wpAny (model PySem.Challenge.rw_ik0143_01.row.prog w) (ktrTop dp un gd cn cs L a ccd cl outer) (call (.ref 874) [.str x t]) Q E s := by
  refine wpAny_call ?_
  k_dflt (refine' code_defG B F X News.nil T ?kA ?kF ?kK ?k6 ?k7 ?k8 ?k9 ?kB ?_ ?c2 ?c3 ?c4 ?c5; (case kA => exact rfl); (case kF => exact rfl); (case kK => exact hk); (case k6 => k_is); (case k7 => k_is); (case k8 => ktr_room); (case k9 => first | exact BindsTo.of_eq rfl | exact binds_K (by k_in) rfl (by k_is) rfl rfl rfl); (case c5 => decide); (case kB => exact locs rfl); (case c2 => exact rfl); (case c3 => exact rfl); (case c4 => exact rfl); k_whole; intro g' L' h' FG' F' N' B' X' T' kG'; (try (refine Mine.fold_e ?_; intro ev ar qk ek sk)))
  repeat' (first | ((fail_if_success (fail_if_success k_unfold)); first | (with_reducible refine (?_ : wpAny _ _ _ _ _ _)) | (with_reducible refine (?_ : LeaveK _ _ _ _ _ _ _))) | (k_unfold; (try dsimp only)) | ((fail_if_success (fail_if_success k_fold)); (with_reducible refine Mine.fold_q ?_); intro qk ek sk; (try ((with_reducible rename Fr _ _ _ _ => kF); (fail_if_success (have := Mine.pin_chk kF (by with_reducible assumption))); (refine Mine.pin_m kF ?_); intro mk kF9 pk; (try clear kF); (with_reducible rename News _ _ _ _ => kN); (refine Mine.pin_N kN ?_); intro nk kN9; (try clear kN)))) | walk1 | (dsimp only; walk1) | (leave1; walk_say "STEP leave1"; try dsimp only) | fail "no step")
  all_goals refine Eq.mp (congrArg (fun y => Q (.str y _) _) (?_ : qtOf x = _)) (hret _ _ _ (by k_asm) (news_back N (by assumption) (by assumption)))
  all_goals first
    | exact if_pos (by with_reducible assumption)
    | exact (if_neg (by with_reducible assumption)).trans (if_pos (by with_reducible assumption))
    | exact (if_neg (by with_reducible assumption)).trans (if_neg (by rw [(by with_reducible assumption : srFound x = some true)]; decide))

end

theorem words5 : True := by
  k_with "call builtin:object.__new__" => ((k_here; (with_reducible show wpAny _ _ (call (Value.builtin "object.__new__") [Value.ref 719]) _ _ _); k_dflt (refine' Mine.call_new719 ?F_15 ?N_15 ?X_15 ?_; (case F_15 => k_asm); (case N_15 => k_asm); (case X_15 => exact Frag.In.keeps (by k_asm) (Fr.keep (by k_asm))); k_whole); intro x'z d'z h'z F'z N'z l1z l2z; (try k_lt l1z); (try k_lt2 l2z)))
  k_with "call ref" => ((k_here; (with_reducible show wpAny _ _ (call (Value.ref 719) [Value.str _ _]) _ _ _); k_dflt (refine' Mine.sio_spec ?k1_16 ?k2_16 ?k3_16 ?k4_16 ?k5_16 ?k6_16 ?k7_16 ?k8_16 ?k9_16 ?_; (((case k1_16 => k_asm); (case k2_16 => k_asm); (case k3_16 => k_asm); (case k4_16 => k_asm); (case k5_16 => k_asm); (case k6_16 => first | exact rfl | assumption)); (case k7_16 => ktr_room); (case k8_16 => ktr_units)); (case k9_16 => with_reducible assumption); k_whole); intro I9z dI9z k19z k29z k39z k49z h9z tk9z F9z N9z l9z l8z; (try dsimp +zetaDelta only [AllLt] at l9z); (try k_lt2 l8z); (try dsimp only)))
  k_with "call type:collections.deque" => ((k_here; k_dflt (refine' Mine.call_deque ?F_17 ?N_17 ?_; (case F_17 => k_asm); (case N_17 => k_asm); k_whole); intro D9z h9z F9z N9z l9z; (try k_lt l9z)))
  k_with "call builtin:str.find" => ((k_here; (with_reducible show wpAny _ _ (call (Value.builtin "str.find") [Value.str _ _, Value.str _ _, Value.int _ _, Value.int _ _]) _ _ _); (refine Mine.find4 (by with_reducible assumption) ?_); intro t9z k9z))
  k_with "subscriptTail" => ((k_here; (fail_if_success (with_reducible show wpAny _ _ (subscriptTail (PySem.Expr.Name _ _) _ _ _) _ _ _)); k_dflt (refine kba_turn (value' := PySem.Expr.Name (PySem.Str.ofString "_") ⟨0, 0, 0, 0⟩) (fun _ => rfl) ?_)))
  trivial
/-! ## R6 -/
section
set_option maxRecDepth 100000
theorem sio_chk (w : World) (S : Setting) : peek (Mine.hd.heap_1_39 w.params) S (checkBuiltinCall "object.__new__" ⟨[.ref 719], []⟩) = some () := by kernel_rfl
theorem sio_here (w : World) (S : Setting) : peek (Mine.hd.heap_1_39 w.params) S (Bind.madeHere "object.__new__" (.ref 719)) = some () := by kernel_rfl
theorem sio_made (w : World) (S : Setting) : peek (Mine.hd.heap_1_39 w.params) S (Bind.madeBy (.ref 719)) = some none := by kernel_rfl
noncomputable def sioCd : ClassData := { name := Str.ofString "StringIO", bases := [Value.ref 242], mro := [Value.ref 719, Value.ref 242, Value.ref 215, Value.type "object"], ns := 718, qualname := Str.ofString "StringIO" }
noncomputable def sioSl : Array (Option Value) := #[some (Value.ref 475), none, some (Value.str (Str.ofString "StringIO") 925), some (Value.str (Str.ofString "StringIO") 933), some Value.none, some (Value.bool true)]
theorem sio_obj (w : World) : ((Mine.hd.heap_1_39 w.params)).lookup 719 = some ⟨.type "type", none, .cls sioCd, sioSl⟩ := by kernel_rfl
theorem sio_typ (w : World) : instIn (Mine.hd.heap_1_39 w.params) (.ref 719) (.type "type") = some true := by kernel_rfl
theorem sio_self (w : World) : mroIn (Mine.hd.heap_1_39 w.params) 719 (.type "object") = some true := by kernel_rfl
theorem sio_same (w : World) : mroIn (Mine.hd.heap_1_39 w.params) 719 (.ref 719) = some true := by kernel_rfl
theorem sio_call (w : World) : specialIn (Mine.hd.heap_1_39 w.params) (.ref 719) "__call__" = some (some (.builtin "type.__call__")) := by kernel_rfl
theorem sio_init (w : World) : findIn (Mine.hd.heap_1_39 w.params) (.ref 719) "__init__" = some (some (.ref 489)) := by k_is
theorem sio_fn (w : World) : typeIn (Mine.hd.heap_1_39 w.params) (.ref 489) = some (.type "function") := by k_is
theorem call_new719 {w : World} {A : Around} {E : Value → Shared → Prop} {s : Shared} {h₀ : Heap} {L : Addr} {m : Str → Option Value} {news : List (Addr × Obj)} {Q : Value → Shared → Prop} (F : Fr h₀ L s.heap m) (N : News h₀ L s.heap news) (X : (Mine.hd.heap_1_39 w.params).In s.heap)
    (h : ∀ x dx h', Fr h₀ L h' m → News h₀ L h' ((x, instObj 719 dx) :: (dx, dictOf [] 0) :: news) → (∀ p ∈ news, p.1 < dx) → dx < x → Q (.ref x) { s with heap := h' }) :
    wpAny (model PySem.Challenge.rw_ik0143_01.row.prog w) A (call (.builtin "object.__new__") [.ref 719]) Q E s := by
  refine wpAny_call ?_
  obtain ⟨hh, g, d, t, os⟩ := s
  refine new_own (X _ _ (sio_obj w)) rfl rfl (Looks.of_peek X (sio_chk w _)) (Looks.of_peek X (sio_here w _)) (looks_instIn X (sio_typ w)) (looks_mroIn X (sio_self w)) ?_
  refine h _ hh.objs.size _ ((F.push _).push _) ?_ (fun p hp => Heap.lt_size (N p hp).1) (Nat.lt_succ_self _)
  have := (N.push F emptyDict).push (F.push _) (instObj 719 hh.objs.size)
  rwa [Heap.size_push] at this
noncomputable abbrev ent (w : World) (n : String) (k : Tok) (v : Value) : DictEntry := { hash := PyData.keyHash w.params (Str.ofString n), key := .str (Str.ofString n) k, val := v }
noncomputable abbrev sioD (w : World) (x : Str) (t : Tok) (p : Int) (k1 k2 k3 k4 : Tok) : Obj := dictOf [ent w "_StringIO__newline" k1 (.str (Str.ofString "\n") 940), ent w "_StringIO__buf" k2 (.str x t), ent w "_StringIO__pos" k3 (.int p k4)] 3
theorem af_newline (w : World) : AttrFact (Mine.hd.heap_1_39 w.params) 719 (Str.ofString "_StringIO__newline") := ⟨by k_is, by k_is, _, by k_is, by k_is⟩
theorem af_buf (w : World) : AttrFact (Mine.hd.heap_1_39 w.params) 719 (Str.ofString "_StringIO__buf") := ⟨by k_is, by k_is, _, by k_is, by k_is⟩
theorem af_pos (w : World) : AttrFact (Mine.hd.heap_1_39 w.params) 719 (Str.ofString "_StringIO__pos") := ⟨by k_is, by k_is, _, by k_is, by k_is⟩
theorem ov_newline {w : World} {x : Str} {t k1 k2 k3 k4 : Tok} {p : Int} : OwnVal (Str.ofString "_StringIO__newline") (sioD w x t p k1 k2 k3 k4) (.str (Str.ofString "\n") 940) := ⟨_, _, rfl, rfl, rfl⟩
theorem ov_buf {w : World} {x : Str} {t k1 k2 k3 k4 : Tok} {p : Int} : OwnVal (Str.ofString "_StringIO__buf") (sioD w x t p k1 k2 k3 k4) (.str x t) := ⟨_, _, rfl, rfl, rfl⟩
theorem ov_pos {w : World} {x : Str} {t k1 k2 k3 k4 : Tok} {p : Int} : OwnVal (Str.ofString "_StringIO__pos") (sioD w x t p k1 k2 k3 k4) (.int p k4) := ⟨_, _, rfl, rfl, rfl⟩
theorem pv_pos {w : World} {x : Str} {t k1 k2 k3 k4 k5 : Tok} {p q : Int} : PutVal w (Str.ofString "_StringIO__pos") (.int q k5) (sioD w x t p k1 k2 k3 k4) (sioD w x t q k1 k2 k3 k5) := ⟨_, _, _, _, rfl, rfl, rfl, Nat.le_of_ble_eq_true rfl, fun _ => rfl⟩
theorem sf_pos (w : World) : SetFact (Mine.hd.heap_1_39 w.params) 719 (Str.ofString "_StringIO__pos") := ⟨by k_is, by k_is, by k_is, by k_is⟩
set_option maxRecDepth 100000 in
set_option maxHeartbeats 8000000 in
theorem sio_spec {w : World} {mean : ExcName → Option Value} {mg mb : Str → Option Value}
    {dp un : Nat} {gd : Option (List Code)} {cn : Str} {cs : Scope} {a : Addr} {ccd : Value} {cl : List (Str × Addr)} {outer : List Env} {A₀ : Around} {base h₀ : Heap} {L : Addr} {m : Str → Option Value} {news : List (Addr × Obj)} {s : Shared} {Q E : Value → Shared → Prop} {x : Str} {t : Tok}
    (B : Below A₀ base outer h₀) (F : Fr h₀ L s.heap m) (X : (Mine.hd.heap_1_39 w.params).In h₀) (N : News h₀ L s.heap news) (T : (Top Mine.hd.view_1_40 (looseW Mine.hd.view_1_40 [Str.ofString "check_arg_types_genericpath", Str.ofString "join_posixpath", Str.ofString "_twin_re_1", Str.ofString "UnsupportedOperation", Str.ofString "IOBase", Str.ofString "BufferedIOBase", Str.ofString "TextIOBase", Str.ofString "BytesIO", Str.ofString "StringIO", Str.ofString "check_arg_types_path", Str.ofString "join_path", Str.ofString "shlex", Str.ofString "split", Str.ofString "_find_unsafe"]) mean mg mb h₀)) (hk : cs.kind = .function)
    (hd : dp + 6 < recursionLimit) (hu : un + 44 < cLine) (hx : x.length ≤ 100000)
    (hret : ∀ (I dI : Addr) (k1 k2 k3 k4 : Tok) (h' : Heap) (tk' : Nat), Fr h₀ L h' m → News h₀ L h' ((I, instObj 719 dI) :: (dI, sioD w x t 0 k1 k2 k3 k4) :: news) → AllLt dI news → dI < I → Q (.ref I) { s with heap := h', toks := tk' }) :
    wpAny (model PySem.Challenge.rw_ik0143_01.row.prog w) (ktrTop dp un gd cn cs L a ccd cl outer) (call (.ref 719) [.str x t]) Q E s := by
  refine wpAny_call ?_
  refine make_own (fI := 489) (X.keeps F.keep _ _ (sio_obj w)) rfl (Looks.of_peek (X.keeps F.keep) (sio_made w _)) (looks_specialIn (X.keeps F.keep) (sio_call w)) (looks_instIn (X.keeps F.keep) (sio_typ w)) ?_
  repeat' (first | ((fail_if_success (fail_if_success k_unfold)); first | (with_reducible refine (?_ : wpAny _ _ _ _ _ _)) | (with_reducible refine (?_ : LeaveK _ _ _ _ _ _ _))) | (k_unfold; (try dsimp only)) | ((fail_if_success (fail_if_success k_fold)); (with_reducible refine Mine.fold_q ?_); intro qk ek sk; (try ((with_reducible rename Fr _ _ _ _ => kF); (fail_if_success (have := Mine.pin_chk kF (by with_reducible assumption))); (refine Mine.pin_m kF ?_); intro mk kF9 pk; (try clear kF); (with_reducible rename News _ _ _ _ => kN); (refine Mine.pin_N kN ?_); intro nk kN9; (try clear kN)))) | walk1 | (dsimp only; walk1) | (leave1; walk_say "STEP leave1"; try dsimp only) | fail "no step")
  · exact (Looks.ld (News.get (by k_asm) (by k_mem))).andThen .now
  · exact looks_mroIn (X.keeps (Fr.keep (L := L) (m := m) (by k_asm))) (sio_same w)
  · exact looks_findIn (X.keeps (Fr.keep (L := L) (m := m) (by k_asm))) (sio_init w)
  · exact bind_fn (X.keeps (Fr.keep (L := L) (m := m) (by k_asm))) _ (sio_fn w)
  k_dflt k_enter
  repeat' (first | ((fail_if_success (fail_if_success k_unfold)); first | (with_reducible refine (?_ : wpAny _ _ _ _ _ _)) | (with_reducible refine (?_ : LeaveK _ _ _ _ _ _ _))) | (k_unfold; (try dsimp only)) | ((fail_if_success (fail_if_success k_fold)); (with_reducible refine Mine.fold_q ?_); intro qk ek sk; (try ((with_reducible rename Fr _ _ _ _ => kF); (fail_if_success (have := Mine.pin_chk kF (by with_reducible assumption))); (refine Mine.pin_m kF ?_); intro mk kF9 pk; (try clear kF); (with_reducible rename News _ _ _ _ => kN); (refine Mine.pin_N kN ?_); intro nk kN9; (try clear kN)))) | walk1 | (dsimp only; walk1) | (leave1; walk_say "STEP leave1"; try dsimp only) | fail "no step")
  rename (News h₀ L _ _) => kN9
  rename (_ ∧ _ ∧ AllLt _ _) => l9
  exact hret _ _ _ _ _ _ _ _ (by k_asm) (fun p hp => kN9 p (by rcases List.mem_cons.mp hp with rfl | hp; (exact List.mem_cons_self ..); rcases List.mem_cons.mp hp with rfl | hp; (exact List.mem_cons_of_mem _ (List.mem_cons_self ..)); exact List.mem_cons_of_mem _ (List.mem_cons_of_mem _ (List.mem_cons_of_mem _ (List.mem_cons_of_mem _ hp))))) l9.2.2 (by k_asm)

end

theorem words6 : True := by
  k_with "eval Attribute Name" => ((k_here; k_dflt (refine' Mine.own_attr ?k1_am ?k2_am ?k3_am ?ks_am ?m1_am ?m2_am ?hl_am ?hf_am ?_ ?kk_am ?kx_am ?kd_am; (case k1_am => k_asm); (case k2_am => k_asm); (case k3_am => k_asm); (case ks_am => exact rfl); (case m1_am => k_mem); (case m2_am => k_mem); (case kk_am => exact rfl); (case kx_am => exact rfl); (case kd_am => decide); (case hl_am => first | (with_reducible exact Mine.ov_newline) | (with_reducible exact Mine.ov_buf) | (with_reducible exact Mine.ov_pos)); (case hf_am => first | (with_reducible exact Mine.af_newline _) | (with_reducible exact Mine.af_buf _) | (with_reducible exact Mine.af_pos _)); k_whole)))
  k_with "setAttr ref" => ((k_here; k_dflt (refine' Mine.own_set ?k1_sm ?k2_sm ?k3_sm ?m1_sm ?m2_sm ?hp_sm ?hf_sm ?U_sm ?_; (case k1_sm => k_asm); (case k2_sm => k_asm); (case k3_sm => k_asm); (case m1_sm => k_mem); (case m2_sm => k_mem); (case hp_sm => first | (with_reducible exact Mine.pv_pos)); (case hf_sm => first | (with_reducible exact Mine.sf_pos _)); (case U_sm => k_upd); k_whole); intro h'z F'z N'z; (try k_sweep)))
  trivial
/-! ## R8 -/
section
theorem news_two {h₀ H g h' : Heap} {L L' I dI : Addr} {oi o o' : Obj} {m' : Str → Option Value} {news news' : List (Addr × Obj)} (N : News h₀ L H news) (U : Upd dI o o' news news') (G : GSub H g [I, dI]) (F : Fr g L' h' m') (K : News h₀ L h' [(I, oi), (dI, o')]) (hm : (I, oi) ∈ news) : News h₀ L h' news' := by
  obtain ⟨pre, post, rfl, rfl, a, b⟩ := U.split
  have old : ∀ p, p ∈ pre ++ post → News h₀ L h' [p] := by
    intro p hp
    have hp' : p ∈ pre ++ (dI, o) :: post := by
      rcases List.mem_append.mp hp with hp | hp
      · exact List.mem_append_left _ hp
      · exact List.mem_append_right _ (List.mem_cons_of_mem _ hp)
    have hd : p.1 ≠ dI := by
      rcases List.mem_append.mp hp with hp | hp
      · exact a p hp
      · exact b p hp
    intro q hq
    rw [List.mem_singleton.mp hq]
    by_cases hI : p.1 = I
    · have e1 := (N _ hm).1
      have e2 := (N p hp').1
      have : p.2 = oi := Option.some.inj (e2.symm.trans (hI ▸ e1))
      have kk := K (I, oi) (List.mem_cons_self ..)
      rw [show p = (I, oi) from Prod.ext hI this]
      exact kk
    · exact ⟨F.keep _ _ (G _ _ (N p hp').1 (by simp [hI, hd])), (N p hp').2⟩
  intro p hp
  rcases List.mem_append.mp hp with hp | hp
  · exact old p (List.mem_append_left _ hp) p (List.mem_singleton_self _)
  · rcases List.mem_cons.mp hp with rfl | hp
    · exact K _ (List.mem_cons_of_mem _ (List.mem_singleton_self _))
    · exact old p (List.mem_append_right _ hp) p (List.mem_singleton_self _)
set_option maxRecDepth 100000 in
set_option maxHeartbeats 8000000 in
theorem read1_spec {w : World} {mean : ExcName → Option Value} {mg mb : Str → Option Value}
    {dp un : Nat} {gd : Option (List Code)} {cn : Str} {cs : Scope} {a : Addr} {ccd : Value} {cl : List (Str × Addr)} {outer : List Env} {A₀ : Around} {base h₀ : Heap} {L : Addr} {m : Str → Option Value} {news : List (Addr × Obj)} {s : Shared} {Q E : Value → Shared → Prop} {x cx : Str} {c : Nat} {t k1 k2 k3 k4 tq : Tok} {p : Int} {I dI : Addr} {news' : Tok → List (Addr × Obj)}
    (B : Below A₀ base outer h₀) (F : Fr h₀ L s.heap m) (X : (Mine.hd.heap_1_39 w.params).In h₀) (N : News h₀ L s.heap news) (T : (Top Mine.hd.view_1_40 (looseW Mine.hd.view_1_40 [Str.ofString "check_arg_types_genericpath", Str.ofString "join_posixpath", Str.ofString "_twin_re_1", Str.ofString "UnsupportedOperation", Str.ofString "IOBase", Str.ofString "BufferedIOBase", Str.ofString "TextIOBase", Str.ofString "BytesIO", Str.ofString "StringIO", Str.ofString "check_arg_types_path", Str.ofString "join_path", Str.ofString "shlex", Str.ofString "split", Str.ofString "_find_unsafe"]) mean mg mb h₀)) (hk : cs.kind = .function)
    (hm : (I, instObj 719 dI) ∈ news) (hm2 : (dI, sioD w x t p k1 k2 k3 k4) ∈ news) (U : ∀ k, Upd dI (sioD w x t p k1 k2 k3 k4) (sioD w x t (p + 1) k1 k2 k3 k) news (news' k)) (hne : @Ne Nat I dI)
    (hd : dp + 6 < recursionLimit) (hu : un + 44 < cLine) (hx : x.length ≤ 100000) (hp0 : 0 ≤ p) (hc : x.cps.toList[p.toNat]? = some c) (hcx : chS c = cx)
    (hret : ∀ (t' k : Tok) (h' : Heap) (tk' : Nat), Fr h₀ L h' m → News h₀ L h' (news' k) → Q (.str cx t') { s with heap := h', toks := tk' }) :
    wpAny (model PySem.Challenge.rw_ik0143_01.row.prog w) (ktrTop dp un gd cn cs L a ccd cl outer) (call (.ref 665) [.ref I, .int 1 tq]) Q E s := by
  have hp1 : p < x.length := by
    have := (List.getElem?_eq_some_iff.mp hc).1
    simp only [Array.length_toList] at this
    have h2 : x.length = x.cps.size := rfl
    omega
  have N2 : News h₀ L s.heap [(I, instObj 719 dI), (dI, sioD w x t p k1 k2 k3 k4)] := news_sub N (sub2 hm hm2)
  refine wpAny_call ?_
  k_dflt (refine' code_defG B F X N2 T ?kA ?kF ?kK ?k6 ?k7 ?k8 ?k9 ?kB ?_ ?c2 ?c3 ?c4 ?c5; (case kA => exact rfl); (case kF => exact rfl); (case kK => exact hk); (case k6 => k_is); (case k7 => k_is); (case k8 => ktr_room); (case k9 => first | exact BindsTo.of_eq rfl | exact binds_K (by k_in) rfl (by k_is) rfl rfl rfl); (case c5 => decide); (case kB => exact locs rfl); (case c2 => exact rfl); (case c3 => exact rfl); (case c4 => exact rfl); k_whole; intro g' L' h' FG' F' N' B' X' T' kG'; (try (refine Mine.fold_e ?_; intro ev ar qk ek sk)))
  clear N2
  repeat' (first | ((fail_if_success (fail_if_success k_unfold)); first | (with_reducible refine (?_ : wpAny _ _ _ _ _ _)) | (with_reducible refine (?_ : LeaveK _ _ _ _ _ _ _))) | (k_unfold; (try dsimp only)) | ((fail_if_success (fail_if_success k_fold)); (with_reducible refine Mine.fold_q ?_); intro qk ek sk; (try ((with_reducible rename Fr _ _ _ _ => kF); (fail_if_success (have := Mine.pin_chk kF (by with_reducible assumption))); (refine Mine.pin_m kF ?_); intro mk kF9 pk; (try clear kF); (with_reducible rename News _ _ _ _ => kN); (refine Mine.pin_N kN ?_); intro nk kN9; (try clear kN)))) | walk1 | (dsimp only; walk1) | (leave1; walk_say "STEP leave1"; try dsimp only) | fail "no step")
  · rename (News h₀ L _ _) => kN9
    rw [ch_law hp0 hc, hcx]
    exact hret _ _ _ _ (by k_asm) (news_two N (U _) kG' (by assumption : Fr g' L' _ _) kN9 hm)
  · rename (News h₀ L _ _) => kN9
    have hl : (x.length : Int) = p + 1 := by omega
    replace kN9 : News h₀ L _ [_, _] := kN9
    rw [hl] at kN9
    rw [hl, ch_law hp0 hc, hcx]
    exact hret _ _ _ _ (by k_asm) (news_two N (U _) kG' (by assumption : Fr g' L' _ _) kN9 hm)

end

/-! ## R9 -/
section
theorem news_pair {h₀ H g h' : Heap} {L L' I dI : Addr} {oi o : Obj} {m' : Str → Option Value} {news : List (Addr × Obj)} (N : News h₀ L H news) (G : GSub H g [I, dI]) (F : Fr g L' h' m') (K : News h₀ L h' [(I, oi), (dI, o)]) (hm : (I, oi) ∈ news) (hm2 : (dI, o) ∈ news) : News h₀ L h' news := by
  intro p hp
  by_cases h1 : p.1 = I
  · have : p.2 = oi := Option.some.inj ((N p hp).1.symm.trans (h1 ▸ (N _ hm).1))
    rw [show p = (I, oi) from Prod.ext h1 this]
    exact K _ (List.mem_cons_self ..)
  · by_cases h2 : p.1 = dI
    · have : p.2 = o := Option.some.inj ((N p hp).1.symm.trans (h2 ▸ (N _ hm2).1))
      rw [show p = (dI, o) from Prod.ext h2 this]
      exact K _ (List.mem_cons_of_mem _ (List.mem_singleton_self _))
    · exact ⟨F.keep _ _ (G _ _ (N p hp).1 (by simp [h1, h2])), (N p hp).2⟩
set_option maxRecDepth 100000 in
set_option maxHeartbeats 8000000 in
theorem readend_spec {w : World} {mean : ExcName → Option Value} {mg mb : Str → Option Value}
    {dp un : Nat} {gd : Option (List Code)} {cn : Str} {cs : Scope} {a : Addr} {ccd : Value} {cl : List (Str × Addr)} {outer : List Env} {A₀ : Around} {base h₀ : Heap} {L : Addr} {m : Str → Option Value} {news : List (Addr × Obj)} {s : Shared} {Q E : Value → Shared → Prop} {x : Str} {t k1 k2 k3 k4 tq : Tok} {p : Int} {I dI : Addr}
    (B : Below A₀ base outer h₀) (F : Fr h₀ L s.heap m) (X : (Mine.hd.heap_1_39 w.params).In h₀) (N : News h₀ L s.heap news) (T : (Top Mine.hd.view_1_40 (looseW Mine.hd.view_1_40 [Str.ofString "check_arg_types_genericpath", Str.ofString "join_posixpath", Str.ofString "_twin_re_1", Str.ofString "UnsupportedOperation", Str.ofString "IOBase", Str.ofString "BufferedIOBase", Str.ofString "TextIOBase", Str.ofString "BytesIO", Str.ofString "StringIO", Str.ofString "check_arg_types_path", Str.ofString "join_path", Str.ofString "shlex", Str.ofString "split", Str.ofString "_find_unsafe"]) mean mg mb h₀)) (hk : cs.kind = .function)
    (hm : (I, instObj 719 dI) ∈ news) (hm2 : (dI, sioD w x t p k1 k2 k3 k4) ∈ news) (hne : @Ne Nat I dI)
    (hd : dp + 6 < recursionLimit) (hu : un + 44 < cLine) (hx : x.length ≤ 100000) (hp0 : (x.length : Int) ≤ p)
    (hret : ∀ (t' : Tok) (h' : Heap) (tk' : Nat), Fr h₀ L h' m → News h₀ L h' news → Q (.str (Str.ofString "") t') { s with heap := h', toks := tk' }) :
    wpAny (model PySem.Challenge.rw_ik0143_01.row.prog w) (ktrTop dp un gd cn cs L a ccd cl outer) (call (.ref 665) [.ref I, .int 1 tq]) Q E s := by
  have N2 : News h₀ L s.heap [(I, instObj 719 dI), (dI, sioD w x t p k1 k2 k3 k4)] := news_sub N (sub2 hm hm2)
  refine wpAny_call ?_
  k_dflt (refine' code_defG B F X N2 T ?kA ?kF ?kK ?k6 ?k7 ?k8 ?k9 ?kB ?_ ?c2 ?c3 ?c4 ?c5; (case kA => exact rfl); (case kF => exact rfl); (case kK => exact hk); (case k6 => k_is); (case k7 => k_is); (case k8 => ktr_room); (case k9 => first | exact BindsTo.of_eq rfl | exact binds_K (by k_in) rfl (by k_is) rfl rfl rfl); (case c5 => decide); (case kB => exact locs rfl); (case c2 => exact rfl); (case c3 => exact rfl); (case c4 => exact rfl); k_whole; intro g' L' h' FG' F' N' B' X' T' kG'; (try (refine Mine.fold_e ?_; intro ev ar qk ek sk)))
  clear N2
  repeat' (first | ((fail_if_success (fail_if_success k_unfold)); first | (with_reducible refine (?_ : wpAny _ _ _ _ _ _)) | (with_reducible refine (?_ : LeaveK _ _ _ _ _ _ _))) | (k_unfold; (try dsimp only)) | ((fail_if_success (fail_if_success k_fold)); (with_reducible refine Mine.fold_q ?_); intro qk ek sk; (try ((with_reducible rename Fr _ _ _ _ => kF); (fail_if_success (have := Mine.pin_chk kF (by with_reducible assumption))); (refine Mine.pin_m kF ?_); intro mk kF9 pk; (try clear kF); (with_reducible rename News _ _ _ _ => kN); (refine Mine.pin_N kN ?_); intro nk kN9; (try clear kN)))) | walk1 | (dsimp only; walk1) | (leave1; walk_say "STEP leave1"; try dsimp only) | fail "no step")
  rename (News h₀ L _ _) => kN9
  exact hret _ _ _ (by k_asm) (news_pair N kG' (by assumption : Fr g' L' _ _) kN9 hm hm2)
set_option maxRecDepth 100000 in
set_option maxHeartbeats 8000000 in
theorem readline_spec {w : World} {mean : ExcName → Option Value} {mg mb : Str → Option Value}
    {dp un : Nat} {gd : Option (List Code)} {cn : Str} {cs : Scope} {a : Addr} {ccd : Value} {cl : List (Str × Addr)} {outer : List Env} {A₀ : Around} {base h₀ : Heap} {L : Addr} {m : Str → Option Value} {news : List (Addr × Obj)} {s : Shared} {Q E : Value → Shared → Prop} {x : Str} {t k1 k2 k3 k4 tq : Tok} {p : Int} {I dI : Addr} {news' : Tok → List (Addr × Obj)}
    (B : Below A₀ base outer h₀) (F : Fr h₀ L s.heap m) (X : (Mine.hd.heap_1_39 w.params).In h₀) (N : News h₀ L s.heap news) (T : (Top Mine.hd.view_1_40 (looseW Mine.hd.view_1_40 [Str.ofString "check_arg_types_genericpath", Str.ofString "join_posixpath", Str.ofString "_twin_re_1", Str.ofString "UnsupportedOperation", Str.ofString "IOBase", Str.ofString "BufferedIOBase", Str.ofString "TextIOBase", Str.ofString "BytesIO", Str.ofString "StringIO", Str.ofString "check_arg_types_path", Str.ofString "join_path", Str.ofString "shlex", Str.ofString "split", Str.ofString "_find_unsafe"]) mean mg mb h₀)) (hk : cs.kind = .function)
    (hm : (I, instObj 719 dI) ∈ news) (hm2 : (dI, sioD w x t p k1 k2 k3 k4) ∈ news) (hne : @Ne Nat I dI)
    (hd : dp + 6 < recursionLimit) (hu : un + 44 < cLine) (hx : x.length ≤ 100000) (hp0 : 0 ≤ p) (hp1 : p < x.length) (hnl : ∀ c ∈ x.cps.toList, c ≠ 10) (U : ∀ k, Upd dI (sioD w x t p k1 k2 k3 k4) (sioD w x t x.length k1 k2 k3 k) news (news' k))
    (hret : ∀ (c : Str) (t' k : Tok) (h' : Heap) (tk' : Nat), Fr h₀ L h' m → News h₀ L h' (news' k) → Q (.str c t') { s with heap := h', toks := tk' }) :
    wpAny (model PySem.Challenge.rw_ik0143_01.row.prog w) (ktrTop dp un gd cn cs L a ccd cl outer) (call (.ref 673) [.ref I]) Q E s := by
  have N2 : News h₀ L s.heap [(I, instObj 719 dI), (dI, sioD w x t p k1 k2 k3 k4)] := news_sub N (sub2 hm hm2)
  refine wpAny_call ?_
  k_dflt (refine' code_defG B F X N2 T ?kA ?kF ?kK ?k6 ?k7 ?k8 ?k9 ?kB ?_ ?c2 ?c3 ?c4 ?c5; (case kA => exact rfl); (case kF => exact rfl); (case kK => exact hk); (case k6 => k_is); (case k7 => k_is); (case k8 => ktr_room); (case k9 => first | exact BindsTo.of_eq rfl | exact binds_K (by k_in) rfl (by k_is) rfl rfl rfl); (case c5 => decide); (case kB => exact locs rfl); (case c2 => exact rfl); (case c3 => exact rfl); (case c4 => exact rfl); k_whole; intro g' L' h' FG' F' N' B' X' T' kG'; (try (refine Mine.fold_e ?_; intro ev ar qk ek sk)))
  clear N2
  repeat' (first | ((fail_if_success (fail_if_success k_unfold)); first | (with_reducible refine (?_ : wpAny _ _ _ _ _ _)) | (with_reducible refine (?_ : LeaveK _ _ _ _ _ _ _))) | (k_unfold; (try dsimp only)) | ((fail_if_success (fail_if_success k_fold)); (with_reducible refine Mine.fold_q ?_); intro qk ek sk; (try ((with_reducible rename Fr _ _ _ _ => kF); (fail_if_success (have := Mine.pin_chk kF (by with_reducible assumption))); (refine Mine.pin_m kF ?_); intro mk kF9 pk; (try clear kF); (with_reducible rename News _ _ _ _ => kN); (refine Mine.pin_N kN ?_); intro nk kN9; (try clear kN)))) | walk1 | (dsimp only; walk1) | (leave1; walk_say "STEP leave1"; try dsimp only) | fail "no step")
  rename (News h₀ L _ _) => kN9
  exact hret _ _ _ _ _ (by k_asm) (news_two N (U _) kG' (by assumption : Fr g' L' _ _) kN9 hm)

end

theorem words7 : True := by
  k_with "call ref" => ((k_here; k_dflt (show wpAny _ _ (call (Value.ref 665) [Value.ref _, Value.int _ _]) _ _ _); k_dflt (refine' Mine.readend_spec ?k1_19 ?k2_19 ?k3_19 ?k4_19 ?k5_19 ?k6_19 ?m1_19 ?m2_19 ?ne_19 ?k7_19 ?k8_19 ?k9_19 ?kz_19 ?_; ((case k1_19 => k_asm); (case k2_19 => k_asm); (case k3_19 => k_asm); (case k4_19 => k_asm); (case k5_19 => k_asm); (case k6_19 => first | exact rfl | assumption)); ((case m1_19 => k_mem); (case m2_19 => k_mem)); (case ne_19 => k_ne); (case k7_19 => ktr_room); (case k8_19 => ktr_units); (case k9_19 => with_reducible assumption); (case kz_19 => with_reducible assumption); k_whole); intro t9z h9z tk9z F9z N9z; (try dsimp only); (try k_sweep)))
  k_with "call ref" => ((k_here; k_dflt (show wpAny _ _ (call (Value.ref 665) [Value.ref _, Value.int _ _]) _ _ _); k_dflt (refine' Mine.read1_spec ?k1_20 ?k2_20 ?k3_20 ?k4_20 ?k5_20 ?k6_20 ?m1_20 ?m2_20 ?U_20 ?ne_20 ?k7_20 ?k8_20 ?k9_20 ?kp_20 ?kc_20 ?kx_20 ?_; ((case k1_20 => k_asm); (case k2_20 => k_asm); (case k3_20 => k_asm); (case k4_20 => k_asm); (case k5_20 => k_asm); (case k6_20 => first | exact rfl | assumption)); ((case m1_20 => k_mem); (case m2_20 => k_mem)); (case U_20 => (intro _; k_upd)); (case ne_20 => k_ne); (case k7_20 => ktr_room); (case k8_20 => ktr_units); (case k9_20 => with_reducible assumption); (case kp_20 => with_reducible assumption); (case kc_20 => with_reducible assumption); (case kx_20 => first | with_reducible assumption | exact rfl); k_whole); intro t9z k9z h9z tk9z F9z N9z; (try dsimp only); (try k_sweep)))
  k_with "call ref" => ((k_here; k_dflt (show wpAny _ _ (call (Value.ref 673) [Value.ref _]) _ _ _); k_dflt (refine' Mine.readline_spec ?k1_21 ?k2_21 ?k3_21 ?k4_21 ?k5_21 ?k6_21 ?m1_21 ?m2_21 ?ne_21 ?k7_21 ?k8_21 ?k9_21 ?kp_21 ?kq_21 ?kn_21 ?U_21 ?_; ((case k1_21 => k_asm); (case k2_21 => k_asm); (case k3_21 => k_asm); (case k4_21 => k_asm); (case k5_21 => k_asm); (case k6_21 => first | exact rfl | assumption)); ((case m1_21 => k_mem); (case m2_21 => k_mem)); (case U_21 => (intro _; k_upd)); (case ne_21 => k_ne); (case k7_21 => ktr_room); (case k8_21 => ktr_units); (case k9_21 => with_reducible assumption); (case kp_21 => with_reducible assumption); (case kq_21 => with_reducible assumption); (case kn_21 => with_reducible assumption); k_whole); intro c9z t9z k9z h9z tk9z F9z N9z; (try dsimp only); (try k_sweep)))
  k_with "ite" => ((k_here; first | (with_reducible refine ite_tt ?_) | (with_reducible refine ite_ff ?_) | (refine Mine.ite_yes (by with_reducible assumption) ?_) | (refine Mine.ite_no (by with_reducible assumption) ?_) | (refine Mine.ite_no (by decide +kernel) ?_) | (refine Mine.ite_yes (by decide +kernel) ?_)))
  trivial
/-! ## R11 -/
section
noncomputable def wcs : Str := Str.ofString "abcdfeghijklmnopqrstuvwxyzABCDEFGHIJKLMNOPQRSTUVWXYZ0123456789_ßàáâãäåæçèéêëìíîïðñòóôõöøùúûüýþÿÀÁÂÃÄÅÆÇÈÉÊËÌÍÎÏÐÑÒÓÔÕÖØÙÚÛÜÝÞ"
noncomputable abbrev lexD (w : World) (κ ν : Nat → Tok) (I D1 D2 : Addr) (st : Value) (ln : Int) (lt : Tok) (tok : Str) (tt : Tok) : Obj := dictOf [ent w "instream" (κ 0) (.ref I), ent w "infile" (κ 1) .none, ent w "posix" (κ 2) (.bool true), ent w "eof" (κ 3) .none, ent w "commenters" (κ 4) (.str (Str.ofString "#") (ν 4)), ent w "wordchars" (κ 5) (.str (Str.ofString "abcdfeghijklmnopqrstuvwxyzABCDEFGHIJKLMNOPQRSTUVWXYZ0123456789_ßàáâãäåæçèéêëìíîïðñòóôõöøùúûüýþÿÀÁÂÃÄÅÆÇÈÉÊËÌÍÎÏÐÑÒÓÔÕÖØÙÚÛÜÝÞ") (ν 5)), ent w "whitespace" (κ 6) (.str (Str.ofString " \t\r\n") (ν 6)), ent w "whitespace_split" (κ 7) (.bool true), ent w "quotes" (κ 8) (.str (Str.ofString "'\"") (ν 8)), ent w "escape" (κ 9) (.str (Str.ofString "\\") (ν 9)), ent w "escapedquotes" (κ 10) (.str (Str.ofString "\"") (ν 10)), ent w "state" (κ 11) st, ent w "pushback" (κ 12) (.ref D1), ent w "lineno" (κ 13) (.int ln lt), ent w "debug" (κ 14) (.int 0 (ν 14)), ent w "token" (κ 15) (.str tok tt), ent w "filestack" (κ 16) (.ref D2), ent w "source" (κ 17) .none, ent w "_punctuation_chars" (κ 18) (.str (Str.ofString "") (ν 18))] 19
theorem ax_instream (w : World) : AttrFact (Mine.hd.heap_1_39 w.params) 854 (Str.ofString "instream") := ⟨by k_is, by k_is, _, by k_is, by k_is⟩
theorem ax_posix (w : World) : AttrFact (Mine.hd.heap_1_39 w.params) 854 (Str.ofString "posix") := ⟨by k_is, by k_is, _, by k_is, by k_is⟩
theorem ax_eof (w : World) : AttrFact (Mine.hd.heap_1_39 w.params) 854 (Str.ofString "eof") := ⟨by k_is, by k_is, _, by k_is, by k_is⟩
theorem ax_commenters (w : World) : AttrFact (Mine.hd.heap_1_39 w.params) 854 (Str.ofString "commenters") := ⟨by k_is, by k_is, _, by k_is, by k_is⟩
theorem ax_wordchars (w : World) : AttrFact (Mine.hd.heap_1_39 w.params) 854 (Str.ofString "wordchars") := ⟨by k_is, by k_is, _, by k_is, by k_is⟩
theorem ax_whitespace (w : World) : AttrFact (Mine.hd.heap_1_39 w.params) 854 (Str.ofString "whitespace") := ⟨by k_is, by k_is, _, by k_is, by k_is⟩
theorem ax_whitespace_split (w : World) : AttrFact (Mine.hd.heap_1_39 w.params) 854 (Str.ofString "whitespace_split") := ⟨by k_is, by k_is, _, by k_is, by k_is⟩
theorem ax_quotes (w : World) : AttrFact (Mine.hd.heap_1_39 w.params) 854 (Str.ofString "quotes") := ⟨by k_is, by k_is, _, by k_is, by k_is⟩
theorem ax_escape (w : World) : AttrFact (Mine.hd.heap_1_39 w.params) 854 (Str.ofString "escape") := ⟨by k_is, by k_is, _, by k_is, by k_is⟩
theorem ax_escapedquotes (w : World) : AttrFact (Mine.hd.heap_1_39 w.params) 854 (Str.ofString "escapedquotes") := ⟨by k_is, by k_is, _, by k_is, by k_is⟩
theorem ax_state (w : World) : AttrFact (Mine.hd.heap_1_39 w.params) 854 (Str.ofString "state") := ⟨by k_is, by k_is, _, by k_is, by k_is⟩
theorem ax_pushback (w : World) : AttrFact (Mine.hd.heap_1_39 w.params) 854 (Str.ofString "pushback") := ⟨by k_is, by k_is, _, by k_is, by k_is⟩
theorem ax_lineno (w : World) : AttrFact (Mine.hd.heap_1_39 w.params) 854 (Str.ofString "lineno") := ⟨by k_is, by k_is, _, by k_is, by k_is⟩
theorem ax_debug (w : World) : AttrFact (Mine.hd.heap_1_39 w.params) 854 (Str.ofString "debug") := ⟨by k_is, by k_is, _, by k_is, by k_is⟩
theorem ax_token (w : World) : AttrFact (Mine.hd.heap_1_39 w.params) 854 (Str.ofString "token") := ⟨by k_is, by k_is, _, by k_is, by k_is⟩
theorem ax_filestack (w : World) : AttrFact (Mine.hd.heap_1_39 w.params) 854 (Str.ofString "filestack") := ⟨by k_is, by k_is, _, by k_is, by k_is⟩
theorem ax_source (w : World) : AttrFact (Mine.hd.heap_1_39 w.params) 854 (Str.ofString "source") := ⟨by k_is, by k_is, _, by k_is, by k_is⟩
theorem ax_punctuation_chars (w : World) : AttrFact (Mine.hd.heap_1_39 w.params) 854 (Str.ofString "_punctuation_chars") := ⟨by k_is, by k_is, _, by k_is, by k_is⟩
theorem ox_instream {w : World} {κ ν : Nat → Tok} {I D1 D2 : Addr} {st : Value} {ln : Int} {lt tt : Tok} {tok : Str} : OwnVal (Str.ofString "instream") (lexD w κ ν I D1 D2 st ln lt tok tt) (.ref I) := ⟨_, _, rfl, rfl, rfl⟩
theorem ox_posix {w : World} {κ ν : Nat → Tok} {I D1 D2 : Addr} {st : Value} {ln : Int} {lt tt : Tok} {tok : Str} : OwnVal (Str.ofString "posix") (lexD w κ ν I D1 D2 st ln lt tok tt) (.bool true) := ⟨_, _, rfl, rfl, rfl⟩
theorem ox_eof {w : World} {κ ν : Nat → Tok} {I D1 D2 : Addr} {st : Value} {ln : Int} {lt tt : Tok} {tok : Str} : OwnVal (Str.ofString "eof") (lexD w κ ν I D1 D2 st ln lt tok tt) .none := ⟨_, _, rfl, rfl, rfl⟩
theorem ox_commenters {w : World} {κ ν : Nat → Tok} {I D1 D2 : Addr} {st : Value} {ln : Int} {lt tt : Tok} {tok : Str} : OwnVal (Str.ofString "commenters") (lexD w κ ν I D1 D2 st ln lt tok tt) (.str (Str.ofString "#") (ν 4)) := ⟨_, _, rfl, rfl, rfl⟩
theorem ox_wordchars {w : World} {κ ν : Nat → Tok} {I D1 D2 : Addr} {st : Value} {ln : Int} {lt tt : Tok} {tok : Str} : OwnVal (Str.ofString "wordchars") (lexD w κ ν I D1 D2 st ln lt tok tt) (.str (Str.ofString "abcdfeghijklmnopqrstuvwxyzABCDEFGHIJKLMNOPQRSTUVWXYZ0123456789_ßàáâãäåæçèéêëìíîïðñòóôõöøùúûüýþÿÀÁÂÃÄÅÆÇÈÉÊËÌÍÎÏÐÑÒÓÔÕÖØÙÚÛÜÝÞ") (ν 5)) := ⟨_, _, rfl, rfl, rfl⟩
theorem ox_whitespace {w : World} {κ ν : Nat → Tok} {I D1 D2 : Addr} {st : Value} {ln : Int} {lt tt : Tok} {tok : Str} : OwnVal (Str.ofString "whitespace") (lexD w κ ν I D1 D2 st ln lt tok tt) (.str (Str.ofString " \t\r\n") (ν 6)) := ⟨_, _, rfl, rfl, rfl⟩
theorem ox_whitespace_split {w : World} {κ ν : Nat → Tok} {I D1 D2 : Addr} {st : Value} {ln : Int} {lt tt : Tok} {tok : Str} : OwnVal (Str.ofString "whitespace_split") (lexD w κ ν I D1 D2 st ln lt tok tt) (.bool true) := ⟨_, _, rfl, rfl, rfl⟩
theorem ox_quotes {w : World} {κ ν : Nat → Tok} {I D1 D2 : Addr} {st : Value} {ln : Int} {lt tt : Tok} {tok : Str} : OwnVal (Str.ofString "quotes") (lexD w κ ν I D1 D2 st ln lt tok tt) (.str (Str.ofString "'\"") (ν 8)) := ⟨_, _, rfl, rfl, rfl⟩
theorem ox_escape {w : World} {κ ν : Nat → Tok} {I D1 D2 : Addr} {st : Value} {ln : Int} {lt tt : Tok} {tok : Str} : OwnVal (Str.ofString "escape") (lexD w κ ν I D1 D2 st ln lt tok tt) (.str (Str.ofString "\\") (ν 9)) := ⟨_, _, rfl, rfl, rfl⟩
theorem ox_escapedquotes {w : World} {κ ν : Nat → Tok} {I D1 D2 : Addr} {st : Value} {ln : Int} {lt tt : Tok} {tok : Str} : OwnVal (Str.ofString "escapedquotes") (lexD w κ ν I D1 D2 st ln lt tok tt) (.str (Str.ofString "\"") (ν 10)) := ⟨_, _, rfl, rfl, rfl⟩
theorem ox_state {w : World} {κ ν : Nat → Tok} {I D1 D2 : Addr} {st : Value} {ln : Int} {lt tt : Tok} {tok : Str} (hh : handedIn st = true) : OwnVal (Str.ofString "state") (lexD w κ ν I D1 D2 st ln lt tok tt) st := ⟨_, _, rfl, rfl, hh⟩
theorem ox_pushback {w : World} {κ ν : Nat → Tok} {I D1 D2 : Addr} {st : Value} {ln : Int} {lt tt : Tok} {tok : Str} : OwnVal (Str.ofString "pushback") (lexD w κ ν I D1 D2 st ln lt tok tt) (.ref D1) := ⟨_, _, rfl, rfl, rfl⟩
theorem ox_lineno {w : World} {κ ν : Nat → Tok} {I D1 D2 : Addr} {st : Value} {ln : Int} {lt tt : Tok} {tok : Str} : OwnVal (Str.ofString "lineno") (lexD w κ ν I D1 D2 st ln lt tok tt) (.int ln lt) := ⟨_, _, rfl, rfl, rfl⟩
theorem ox_debug {w : World} {κ ν : Nat → Tok} {I D1 D2 : Addr} {st : Value} {ln : Int} {lt tt : Tok} {tok : Str} : OwnVal (Str.ofString "debug") (lexD w κ ν I D1 D2 st ln lt tok tt) (.int 0 (ν 14)) := ⟨_, _, rfl, rfl, rfl⟩
theorem ox_token {w : World} {κ ν : Nat → Tok} {I D1 D2 : Addr} {st : Value} {ln : Int} {lt tt : Tok} {tok : Str} : OwnVal (Str.ofString "token") (lexD w κ ν I D1 D2 st ln lt tok tt) (.str tok tt) := ⟨_, _, rfl, rfl, rfl⟩
theorem ox_filestack {w : World} {κ ν : Nat → Tok} {I D1 D2 : Addr} {st : Value} {ln : Int} {lt tt : Tok} {tok : Str} : OwnVal (Str.ofString "filestack") (lexD w κ ν I D1 D2 st ln lt tok tt) (.ref D2) := ⟨_, _, rfl, rfl, rfl⟩
theorem ox_source {w : World} {κ ν : Nat → Tok} {I D1 D2 : Addr} {st : Value} {ln : Int} {lt tt : Tok} {tok : Str} : OwnVal (Str.ofString "source") (lexD w κ ν I D1 D2 st ln lt tok tt) .none := ⟨_, _, rfl, rfl, rfl⟩
theorem ox_punctuation_chars {w : World} {κ ν : Nat → Tok} {I D1 D2 : Addr} {st : Value} {ln : Int} {lt tt : Tok} {tok : Str} : OwnVal (Str.ofString "_punctuation_chars") (lexD w κ ν I D1 D2 st ln lt tok tt) (.str (Str.ofString "") (ν 18)) := ⟨_, _, rfl, rfl, rfl⟩
theorem px_state {w : World} {κ ν : Nat → Tok} {I D1 D2 : Addr} {st : Value} {ln : Int} {lt tt : Tok} {tok : Str} {st2 : Value} : PutVal w (Str.ofString "state") st2 (lexD w κ ν I D1 D2 st ln lt tok tt) (lexD w κ ν I D1 D2 st2 ln lt tok tt) := ⟨_, _, _, _, rfl, rfl, rfl, Nat.le_of_ble_eq_true rfl, fun _ => rfl⟩
theorem sx_state (w : World) : SetFact (Mine.hd.heap_1_39 w.params) 854 (Str.ofString "state") := ⟨by k_is, by k_is, by k_is, by k_is⟩
theorem px_lineno {w : World} {κ ν : Nat → Tok} {I D1 D2 : Addr} {st : Value} {ln : Int} {lt tt : Tok} {tok : Str} {ln2 : Int} {lt2 : Tok} : PutVal w (Str.ofString "lineno") (.int ln2 lt2) (lexD w κ ν I D1 D2 st ln lt tok tt) (lexD w κ ν I D1 D2 st ln2 lt2 tok tt) := ⟨_, _, _, _, rfl, rfl, rfl, Nat.le_of_ble_eq_true rfl, fun _ => rfl⟩
theorem sx_lineno (w : World) : SetFact (Mine.hd.heap_1_39 w.params) 854 (Str.ofString "lineno") := ⟨by k_is, by k_is, by k_is, by k_is⟩
theorem px_token {w : World} {κ ν : Nat → Tok} {I D1 D2 : Addr} {st : Value} {ln : Int} {lt tt : Tok} {tok : Str} {tok2 : Str} {tt2 : Tok} : PutVal w (Str.ofString "token") (.str tok2 tt2) (lexD w κ ν I D1 D2 st ln lt tok tt) (lexD w κ ν I D1 D2 st ln lt tok2 tt2) := ⟨_, _, _, _, rfl, rfl, rfl, Nat.le_of_ble_eq_true rfl, fun _ => rfl⟩
theorem sx_token (w : World) : SetFact (Mine.hd.heap_1_39 w.params) 854 (Str.ofString "token") := ⟨by k_is, by k_is, by k_is, by k_is⟩
inductive RtAt (w : World) (s : Shared) (g : Heap) (L : Addr) (κ ν : Nat → Tok) (x dx I dI D1 D2 : Addr) (tx : Str) (t k1 k2 k3 : Tok) (cs : List Nat) (ls : LS) (tok : Str) (q : Bool) : Shared → Prop
  | intro (h : Heap) (tk : Nat) (p : Int) (st : Tok) (ln : Int) (lt tt k4 : Tok) (b : Str → Option Value) (te : Tok) (F : Fr g L h (fun y => if y = Str.ofString "quoted" then some (.bool q) else if y = Str.ofString "escapedstate" then some (.str (Str.ofString " ") te) else if y = Str.ofString "self" then some (.ref x) else b y)) (N : News g L h [(x, instObj 854 dx), (dx, lexD w κ ν I D1 D2 (lsVal ls st) ln lt tok tt), (I, instObj 719 dI), (dI, sioD w tx t p k1 k2 k3 k4), (D1, dqObj), (D2, dqObj)]) (hd : tx.cps.toList.drop p.toNat = cs) (hp : (0 : Int) ≤ p) : RtAt w s g L κ ν x dx I dI D1 D2 tx t k1 k2 k3 cs ls tok q { s with heap := h, toks := tk }
theorem RtAt.mk {w : World} {s : Shared} {g h : Heap} {L : Addr} {κ ν : Nat → Tok} {x dx I dI D1 D2 : Addr} {tx : Str} {t k1 k2 k3 lt tt k4 : Tok} {cs : List Nat} {ls : LS} {tok : Str} {q : Bool} {tk : Nat} {p : Int} {st te : Tok} {ln : Int} {b : Str → Option Value} (F : Fr g L h (fun y => if y = Str.ofString "quoted" then some (.bool q) else if y = Str.ofString "escapedstate" then some (.str (Str.ofString " ") te) else if y = Str.ofString "self" then some (.ref x) else b y)) (N : News g L h [(x, instObj 854 dx), (dx, lexD w κ ν I D1 D2 (lsVal ls st) ln lt tok tt), (I, instObj 719 dI), (dI, sioD w tx t p k1 k2 k3 k4), (D1, dqObj), (D2, dqObj)]) (hd : tx.cps.toList.drop p.toNat = cs) (hp : (0 : Int) ≤ p) : RtAt w s g L κ ν x dx I dI D1 D2 tx t k1 k2 k3 cs ls tok q { s with heap := h, toks := tk } :=
  .intro h tk p st ln lt tt k4 b te F N hd hp
theorem words8 : True := by
  k_with "eval Attribute Name" => ((k_here; k_dflt (refine' Mine.own_attr ?k1_an ?k2_an ?k3_an ?ks_an ?m1_an ?m2_an ?hl_an ?hf_an ?_ ?kk_an ?kx_an ?kd_an; (case k1_an => k_asm); (case k2_an => k_asm); (case k3_an => k_asm); (case ks_an => exact rfl); (case m1_an => k_mem); (case m2_an => k_mem); (case kk_an => exact rfl); (case kx_an => exact rfl); (case kd_an => decide); (case hl_an => first | (with_reducible exact Mine.ox_instream) | (with_reducible exact Mine.ox_posix) | (with_reducible exact Mine.ox_eof) | (with_reducible exact Mine.ox_commenters) | (with_reducible exact Mine.ox_wordchars) | (with_reducible exact Mine.ox_whitespace) | (with_reducible exact Mine.ox_whitespace_split) | (with_reducible exact Mine.ox_quotes) | (with_reducible exact Mine.ox_escape) | (with_reducible exact Mine.ox_escapedquotes) | (with_reducible exact Mine.ox_state rfl) | (with_reducible exact Mine.ox_pushback) | (with_reducible exact Mine.ox_lineno) | (with_reducible exact Mine.ox_debug) | (with_reducible exact Mine.ox_token) | (with_reducible exact Mine.ox_filestack) | (with_reducible exact Mine.ox_source) | (with_reducible exact Mine.ox_punctuation_chars) | (with_reducible exact Mine.ov_newline) | (with_reducible exact Mine.ov_buf) | (with_reducible exact Mine.ov_pos)); (case hf_an => first | (with_reducible exact Mine.ax_instream _) | (with_reducible exact Mine.ax_posix _) | (with_reducible exact Mine.ax_eof _) | (with_reducible exact Mine.ax_commenters _) | (with_reducible exact Mine.ax_wordchars _) | (with_reducible exact Mine.ax_whitespace _) | (with_reducible exact Mine.ax_whitespace_split _) | (with_reducible exact Mine.ax_quotes _) | (with_reducible exact Mine.ax_escape _) | (with_reducible exact Mine.ax_escapedquotes _) | (with_reducible exact Mine.ax_state _) | (with_reducible exact Mine.ax_pushback _) | (with_reducible exact Mine.ax_lineno _) | (with_reducible exact Mine.ax_debug _) | (with_reducible exact Mine.ax_token _) | (with_reducible exact Mine.ax_filestack _) | (with_reducible exact Mine.ax_source _) | (with_reducible exact Mine.ax_punctuation_chars _) | (with_reducible exact Mine.af_newline _) | (with_reducible exact Mine.af_buf _) | (with_reducible exact Mine.af_pos _)); k_whole)))
  k_with "setAttr ref" => ((k_here; k_dflt (refine' Mine.own_set ?k1_sn ?k2_sn ?k3_sn ?m1_sn ?m2_sn ?hp_sn ?hf_sn ?U_sn ?_; (case k1_sn => k_asm); (case k2_sn => k_asm); (case k3_sn => k_asm); (case m1_sn => k_mem); (case m2_sn => k_mem); (case hp_sn => first | (with_reducible exact Mine.px_state) | (with_reducible exact Mine.px_lineno) | (with_reducible exact Mine.px_token) | (with_reducible exact Mine.pv_pos)); (case hf_sn => first | (with_reducible exact Mine.sx_state _) | (with_reducible exact Mine.sx_lineno _) | (with_reducible exact Mine.sx_token _) | (with_reducible exact Mine.sf_pos _)); (case U_sn => k_upd); k_whole); intro h'z F'z N'z; (try k_sweep)))
  trivial
/-- the part of the loop's body that every state shares is walked once -/
theorem cut3 {M : Model} {A : Around} {env : Env} {a b c : Stmt} {rest : List Stmt} {Q : Flow → Shared → Prop} {E : Value → Shared → Prop} {s : Shared} (Mid : Shared → Prop)
    (h1 : wpAny M A (exec a env) (fun f s' => match f with | .next => wpAny M A (exec b env) (fun f s' => match f with | .next => wpAny M A (exec c env) (fun f s' => Keep (f = Flow.next ∧ Mid s')) E s' | _ => False) E s' | _ => False) E s)
    (h2 : ∀ s', Mid s' → wpAny M A (execs rest env) Q E s') : wpAny M A (execs (a :: b :: c :: rest) env) Q E s := by
  refine wpAny_execs_cons (wpAny_mono h1 (fun f s' h => ?_) (fun _ _ e => e))
  cases f with
  | next =>
    refine wpAny_execs_cons (wpAny_mono h (fun f s' h => ?_) (fun _ _ e => e))
    cases f with
    | next =>
      refine wpAny_execs_cons (wpAny_mono h (fun f s' h => ?_) (fun _ _ e => e))
      obtain ⟨rfl, hm⟩ := h
      exact h2 _ hm
    | _ => exact h.elim
  | _ => exact h.elim
inductive RtMid (w : World) (s : Shared) (g : Heap) (L : Addr) (κ ν : Nat → Tok) (x dx I dI D1 D2 : Addr) (tx : Str) (t k1 k2 k3 : Tok) (nc : Str) (cs : List Nat) (ls : LS) (tok : Str) (q : Bool) : Shared → Prop
  | intro (h : Heap) (tk : Nat) (p : Int) (st : Tok) (ln : Int) (lt tt k4 : Tok) (b : Str → Option Value) (te tn : Tok) (F : Fr g L h (fun y => if y = Str.ofString "nextchar" then some (.str nc tn) else if y = Str.ofString "quoted" then some (.bool q) else if y = Str.ofString "escapedstate" then some (.str (Str.ofString " ") te) else if y = Str.ofString "self" then some (.ref x) else b y)) (N : News g L h [(x, instObj 854 dx), (dx, lexD w κ ν I D1 D2 (lsVal ls st) ln lt tok tt), (I, instObj 719 dI), (dI, sioD w tx t p k1 k2 k3 k4), (D1, dqObj), (D2, dqObj)]) (hd : tx.cps.toList.drop p.toNat = cs) (hp : (0 : Int) ≤ p) : RtMid w s g L κ ν x dx I dI D1 D2 tx t k1 k2 k3 nc cs ls tok q { s with heap := h, toks := tk }
theorem RtMid.mk {w : World} {s : Shared} {g h : Heap} {L : Addr} {κ ν : Nat → Tok} {x dx I dI D1 D2 : Addr} {tx : Str} {t k1 k2 k3 lt tt k4 : Tok} {cs : List Nat} {ls : LS} {tok : Str} {q : Bool} {tk : Nat} {p : Int} {st te tn : Tok} {nc : Str} {ln : Int} {b : Str → Option Value} (F : Fr g L h (fun y => if y = Str.ofString "nextchar" then some (.str nc tn) else if y = Str.ofString "quoted" then some (.bool q) else if y = Str.ofString "escapedstate" then some (.str (Str.ofString " ") te) else if y = Str.ofString "self" then some (.ref x) else b y)) (N : News g L h [(x, instObj 854 dx), (dx, lexD w κ ν I D1 D2 (lsVal ls st) ln lt tok tt), (I, instObj 719 dI), (dI, sioD w tx t p k1 k2 k3 k4), (D1, dqObj), (D2, dqObj)]) (hd : tx.cps.toList.drop p.toNat = cs) (hp : (0 : Int) ≤ p) : RtMid w s g L κ ν x dx I dI D1 D2 tx t k1 k2 k3 nc cs ls tok q { s with heap := h, toks := tk } :=
  .intro h tk p st ln lt tt k4 b te tn F N hd hp
theorem drop_cons {l cs : List Nat} {n c : Nat} (h : l.drop n = c :: cs) : l[n]? = some c ∧ l.drop (n + 1) = cs := by
  have h1 : l[n]? = some c := by
    have := congrArg List.head? h
    simpa [List.head?_drop] using this
  refine ⟨h1, ?_⟩
  have := congrArg List.tail h
  simpa [List.tail_drop] using this
theorem ch_ne {c d : Nat} {y : Str} (e : chS d = y) (h : c ≠ d) : ¬ (chS c == y) = true := by
  subst e
  intro h2
  have h3 := eq_of_beq h2
  exact h (by simpa [chS] using h3)
theorem drop_nil {l : List Nat} {n : Nat} (h : l.drop n = []) : l.length ≤ n := by simpa using h
set_option maxRecDepth 100000 in
set_option maxHeartbeats 8000000 in
theorem rt_spec {w : World} {mean : ExcName → Option Value} {mg mb : Str → Option Value}
    {dp un : Nat} {gd : Option (List Code)} {cn : Str} {cs : Scope} {a : Addr} {ccd : Value} {cl : List (Str × Addr)} {outer : List Env} {A₀ : Around} {base h₀ : Heap} {L : Addr} {m : Str → Option Value} {s : Shared} {Q E : Value → Shared → Prop} {κ ν : Nat → Tok} {x dx I dI D1 D2 : Addr} {tx : Str} {t k1 k2 k3 k4 lt tt st0 : Tok} {p ln : Int} {cs0 : List Nat} {ls0 : LS} {fin : Str × Bool × LS × List Nat}
    (B : Below A₀ base outer h₀) (F : Fr h₀ L s.heap m) (X : (Mine.hd.heap_1_39 w.params).In h₀) (N : News h₀ L s.heap [(x, instObj 854 dx), (dx, lexD w κ ν I D1 D2 (lsVal ls0 st0) ln lt (Str.ofString "") tt), (I, instObj 719 dI), (dI, sioD w tx t p k1 k2 k3 k4), (D1, dqObj), (D2, dqObj)]) (T : (Top Mine.hd.view_1_40 (looseW Mine.hd.view_1_40 [Str.ofString "check_arg_types_genericpath", Str.ofString "join_posixpath", Str.ofString "_twin_re_1", Str.ofString "UnsupportedOperation", Str.ofString "IOBase", Str.ofString "BufferedIOBase", Str.ofString "TextIOBase", Str.ofString "BytesIO", Str.ofString "StringIO", Str.ofString "check_arg_types_path", Str.ofString "join_path", Str.ofString "shlex", Str.ofString "split", Str.ofString "_find_unsafe"]) mean mg mb h₀)) (hk : cs.kind = .function)
    (hd : dp + 12 < recursionLimit) (hu : un + 84 < cLine) (hx : tx.length ≤ 100000) (hp0 : 0 ≤ p) (hcs : tx.cps.toList.drop p.toNat = cs0) (hnl : ∀ c ∈ tx.cps.toList, c ≠ 10) (hlen : cs0.length ≤ 100000) (hr : rtF cs0 ls0 (Str.ofString "") false = some fin)
    (o1 : @LT.lt Nat _ dx x) (o2 : @LT.lt Nat _ x dI) (o3 : @LT.lt Nat _ dI I) (o4 : @LT.lt Nat _ I D1) (o5 : @LT.lt Nat _ D1 D2)
    (hret : ∀ (v : Value) (p' : Int) (st' lt' tt' k4' tv : Tok) (ln' : Int) (h' : Heap) (tk' : Nat), v = (if fin.1.length = 0 ∧ fin.2.1 = false then Value.none else Value.str fin.1 tv) → Fr h₀ L h' m →
      News h₀ L h' [(x, instObj 854 dx), (dx, lexD w κ ν I D1 D2 (lsVal fin.2.2.1 st') ln' lt' (Str.ofString "") tt'), (I, instObj 719 dI), (dI, sioD w tx t p' k1 k2 k3 k4'), (D1, dqObj), (D2, dqObj)] → tx.cps.toList.drop p'.toNat = fin.2.2.2 → 0 ≤ p' → Q v { s with heap := h', toks := tk' }) :
    wpAny (model PySem.Challenge.rw_ik0143_01.row.prog w) (ktrTop dp un gd cn cs L a ccd cl outer) (call (.ref 822) [.ref x]) Q E s := by
  refine wpAny_call ?_
  k_dflt (refine' code_defG B F X N T ?kA ?kF ?kK ?k6 ?k7 ?k8 ?k9 ?kB ?_ ?c2 ?c3 ?c4 ?c5; (case kA => exact rfl); (case kF => exact rfl); (case kK => exact hk); (case k6 => k_is); (case k7 => k_is); (case k8 => ktr_room); (case k9 => first | exact BindsTo.of_eq rfl | exact binds_K (by k_in) rfl (by k_is) rfl rfl rfl); (case c5 => decide); (case kB => exact locs rfl); (case c2 => exact rfl); (case c3 => exact rfl); (case c4 => exact rfl); k_whole; intro g' L' h' FG' F' N' B' X' T' kG'; (try (refine Mine.fold_e ?_; intro ev ar qk ek sk)))
  repeat' (first | (k_unfold; (try dsimp only)) | ((fail_if_success (with_reducible show wpAny _ _ (exec (Stmt.While _ _ _ _) _) _ _ _)); walk1) | ((fail_if_success (with_reducible show wpAny _ _ (exec (Stmt.While _ _ _ _) _) _ _ _)); dsimp only; walk1))
  rename (Fr g' L' _ _) => FF
  rename (News g' L' _ _) => NN
  refine wpAny_mono (Q := fun f s' => Keep (f = Flow.next ∧ RtAt w s g' L' κ ν x dx I dI D1 D2 tx t k1 k2 k3 fin.2.2.2 fin.2.2.1 fin.1 fin.2.1 s')) ?_ ?_ (fun _ _ e => e)
  · refine whl_inv (ι := List Nat × LS × Str × Bool) (fun i => i.1.length) (fun i s' => RtAt w s g' L' κ ν x dx I dI D1 D2 tx t k1 k2 k3 i.1 i.2.1 i.2.2.1 i.2.2.2 s' ∧ i.2.2.1.length + i.1.length ≤ 100000 ∧ rtF i.1 i.2.1 i.2.2.1 i.2.2.2 = some fin) (by first | passes_own | with_unfolding_all passes_own) ?_ (cs0, ls0, Str.ofString "", false) _ ⟨RtAt.mk (Fr.eq FF (by first | exact Mine.see_go (Mine.see_cons (by with_unfolding_all rfl) (Mine.see_cons (by with_unfolding_all rfl) (Mine.see_cons (by with_unfolding_all rfl) ((by repeat (first | exact Mine.see_refl | refine Mine.see_off (by k_mem) ?_ | refine Mine.see_cons (by with_unfolding_all rfl) ?_)))))) | exact Eq.symm (Mine.see_go (Mine.see_cons (by with_unfolding_all rfl) (Mine.see_cons (by with_unfolding_all rfl) (Mine.see_cons (by with_unfolding_all rfl) ((by repeat (first | exact Mine.see_refl | refine Mine.see_off (by k_mem) ?_ | refine Mine.see_cons (by with_unfolding_all rfl) ?_))))))))) NN hcs hp0, ?_, hr⟩
    · rintro ⟨cs, ls, tok, q⟩ s' ⟨⟨h, tk, p, st, ln, lt, tt, k4, b, te, F1, N1, hd1, hp1⟩, hl1, hr1⟩
      dsimp only at F1 N1 hd1 hl1 hr1
      clear FF NN hcs hp0 hr
      have htk : tok.length ≤ 1048576 := by omega
      repeat' (first | ((fail_if_success (fail_if_success k_unfold)); first | (with_reducible refine (?_ : wpAny _ _ _ _ _ _)) | (with_reducible refine (?_ : LeaveK _ _ _ _ _ _ _))) | (k_unfold; (try dsimp only)) | ((fail_if_success (fail_if_success k_fold)); (with_reducible refine Mine.fold_q ?_); intro qk ek sk; (try ((with_reducible rename Fr _ _ _ _ => kF); (fail_if_success (have := Mine.pin_chk kF (by with_reducible assumption))); (refine Mine.pin_m kF ?_); intro mk kF9 pk; (try clear kF); (with_reducible rename News _ _ _ _ => kN); (refine Mine.pin_N kN ?_); intro nk kN9; (try clear kN)))) | ((fail_if_success (with_reducible show wpAny _ _ (execs _ _) _ _ _)); walk1) | ((fail_if_success (with_reducible show wpAny _ _ (execs _ _) _ _ _)); dsimp only; walk1) | (leave1; walk_say "STEP leave1"; try dsimp only) | fail "no step")
      cases cs with
      | nil =>
        refine cut3 (fun s' => RtMid w s g' L' κ ν x dx I dI D1 D2 tx t k1 k2 k3 (Str.ofString "") [] ls tok q s') ?_ ?_
        · have hpe : (tx.length : Int) ≤ p := by
            have h1 := drop_nil hd1
            have h2 : tx.length = tx.cps.toList.length := by rw [Array.length_toList]; rfl
            omega
          repeat' (first | ((fail_if_success (fail_if_success k_unfold)); first | (with_reducible refine (?_ : wpAny _ _ _ _ _ _)) | (with_reducible refine (?_ : LeaveK _ _ _ _ _ _ _))) | (k_unfold; (try dsimp only)) | ((fail_if_success (fail_if_success k_fold)); (with_reducible refine Mine.fold_q ?_); intro qk ek sk; (try ((with_reducible rename Fr _ _ _ _ => kF); (fail_if_success (have := Mine.pin_chk kF (by with_reducible assumption))); (refine Mine.pin_m kF ?_); intro mk kF9 pk; (try clear kF); (with_reducible rename News _ _ _ _ => kN); (refine Mine.pin_N kN ?_); intro nk kN9; (try clear kN)))) | walk1 | (dsimp only; walk1) | (leave1; walk_say "STEP leave1"; try dsimp only) | fail "no step")
          all_goals ((rename (Fr g' L' _ _) => F9); (rename (News g' L' _ _) => N9); exact ⟨rfl, RtMid.mk (p := p) (st := st) (Fr.eq F9 (by first | exact Mine.see_go (Mine.see_cons (by with_unfolding_all rfl) (Mine.see_cons (by with_unfolding_all rfl) (Mine.see_cons (by with_unfolding_all rfl) (Mine.see_cons (by with_unfolding_all rfl) ((by repeat (first | exact Mine.see_refl | refine Mine.see_off (by k_mem) ?_ | refine Mine.see_cons (by with_unfolding_all rfl) ?_))))))) | exact Eq.symm (Mine.see_go (Mine.see_cons (by with_unfolding_all rfl) (Mine.see_cons (by with_unfolding_all rfl) (Mine.see_cons (by with_unfolding_all rfl) (Mine.see_cons (by with_unfolding_all rfl) ((by repeat (first | exact Mine.see_refl | refine Mine.see_off (by k_mem) ?_ | refine Mine.see_cons (by with_unfolding_all rfl) ?_)))))))))) (by first | exact N9 | exact fun p hp => N9 p (List.mem_cons_of_mem _ hp)) hd1 (by omega)⟩)
        clear F1 N1 hd1 hp1
        rintro _ ⟨h, tk, p, st, ln, lt, tt, k4, b, te, tn, F1, N1, hd1, hp1⟩
        cases ls with
        | q1 => simp [rtF] at hr1
        | q2 => simp [rtF] at hr1
        | s0 =>
          dsimp only [lsVal] at N1
          obtain rfl : _ = fin := by simpa [rtF] using hr1
          repeat' (first | ((fail_if_success (fail_if_success k_unfold)); first | (with_reducible refine (?_ : wpAny _ _ _ _ _ _)) | (with_reducible refine (?_ : LeaveK _ _ _ _ _ _ _))) | (k_unfold; (try dsimp only)) | ((fail_if_success (fail_if_success k_fold)); (with_reducible refine Mine.fold_q ?_); intro qk ek sk; (try ((with_reducible rename Fr _ _ _ _ => kF); (fail_if_success (have := Mine.pin_chk kF (by with_reducible assumption))); (refine Mine.pin_m kF ?_); intro mk kF9 pk; (try clear kF); (with_reducible rename News _ _ _ _ => kN); (refine Mine.pin_N kN ?_); intro nk kN9; (try clear kN)))) | walk1 | (dsimp only; walk1) | (leave1; walk_say "STEP leave1"; try dsimp only) | fail "no step")
          all_goals ((rename (Fr g' L' _ _) => F9); (rename (News g' L' _ _) => N9); exact ⟨rfl, RtAt.mk (st := st) (Fr.eq F9 (by first | exact Mine.see_go (Mine.see_cons (by with_unfolding_all rfl) (Mine.see_cons (by with_unfolding_all rfl) (Mine.see_cons (by with_unfolding_all rfl) ((by repeat (first | exact Mine.see_refl | refine Mine.see_off (by k_mem) ?_ | refine Mine.see_cons (by with_unfolding_all rfl) ?_)))))) | exact Eq.symm (Mine.see_go (Mine.see_cons (by with_unfolding_all rfl) (Mine.see_cons (by with_unfolding_all rfl) (Mine.see_cons (by with_unfolding_all rfl) ((by repeat (first | exact Mine.see_refl | refine Mine.see_off (by k_mem) ?_ | refine Mine.see_cons (by with_unfolding_all rfl) ?_))))))))) (by first | exact N9 | exact fun p hp => N9 p (List.mem_cons_of_mem _ hp)) hd1 hp1⟩)
        | a =>
          dsimp only [lsVal] at N1
          obtain rfl : _ = fin := by simpa [rtF] using hr1
          repeat' (first | ((fail_if_success (fail_if_success k_unfold)); first | (with_reducible refine (?_ : wpAny _ _ _ _ _ _)) | (with_reducible refine (?_ : LeaveK _ _ _ _ _ _ _))) | (k_unfold; (try dsimp only)) | ((fail_if_success (fail_if_success k_fold)); (with_reducible refine Mine.fold_q ?_); intro qk ek sk; (try ((with_reducible rename Fr _ _ _ _ => kF); (fail_if_success (have := Mine.pin_chk kF (by with_reducible assumption))); (refine Mine.pin_m kF ?_); intro mk kF9 pk; (try clear kF); (with_reducible rename News _ _ _ _ => kN); (refine Mine.pin_N kN ?_); intro nk kN9; (try clear kN)))) | walk1 | (dsimp only; walk1) | (leave1; walk_say "STEP leave1"; try dsimp only) | fail "no step")
          all_goals ((rename (Fr g' L' _ _) => F9); (rename (News g' L' _ _) => N9); exact ⟨rfl, RtAt.mk (st := st) (Fr.eq F9 (by first | exact Mine.see_go (Mine.see_cons (by with_unfolding_all rfl) (Mine.see_cons (by with_unfolding_all rfl) (Mine.see_cons (by with_unfolding_all rfl) ((by repeat (first | exact Mine.see_refl | refine Mine.see_off (by k_mem) ?_ | refine Mine.see_cons (by with_unfolding_all rfl) ?_)))))) | exact Eq.symm (Mine.see_go (Mine.see_cons (by with_unfolding_all rfl) (Mine.see_cons (by with_unfolding_all rfl) (Mine.see_cons (by with_unfolding_all rfl) ((by repeat (first | exact Mine.see_refl | refine Mine.see_off (by k_mem) ?_ | refine Mine.see_cons (by with_unfolding_all rfl) ?_))))))))) (by first | exact N9 | exact fun p hp => N9 p (List.mem_cons_of_mem _ hp)) hd1 hp1⟩)
        | e =>
          dsimp only [lsVal] at N1
          obtain rfl : _ = fin := by simpa [rtF] using hr1
          repeat' (first | ((fail_if_success (fail_if_success k_unfold)); first | (with_reducible refine (?_ : wpAny _ _ _ _ _ _)) | (with_reducible refine (?_ : LeaveK _ _ _ _ _ _ _))) | (k_unfold; (try dsimp only)) | ((fail_if_success (fail_if_success k_fold)); (with_reducible refine Mine.fold_q ?_); intro qk ek sk; (try ((with_reducible rename Fr _ _ _ _ => kF); (fail_if_success (have := Mine.pin_chk kF (by with_reducible assumption))); (refine Mine.pin_m kF ?_); intro mk kF9 pk; (try clear kF); (with_reducible rename News _ _ _ _ => kN); (refine Mine.pin_N kN ?_); intro nk kN9; (try clear kN)))) | walk1 | (dsimp only; walk1) | (leave1; walk_say "STEP leave1"; try dsimp only) | fail "no step")
          all_goals ((rename (Fr g' L' _ _) => F9); (rename (News g' L' _ _) => N9); exact ⟨rfl, RtAt.mk (st := st) (Fr.eq F9 (by first | exact Mine.see_go (Mine.see_cons (by with_unfolding_all rfl) (Mine.see_cons (by with_unfolding_all rfl) (Mine.see_cons (by with_unfolding_all rfl) ((by repeat (first | exact Mine.see_refl | refine Mine.see_off (by k_mem) ?_ | refine Mine.see_cons (by with_unfolding_all rfl) ?_)))))) | exact Eq.symm (Mine.see_go (Mine.see_cons (by with_unfolding_all rfl) (Mine.see_cons (by with_unfolding_all rfl) (Mine.see_cons (by with_unfolding_all rfl) ((by repeat (first | exact Mine.see_refl | refine Mine.see_off (by k_mem) ?_ | refine Mine.see_cons (by with_unfolding_all rfl) ?_))))))))) (by first | exact N9 | exact fun p hp => N9 p (List.mem_cons_of_mem _ hp)) hd1 hp1⟩)
      | cons c cs =>
        refine cut3 (fun s' => RtMid w s g' L' κ ν x dx I dI D1 D2 tx t k1 k2 k3 (chS c) cs ls tok q s') ?_ ?_
        · obtain ⟨hc, hd2⟩ := drop_cons hd1
          have hn1 : ¬ (chS c == Str.ofString "\n") = true := ch_ne (by decide : chS 10 = Str.ofString "\n") (hnl c (List.mem_of_getElem? hc))
          repeat' (first | ((fail_if_success (fail_if_success k_unfold)); first | (with_reducible refine (?_ : wpAny _ _ _ _ _ _)) | (with_reducible refine (?_ : LeaveK _ _ _ _ _ _ _))) | (k_unfold; (try dsimp only)) | ((fail_if_success (fail_if_success k_fold)); (with_reducible refine Mine.fold_q ?_); intro qk ek sk; (try ((with_reducible rename Fr _ _ _ _ => kF); (fail_if_success (have := Mine.pin_chk kF (by with_reducible assumption))); (refine Mine.pin_m kF ?_); intro mk kF9 pk; (try clear kF); (with_reducible rename News _ _ _ _ => kN); (refine Mine.pin_N kN ?_); intro nk kN9; (try clear kN)))) | walk1 | (dsimp only; walk1) | (leave1; walk_say "STEP leave1"; try dsimp only) | fail "no step")
          all_goals ((rename (Fr g' L' _ _) => F9); (rename (News g' L' _ _) => N9); exact ⟨rfl, RtMid.mk (p := p + 1) (st := st) (Fr.eq F9 (by first | exact Mine.see_go (Mine.see_cons (by with_unfolding_all rfl) (Mine.see_cons (by with_unfolding_all rfl) (Mine.see_cons (by with_unfolding_all rfl) (Mine.see_cons (by with_unfolding_all rfl) ((by repeat (first | exact Mine.see_refl | refine Mine.see_off (by k_mem) ?_ | refine Mine.see_cons (by with_unfolding_all rfl) ?_))))))) | exact Eq.symm (Mine.see_go (Mine.see_cons (by with_unfolding_all rfl) (Mine.see_cons (by with_unfolding_all rfl) (Mine.see_cons (by with_unfolding_all rfl) (Mine.see_cons (by with_unfolding_all rfl) ((by repeat (first | exact Mine.see_refl | refine Mine.see_off (by k_mem) ?_ | refine Mine.see_cons (by with_unfolding_all rfl) ?_)))))))))) (by first | exact N9 | exact fun p hp => N9 p (List.mem_cons_of_mem _ hp)) (by rw [show (p + 1).toNat = p.toNat + 1 by omega]; exact hd2) (by omega)⟩)
        clear F1 N1 hd1 hp1
        rintro _ ⟨h, tk, p, st, ln, lt, tt, k4, b, te, tn, F1, N1, hd1, hp1⟩
        cases ls with
        | e => simp [rtF] at hr1
        | s0 =>
          dsimp only [lsVal] at N1
          by_cases e39 : c = 39
          · subst e39
            have hcx : chS 39 = Str.ofString "'" := by decide
            rw [hcx] at F1
            repeat' (first | ((fail_if_success (fail_if_success k_unfold)); first | (with_reducible refine (?_ : wpAny _ _ _ _ _ _)) | (with_reducible refine (?_ : LeaveK _ _ _ _ _ _ _))) | (k_unfold; (try dsimp only)) | ((fail_if_success (fail_if_success k_fold)); (with_reducible refine Mine.fold_q ?_); intro qk ek sk; (try ((with_reducible rename Fr _ _ _ _ => kF); (fail_if_success (have := Mine.pin_chk kF (by with_reducible assumption))); (refine Mine.pin_m kF ?_); intro mk kF9 pk; (try clear kF); (with_reducible rename News _ _ _ _ => kN); (refine Mine.pin_N kN ?_); intro nk kN9; (try clear kN)))) | walk1 | (dsimp only; walk1) | (leave1; walk_say "STEP leave1"; try dsimp only) | fail "no step")
            all_goals ((rename (Fr g' L' _ _) => F9); (rename (News g' L' _ _) => N9); exact ⟨(cs, .q1, tok, q), Nat.lt_succ_self _, RtAt.mk (Fr.eq F9 (by first | exact Mine.see_go (Mine.see_cons (by with_unfolding_all rfl) (Mine.see_cons (by with_unfolding_all rfl) (Mine.see_cons (by with_unfolding_all rfl) ((by repeat (first | exact Mine.see_refl | refine Mine.see_off (by k_mem) ?_ | refine Mine.see_cons (by with_unfolding_all rfl) ?_)))))) | exact Eq.symm (Mine.see_go (Mine.see_cons (by with_unfolding_all rfl) (Mine.see_cons (by with_unfolding_all rfl) (Mine.see_cons (by with_unfolding_all rfl) ((by repeat (first | exact Mine.see_refl | refine Mine.see_off (by k_mem) ?_ | refine Mine.see_cons (by with_unfolding_all rfl) ?_))))))))) (by first | exact N9 | exact fun p hp => N9 p (List.mem_cons_of_mem _ hp)) hd1 hp1, (by simp only [List.length_cons] at hl1 ⊢; omega), by simpa [rtF, rtF.chS'] using hr1⟩)
          by_cases e35 : c = 35
          · subst e35
            have hcx : chS 35 = Str.ofString "#" := by decide
            rw [hcx] at F1
            have hne : cs ≠ [] := by rintro rfl; simp [rtF] at hr1
            have hp2 : p < tx.length := by
              have h1 : 0 < cs.length := List.length_pos_iff.mpr hne
              have h2 : (tx.cps.toList.drop p.toNat).length = cs.length := congrArg List.length hd1
              rw [List.length_drop] at h2
              have h3 : tx.length = tx.cps.toList.length := by rw [Array.length_toList]; rfl
              omega
            repeat' (first | ((fail_if_success (fail_if_success k_unfold)); first | (with_reducible refine (?_ : wpAny _ _ _ _ _ _)) | (with_reducible refine (?_ : LeaveK _ _ _ _ _ _ _))) | (k_unfold; (try dsimp only)) | ((fail_if_success (fail_if_success k_fold)); (with_reducible refine Mine.fold_q ?_); intro qk ek sk; (try ((with_reducible rename Fr _ _ _ _ => kF); (fail_if_success (have := Mine.pin_chk kF (by with_reducible assumption))); (refine Mine.pin_m kF ?_); intro mk kF9 pk; (try clear kF); (with_reducible rename News _ _ _ _ => kN); (refine Mine.pin_N kN ?_); intro nk kN9; (try clear kN)))) | walk1 | (dsimp only; walk1) | (leave1; walk_say "STEP leave1"; try dsimp only) | fail "no step")
            all_goals ((rename (Fr g' L' _ _) => F9); (rename (News g' L' _ _) => N9); exact ⟨([], .s0, tok, q), Nat.succ_pos _, RtAt.mk (p := (tx.length : Int)) (Fr.eq F9 (by first | exact Mine.see_go (Mine.see_cons (by with_unfolding_all rfl) (Mine.see_cons (by with_unfolding_all rfl) (Mine.see_cons (by with_unfolding_all rfl) ((by repeat (first | exact Mine.see_refl | refine Mine.see_off (by k_mem) ?_ | refine Mine.see_cons (by with_unfolding_all rfl) ?_)))))) | exact Eq.symm (Mine.see_go (Mine.see_cons (by with_unfolding_all rfl) (Mine.see_cons (by with_unfolding_all rfl) (Mine.see_cons (by with_unfolding_all rfl) ((by repeat (first | exact Mine.see_refl | refine Mine.see_off (by k_mem) ?_ | refine Mine.see_cons (by with_unfolding_all rfl) ?_))))))))) N9 (by rw [Int.toNat_natCast]; exact List.drop_of_length_le (by rw [Array.length_toList]; exact Nat.le_refl _)) (Int.natCast_nonneg _), (by simp only [List.length_cons, List.length_nil] at hl1 ⊢; omega), by simpa [rtF, hne] using hr1⟩)
          by_cases e46 : c = 46
          · subst e46
            have hcx : chS 46 = Str.ofString "." := by decide
            rw [hcx] at F1
            repeat' (first | ((fail_if_success (fail_if_success k_unfold)); first | (with_reducible refine (?_ : wpAny _ _ _ _ _ _)) | (with_reducible refine (?_ : LeaveK _ _ _ _ _ _ _))) | (k_unfold; (try dsimp only)) | ((fail_if_success (fail_if_success k_fold)); (with_reducible refine Mine.fold_q ?_); intro qk ek sk; (try ((with_reducible rename Fr _ _ _ _ => kF); (fail_if_success (have := Mine.pin_chk kF (by with_reducible assumption))); (refine Mine.pin_m kF ?_); intro mk kF9 pk; (try clear kF); (with_reducible rename News _ _ _ _ => kN); (refine Mine.pin_N kN ?_); intro nk kN9; (try clear kN)))) | walk1 | (dsimp only; walk1) | (leave1; walk_say "STEP leave1"; try dsimp only) | fail "no step")
            all_goals ((rename (Fr g' L' _ _) => F9); (rename (News g' L' _ _) => N9); exact ⟨(cs, .a, Str.ofString ".", q), Nat.lt_succ_self _, RtAt.mk (Fr.eq F9 (by first | exact Mine.see_go (Mine.see_cons (by with_unfolding_all rfl) (Mine.see_cons (by with_unfolding_all rfl) (Mine.see_cons (by with_unfolding_all rfl) ((by repeat (first | exact Mine.see_refl | refine Mine.see_off (by k_mem) ?_ | refine Mine.see_cons (by with_unfolding_all rfl) ?_)))))) | exact Eq.symm (Mine.see_go (Mine.see_cons (by with_unfolding_all rfl) (Mine.see_cons (by with_unfolding_all rfl) (Mine.see_cons (by with_unfolding_all rfl) ((by repeat (first | exact Mine.see_refl | refine Mine.see_off (by k_mem) ?_ | refine Mine.see_cons (by with_unfolding_all rfl) ?_))))))))) (by first | exact N9 | exact fun p hp => N9 p (List.mem_cons_of_mem _ hp)) hd1 hp1, (by simp only [List.length_cons] at hl1 ⊢; rw [show (Str.ofString ".").length = 1 by decide]; omega), by rw [← hcx]; simpa [rtF, rtF.chS', chS] using hr1⟩)
          by_cases e47 : c = 47
          · subst e47
            have hcx : chS 47 = Str.ofString "/" := by decide
            rw [hcx] at F1
            repeat' (first | ((fail_if_success (fail_if_success k_unfold)); first | (with_reducible refine (?_ : wpAny _ _ _ _ _ _)) | (with_reducible refine (?_ : LeaveK _ _ _ _ _ _ _))) | (k_unfold; (try dsimp only)) | ((fail_if_success (fail_if_success k_fold)); (with_reducible refine Mine.fold_q ?_); intro qk ek sk; (try ((with_reducible rename Fr _ _ _ _ => kF); (fail_if_success (have := Mine.pin_chk kF (by with_reducible assumption))); (refine Mine.pin_m kF ?_); intro mk kF9 pk; (try clear kF); (with_reducible rename News _ _ _ _ => kN); (refine Mine.pin_N kN ?_); intro nk kN9; (try clear kN)))) | walk1 | (dsimp only; walk1) | (leave1; walk_say "STEP leave1"; try dsimp only) | fail "no step")
            all_goals ((rename (Fr g' L' _ _) => F9); (rename (News g' L' _ _) => N9); exact ⟨(cs, .a, Str.ofString "/", q), Nat.lt_succ_self _, RtAt.mk (Fr.eq F9 (by first | exact Mine.see_go (Mine.see_cons (by with_unfolding_all rfl) (Mine.see_cons (by with_unfolding_all rfl) (Mine.see_cons (by with_unfolding_all rfl) ((by repeat (first | exact Mine.see_refl | refine Mine.see_off (by k_mem) ?_ | refine Mine.see_cons (by with_unfolding_all rfl) ?_)))))) | exact Eq.symm (Mine.see_go (Mine.see_cons (by with_unfolding_all rfl) (Mine.see_cons (by with_unfolding_all rfl) (Mine.see_cons (by with_unfolding_all rfl) ((by repeat (first | exact Mine.see_refl | refine Mine.see_off (by k_mem) ?_ | refine Mine.see_cons (by with_unfolding_all rfl) ?_))))))))) (by first | exact N9 | exact fun p hp => N9 p (List.mem_cons_of_mem _ hp)) hd1 hp1, (by simp only [List.length_cons] at hl1 ⊢; rw [show (Str.ofString "/").length = 1 by decide]; omega), by rw [← hcx]; simpa [rtF, rtF.chS', chS] using hr1⟩)
          simp [rtF, e39, e35, e46, e47] at hr1
        | q1 =>
          dsimp only [lsVal] at N1
          by_cases e39 : c = 39
          · subst e39
            have hcx : chS 39 = Str.ofString "'" := by decide
            rw [hcx] at F1
            repeat' (first | ((fail_if_success (fail_if_success k_unfold)); first | (with_reducible refine (?_ : wpAny _ _ _ _ _ _)) | (with_reducible refine (?_ : LeaveK _ _ _ _ _ _ _))) | (k_unfold; (try dsimp only)) | ((fail_if_success (fail_if_success k_fold)); (with_reducible refine Mine.fold_q ?_); intro qk ek sk; (try ((with_reducible rename Fr _ _ _ _ => kF); (fail_if_success (have := Mine.pin_chk kF (by with_reducible assumption))); (refine Mine.pin_m kF ?_); intro mk kF9 pk; (try clear kF); (with_reducible rename News _ _ _ _ => kN); (refine Mine.pin_N kN ?_); intro nk kN9; (try clear kN)))) | walk1 | (dsimp only; walk1) | (leave1; walk_say "STEP leave1"; try dsimp only) | fail "no step")
            all_goals ((rename (Fr g' L' _ _) => F9); (rename (News g' L' _ _) => N9); exact ⟨(cs, .a, tok, true), Nat.lt_succ_self _, RtAt.mk (Fr.eq F9 (by first | exact Mine.see_go (Mine.see_cons (by with_unfolding_all rfl) (Mine.see_cons (by with_unfolding_all rfl) (Mine.see_cons (by with_unfolding_all rfl) ((by repeat (first | exact Mine.see_refl | refine Mine.see_off (by k_mem) ?_ | refine Mine.see_cons (by with_unfolding_all rfl) ?_)))))) | exact Eq.symm (Mine.see_go (Mine.see_cons (by with_unfolding_all rfl) (Mine.see_cons (by with_unfolding_all rfl) (Mine.see_cons (by with_unfolding_all rfl) ((by repeat (first | exact Mine.see_refl | refine Mine.see_off (by k_mem) ?_ | refine Mine.see_cons (by with_unfolding_all rfl) ?_))))))))) (by first | exact N9 | exact fun p hp => N9 p (List.mem_cons_of_mem _ hp)) hd1 hp1, (by simp only [List.length_cons] at hl1 ⊢; omega), by simpa [rtF, rtF.chS'] using hr1⟩)
          by_cases e10 : c = 10 ∨ c = 92
          · simp [rtF, e39, e10] at hr1
          have hcl : (chS c).length ≠ 0 := by show (1 : Nat) ≠ 0; decide
          have hcl2 : (chS c).length ≤ 1048576 := by show (1 : Nat) ≤ 1048576; decide
          have hn2 : ¬ (chS c == Str.ofString "'") = true := ch_ne (by decide : chS 39 = Str.ofString "'") e39
          repeat' (first | ((fail_if_success (fail_if_success k_unfold)); first | (with_reducible refine (?_ : wpAny _ _ _ _ _ _)) | (with_reducible refine (?_ : LeaveK _ _ _ _ _ _ _))) | (k_unfold; (try dsimp only)) | ((fail_if_success (fail_if_success k_fold)); (with_reducible refine Mine.fold_q ?_); intro qk ek sk; (try ((with_reducible rename Fr _ _ _ _ => kF); (fail_if_success (have := Mine.pin_chk kF (by with_reducible assumption))); (refine Mine.pin_m kF ?_); intro mk kF9 pk; (try clear kF); (with_reducible rename News _ _ _ _ => kN); (refine Mine.pin_N kN ?_); intro nk kN9; (try clear kN)))) | walk1 | (dsimp only; walk1) | (leave1; walk_say "STEP leave1"; try dsimp only) | fail "no step")
          all_goals ((rename (Fr g' L' _ _) => F9); (rename (News g' L' _ _) => N9); exact ⟨(cs, .q1, tok ++ chS c, true), Nat.lt_succ_self _, RtAt.mk (Fr.eq F9 (by first | exact Mine.see_go (Mine.see_cons (by with_unfolding_all rfl) (Mine.see_cons (by with_unfolding_all rfl) (Mine.see_cons (by with_unfolding_all rfl) ((by repeat (first | exact Mine.see_refl | refine Mine.see_off (by k_mem) ?_ | refine Mine.see_cons (by with_unfolding_all rfl) ?_)))))) | exact Eq.symm (Mine.see_go (Mine.see_cons (by with_unfolding_all rfl) (Mine.see_cons (by with_unfolding_all rfl) (Mine.see_cons (by with_unfolding_all rfl) ((by repeat (first | exact Mine.see_refl | refine Mine.see_off (by k_mem) ?_ | refine Mine.see_cons (by with_unfolding_all rfl) ?_))))))))) (by first | exact N9 | exact fun p hp => N9 p (List.mem_cons_of_mem _ hp)) hd1 hp1, (by simp only [List.length_cons] at hl1 ⊢; rw [Str.length_append]; show tok.length + 1 + _ ≤ _; omega), by simpa [rtF, rtF.chS', chS, e39, e10] using hr1⟩)
        | q2 =>
          dsimp only [lsVal] at N1
          by_cases e34 : c = 34
          · subst e34
            have hcx : chS 34 = Str.ofString "\"" := by decide
            rw [hcx] at F1
            repeat' (first | ((fail_if_success (fail_if_success k_unfold)); first | (with_reducible refine (?_ : wpAny _ _ _ _ _ _)) | (with_reducible refine (?_ : LeaveK _ _ _ _ _ _ _))) | (k_unfold; (try dsimp only)) | ((fail_if_success (fail_if_success k_fold)); (with_reducible refine Mine.fold_q ?_); intro qk ek sk; (try ((with_reducible rename Fr _ _ _ _ => kF); (fail_if_success (have := Mine.pin_chk kF (by with_reducible assumption))); (refine Mine.pin_m kF ?_); intro mk kF9 pk; (try clear kF); (with_reducible rename News _ _ _ _ => kN); (refine Mine.pin_N kN ?_); intro nk kN9; (try clear kN)))) | walk1 | (dsimp only; walk1) | (leave1; walk_say "STEP leave1"; try dsimp only) | fail "no step")
            all_goals ((rename (Fr g' L' _ _) => F9); (rename (News g' L' _ _) => N9); exact ⟨(cs, .a, tok, true), Nat.lt_succ_self _, RtAt.mk (Fr.eq F9 (by first | exact Mine.see_go (Mine.see_cons (by with_unfolding_all rfl) (Mine.see_cons (by with_unfolding_all rfl) (Mine.see_cons (by with_unfolding_all rfl) ((by repeat (first | exact Mine.see_refl | refine Mine.see_off (by k_mem) ?_ | refine Mine.see_cons (by with_unfolding_all rfl) ?_)))))) | exact Eq.symm (Mine.see_go (Mine.see_cons (by with_unfolding_all rfl) (Mine.see_cons (by with_unfolding_all rfl) (Mine.see_cons (by with_unfolding_all rfl) ((by repeat (first | exact Mine.see_refl | refine Mine.see_off (by k_mem) ?_ | refine Mine.see_cons (by with_unfolding_all rfl) ?_))))))))) (by first | exact N9 | exact fun p hp => N9 p (List.mem_cons_of_mem _ hp)) hd1 hp1, (by simp only [List.length_cons] at hl1 ⊢; omega), by simpa [rtF, rtF.chS'] using hr1⟩)
          by_cases e39 : c = 39
          · subst e39
            have hcx : chS 39 = Str.ofString "'" := by decide
            rw [hcx] at F1
            repeat' (first | ((fail_if_success (fail_if_success k_unfold)); first | (with_reducible refine (?_ : wpAny _ _ _ _ _ _)) | (with_reducible refine (?_ : LeaveK _ _ _ _ _ _ _))) | (k_unfold; (try dsimp only)) | ((fail_if_success (fail_if_success k_fold)); (with_reducible refine Mine.fold_q ?_); intro qk ek sk; (try ((with_reducible rename Fr _ _ _ _ => kF); (fail_if_success (have := Mine.pin_chk kF (by with_reducible assumption))); (refine Mine.pin_m kF ?_); intro mk kF9 pk; (try clear kF); (with_reducible rename News _ _ _ _ => kN); (refine Mine.pin_N kN ?_); intro nk kN9; (try clear kN)))) | walk1 | (dsimp only; walk1) | (leave1; walk_say "STEP leave1"; try dsimp only) | fail "no step")
            all_goals ((rename (Fr g' L' _ _) => F9); (rename (News g' L' _ _) => N9); exact ⟨(cs, .q2, tok ++ Str.ofString "'", true), Nat.lt_succ_self _, RtAt.mk (Fr.eq F9 (by first | exact Mine.see_go (Mine.see_cons (by with_unfolding_all rfl) (Mine.see_cons (by with_unfolding_all rfl) (Mine.see_cons (by with_unfolding_all rfl) ((by repeat (first | exact Mine.see_refl | refine Mine.see_off (by k_mem) ?_ | refine Mine.see_cons (by with_unfolding_all rfl) ?_)))))) | exact Eq.symm (Mine.see_go (Mine.see_cons (by with_unfolding_all rfl) (Mine.see_cons (by with_unfolding_all rfl) (Mine.see_cons (by with_unfolding_all rfl) ((by repeat (first | exact Mine.see_refl | refine Mine.see_off (by k_mem) ?_ | refine Mine.see_cons (by with_unfolding_all rfl) ?_))))))))) (by first | exact N9 | exact fun p hp => N9 p (List.mem_cons_of_mem _ hp)) hd1 hp1, (by simp only [List.length_cons] at hl1 ⊢; rw [Str.length_append]; show tok.length + 1 + _ ≤ _; omega), by rw [← hcx]; simpa [rtF, rtF.chS', chS] using hr1⟩)
          simp [rtF, e34, e39] at hr1
        | a =>
          dsimp only [lsVal] at N1
          by_cases e32 : c = 32
          · subst e32
            have hcx : chS 32 = Str.ofString " " := by decide
            rw [hcx] at F1
            by_cases hq : tok.length ≠ 0 ∨ q = true
            · obtain rfl : _ = fin := by simpa [rtF, hq] using hr1
              repeat' (first | ((fail_if_success (fail_if_success k_unfold)); first | (with_reducible refine (?_ : wpAny _ _ _ _ _ _)) | (with_reducible refine (?_ : LeaveK _ _ _ _ _ _ _))) | (k_unfold; (try dsimp only)) | ((fail_if_success (fail_if_success k_fold)); (with_reducible refine Mine.fold_q ?_); intro qk ek sk; (try ((with_reducible rename Fr _ _ _ _ => kF); (fail_if_success (have := Mine.pin_chk kF (by with_reducible assumption))); (refine Mine.pin_m kF ?_); intro mk kF9 pk; (try clear kF); (with_reducible rename News _ _ _ _ => kN); (refine Mine.pin_N kN ?_); intro nk kN9; (try clear kN)))) | walk1 | (dsimp only; walk1) | (leave1; walk_say "STEP leave1"; try dsimp only) | fail "no step")
              all_goals first | (exfalso; (rcases hq with hq | hq <;> first | omega | (simp_all; done))) | ((rename (Fr g' L' _ _) => F9); (rename (News g' L' _ _) => N9); exact ⟨rfl, RtAt.mk (st := _) (Fr.eq F9 (by first | exact Mine.see_go (Mine.see_cons (by with_unfolding_all rfl) (Mine.see_cons (by with_unfolding_all rfl) (Mine.see_cons (by with_unfolding_all rfl) ((by repeat (first | exact Mine.see_refl | refine Mine.see_off (by k_mem) ?_ | refine Mine.see_cons (by with_unfolding_all rfl) ?_)))))) | exact Eq.symm (Mine.see_go (Mine.see_cons (by with_unfolding_all rfl) (Mine.see_cons (by with_unfolding_all rfl) (Mine.see_cons (by with_unfolding_all rfl) ((by repeat (first | exact Mine.see_refl | refine Mine.see_off (by k_mem) ?_ | refine Mine.see_cons (by with_unfolding_all rfl) ?_))))))))) (by first | exact N9 | exact fun p hp => N9 p (List.mem_cons_of_mem _ hp)) hd1 hp1⟩)
            · simp [rtF, hq] at hr1
          by_cases e39 : c = 39
          · subst e39
            have hcx : chS 39 = Str.ofString "'" := by decide
            rw [hcx] at F1
            repeat' (first | ((fail_if_success (fail_if_success k_unfold)); first | (with_reducible refine (?_ : wpAny _ _ _ _ _ _)) | (with_reducible refine (?_ : LeaveK _ _ _ _ _ _ _))) | (k_unfold; (try dsimp only)) | ((fail_if_success (fail_if_success k_fold)); (with_reducible refine Mine.fold_q ?_); intro qk ek sk; (try ((with_reducible rename Fr _ _ _ _ => kF); (fail_if_success (have := Mine.pin_chk kF (by with_reducible assumption))); (refine Mine.pin_m kF ?_); intro mk kF9 pk; (try clear kF); (with_reducible rename News _ _ _ _ => kN); (refine Mine.pin_N kN ?_); intro nk kN9; (try clear kN)))) | walk1 | (dsimp only; walk1) | (leave1; walk_say "STEP leave1"; try dsimp only) | fail "no step")
            all_goals ((rename (Fr g' L' _ _) => F9); (rename (News g' L' _ _) => N9); exact ⟨(cs, .q1, tok, q), Nat.lt_succ_self _, RtAt.mk (Fr.eq F9 (by first | exact Mine.see_go (Mine.see_cons (by with_unfolding_all rfl) (Mine.see_cons (by with_unfolding_all rfl) (Mine.see_cons (by with_unfolding_all rfl) ((by repeat (first | exact Mine.see_refl | refine Mine.see_off (by k_mem) ?_ | refine Mine.see_cons (by with_unfolding_all rfl) ?_)))))) | exact Eq.symm (Mine.see_go (Mine.see_cons (by with_unfolding_all rfl) (Mine.see_cons (by with_unfolding_all rfl) (Mine.see_cons (by with_unfolding_all rfl) ((by repeat (first | exact Mine.see_refl | refine Mine.see_off (by k_mem) ?_ | refine Mine.see_cons (by with_unfolding_all rfl) ?_))))))))) (by first | exact N9 | exact fun p hp => N9 p (List.mem_cons_of_mem _ hp)) hd1 hp1, (by simp only [List.length_cons] at hl1 ⊢; omega), by simpa [rtF, rtF.chS'] using hr1⟩)
          by_cases e34 : c = 34
          · subst e34
            have hcx : chS 34 = Str.ofString "\"" := by decide
            rw [hcx] at F1
            repeat' (first | ((fail_if_success (fail_if_success k_unfold)); first | (with_reducible refine (?_ : wpAny _ _ _ _ _ _)) | (with_reducible refine (?_ : LeaveK _ _ _ _ _ _ _))) | (k_unfold; (try dsimp only)) | ((fail_if_success (fail_if_success k_fold)); (with_reducible refine Mine.fold_q ?_); intro qk ek sk; (try ((with_reducible rename Fr _ _ _ _ => kF); (fail_if_success (have := Mine.pin_chk kF (by with_reducible assumption))); (refine Mine.pin_m kF ?_); intro mk kF9 pk; (try clear kF); (with_reducible rename News _ _ _ _ => kN); (refine Mine.pin_N kN ?_); intro nk kN9; (try clear kN)))) | walk1 | (dsimp only; walk1) | (leave1; walk_say "STEP leave1"; try dsimp only) | fail "no step")
            all_goals ((rename (Fr g' L' _ _) => F9); (rename (News g' L' _ _) => N9); exact ⟨(cs, .q2, tok, q), Nat.lt_succ_self _, RtAt.mk (Fr.eq F9 (by first | exact Mine.see_go (Mine.see_cons (by with_unfolding_all rfl) (Mine.see_cons (by with_unfolding_all rfl) (Mine.see_cons (by with_unfolding_all rfl) ((by repeat (first | exact Mine.see_refl | refine Mine.see_off (by k_mem) ?_ | refine Mine.see_cons (by with_unfolding_all rfl) ?_)))))) | exact Eq.symm (Mine.see_go (Mine.see_cons (by with_unfolding_all rfl) (Mine.see_cons (by with_unfolding_all rfl) (Mine.see_cons (by with_unfolding_all rfl) ((by repeat (first | exact Mine.see_refl | refine Mine.see_off (by k_mem) ?_ | refine Mine.see_cons (by with_unfolding_all rfl) ?_))))))))) (by first | exact N9 | exact fun p hp => N9 p (List.mem_cons_of_mem _ hp)) hd1 hp1, (by simp only [List.length_cons] at hl1 ⊢; omega), by simpa [rtF, rtF.chS'] using hr1⟩)
          by_cases e46 : c = 46
          · subst e46
            have hcx : chS 46 = Str.ofString "." := by decide
            rw [hcx] at F1
            repeat' (first | ((fail_if_success (fail_if_success k_unfold)); first | (with_reducible refine (?_ : wpAny _ _ _ _ _ _)) | (with_reducible refine (?_ : LeaveK _ _ _ _ _ _ _))) | (k_unfold; (try dsimp only)) | ((fail_if_success (fail_if_success k_fold)); (with_reducible refine Mine.fold_q ?_); intro qk ek sk; (try ((with_reducible rename Fr _ _ _ _ => kF); (fail_if_success (have := Mine.pin_chk kF (by with_reducible assumption))); (refine Mine.pin_m kF ?_); intro mk kF9 pk; (try clear kF); (with_reducible rename News _ _ _ _ => kN); (refine Mine.pin_N kN ?_); intro nk kN9; (try clear kN)))) | walk1 | (dsimp only; walk1) | (leave1; walk_say "STEP leave1"; try dsimp only) | fail "no step")
            all_goals ((rename (Fr g' L' _ _) => F9); (rename (News g' L' _ _) => N9); exact ⟨(cs, .a, tok ++ Str.ofString ".", q), Nat.lt_succ_self _, RtAt.mk (Fr.eq F9 (by first | exact Mine.see_go (Mine.see_cons (by with_unfolding_all rfl) (Mine.see_cons (by with_unfolding_all rfl) (Mine.see_cons (by with_unfolding_all rfl) ((by repeat (first | exact Mine.see_refl | refine Mine.see_off (by k_mem) ?_ | refine Mine.see_cons (by with_unfolding_all rfl) ?_)))))) | exact Eq.symm (Mine.see_go (Mine.see_cons (by with_unfolding_all rfl) (Mine.see_cons (by with_unfolding_all rfl) (Mine.see_cons (by with_unfolding_all rfl) ((by repeat (first | exact Mine.see_refl | refine Mine.see_off (by k_mem) ?_ | refine Mine.see_cons (by with_unfolding_all rfl) ?_))))))))) (by first | exact N9 | exact fun p hp => N9 p (List.mem_cons_of_mem _ hp)) hd1 hp1, (by simp only [List.length_cons] at hl1 ⊢; rw [Str.length_append]; show tok.length + 1 + _ ≤ _; omega), by rw [← hcx]; simpa [rtF, rtF.chS', chS] using hr1⟩)
          by_cases e47 : c = 47
          · subst e47
            have hcx : chS 47 = Str.ofString "/" := by decide
            rw [hcx] at F1
            repeat' (first | ((fail_if_success (fail_if_success k_unfold)); first | (with_reducible refine (?_ : wpAny _ _ _ _ _ _)) | (with_reducible refine (?_ : LeaveK _ _ _ _ _ _ _))) | (k_unfold; (try dsimp only)) | ((fail_if_success (fail_if_success k_fold)); (with_reducible refine Mine.fold_q ?_); intro qk ek sk; (try ((with_reducible rename Fr _ _ _ _ => kF); (fail_if_success (have := Mine.pin_chk kF (by with_reducible assumption))); (refine Mine.pin_m kF ?_); intro mk kF9 pk; (try clear kF); (with_reducible rename News _ _ _ _ => kN); (refine Mine.pin_N kN ?_); intro nk kN9; (try clear kN)))) | walk1 | (dsimp only; walk1) | (leave1; walk_say "STEP leave1"; try dsimp only) | fail "no step")
            all_goals ((rename (Fr g' L' _ _) => F9); (rename (News g' L' _ _) => N9); exact ⟨(cs, .a, tok ++ Str.ofString "/", q), Nat.lt_succ_self _, RtAt.mk (Fr.eq F9 (by first | exact Mine.see_go (Mine.see_cons (by with_unfolding_all rfl) (Mine.see_cons (by with_unfolding_all rfl) (Mine.see_cons (by with_unfolding_all rfl) ((by repeat (first | exact Mine.see_refl | refine Mine.see_off (by k_mem) ?_ | refine Mine.see_cons (by with_unfolding_all rfl) ?_)))))) | exact Eq.symm (Mine.see_go (Mine.see_cons (by with_unfolding_all rfl) (Mine.see_cons (by with_unfolding_all rfl) (Mine.see_cons (by with_unfolding_all rfl) ((by repeat (first | exact Mine.see_refl | refine Mine.see_off (by k_mem) ?_ | refine Mine.see_cons (by with_unfolding_all rfl) ?_))))))))) (by first | exact N9 | exact fun p hp => N9 p (List.mem_cons_of_mem _ hp)) hd1 hp1, (by simp only [List.length_cons] at hl1 ⊢; rw [Str.length_append]; show tok.length + 1 + _ ≤ _; omega), by rw [← hcx]; simpa [rtF, rtF.chS', chS] using hr1⟩)
          simp [rtF, e32, e39, e34, e46, e47] at hr1
    · show (Str.ofString "").length + cs0.length ≤ 100000
      rw [show (Str.ofString "").length = 0 by decide]; omega
  · rintro f s' ⟨rfl, ⟨h, tk, p', st, ln', lt', tt', k4', b, te, F1, N1, hd1, hp1⟩⟩
    clear FF NN hcs hp0 hr hlen
    obtain ⟨tok, q, lsF, csF⟩ := fin
    dsimp only at F1 N1 hd1 hret
    cases q with
    | true =>
      repeat' (first | ((fail_if_success (fail_if_success k_unfold)); first | (with_reducible refine (?_ : wpAny _ _ _ _ _ _)) | (with_reducible refine (?_ : LeaveK _ _ _ _ _ _ _))) | (k_unfold; (try dsimp only)) | ((fail_if_success (fail_if_success k_fold)); (with_reducible refine Mine.fold_q ?_); intro qk ek sk; (try ((with_reducible rename Fr _ _ _ _ => kF); (fail_if_success (have := Mine.pin_chk kF (by with_reducible assumption))); (refine Mine.pin_m kF ?_); intro mk kF9 pk; (try clear kF); (with_reducible rename News _ _ _ _ => kN); (refine Mine.pin_N kN ?_); intro nk kN9; (try clear kN)))) | walk1 | (dsimp only; walk1) | (leave1; walk_say "STEP leave1"; try dsimp only) | fail "no step")
      (rename (News h₀ L _ _) => kN9); exact hret _ p' st lt' _ k4' tt' ln' _ _ (by rw [if_neg (by rintro ⟨_, h⟩; cases h)]) (by k_asm) kN9 hd1 hp1
    | false =>
      by_cases h0 : tok.length = 0
      · have := len0 (by omega : (tok.length : Int) = 0)
        subst this
        repeat' (first | ((fail_if_success (fail_if_success k_unfold)); first | (with_reducible refine (?_ : wpAny _ _ _ _ _ _)) | (with_reducible refine (?_ : LeaveK _ _ _ _ _ _ _))) | (k_unfold; (try dsimp only)) | ((fail_if_success (fail_if_success k_fold)); (with_reducible refine Mine.fold_q ?_); intro qk ek sk; (try ((with_reducible rename Fr _ _ _ _ => kF); (fail_if_success (have := Mine.pin_chk kF (by with_reducible assumption))); (refine Mine.pin_m kF ?_); intro mk kF9 pk; (try clear kF); (with_reducible rename News _ _ _ _ => kN); (refine Mine.pin_N kN ?_); intro nk kN9; (try clear kN)))) | walk1 | (dsimp only; walk1) | (leave1; walk_say "STEP leave1"; try dsimp only) | fail "no step")
        (rename (News h₀ L _ _) => kN9); exact hret _ p' st lt' _ k4' tt' ln' _ _ (by rw [if_pos ⟨h0, rfl⟩]) (by k_asm) kN9 hd1 hp1
      · have hne : (tok == Str.ofString "") = false := by
          rw [beq_eq_false_iff_ne]; rintro rfl; exact h0 (by decide)
        repeat' (first | ((fail_if_success (fail_if_success k_unfold)); first | (with_reducible refine (?_ : wpAny _ _ _ _ _ _)) | (with_reducible refine (?_ : LeaveK _ _ _ _ _ _ _))) | (k_unfold; (try dsimp only)) | ((fail_if_success (fail_if_success k_fold)); (with_reducible refine Mine.fold_q ?_); intro qk ek sk; (try ((with_reducible rename Fr _ _ _ _ => kF); (fail_if_success (have := Mine.pin_chk kF (by with_reducible assumption))); (refine Mine.pin_m kF ?_); intro mk kF9 pk; (try clear kF); (with_reducible rename News _ _ _ _ => kN); (refine Mine.pin_N kN ?_); intro nk kN9; (try clear kN)))) | walk1 | (dsimp only; walk1) | (leave1; walk_say "STEP leave1"; try dsimp only) | fail "no step")
        (rename (News h₀ L _ _) => kN9); exact hret _ p' st lt' _ k4' tt' ln' _ _ (by rw [if_neg (fun h => h0 h.1)]) (by k_asm) kN9 hd1 hp1

end

theorem words9 : True := by
  k_with "call ref" => ((k_here; k_dflt (show wpAny _ _ (call (Value.ref 822) [Value.ref _]) _ _ _); k_dflt (refine' Mine.rt_spec ?k1_23 ?k2_23 ?k3_23 ?k4_23 ?k5_23 ?k6_23 ?k7_23 ?k8_23 ?k9_23 ?kp_23 ?kc_23 ?kn_23 ?kl_23 ?kr_23 ?o1_23 ?o2_23 ?o3_23 ?o4_23 ?o5_23 ?_; (((case k1_23 => k_asm); (case k2_23 => k_asm); (case k3_23 => k_asm); (case k4_23 => k_asm); (case k5_23 => k_asm); (case k6_23 => first | exact rfl | assumption)); (case k7_23 => ktr_room); (case k8_23 => ktr_units)); (case k9_23 => with_reducible assumption); (case kp_23 => with_reducible assumption); (case kc_23 => with_reducible assumption); (case kn_23 => with_reducible assumption); (case kl_23 => with_reducible assumption); (case kr_23 => with_reducible assumption); (case o1_23 => with_reducible assumption); (case o2_23 => with_reducible assumption); (case o3_23 => with_reducible assumption); (case o4_23 => with_reducible assumption); (case o5_23 => with_reducible assumption); k_whole); intro v9z p9z s9z l9z t9z k9z tv9z n9z h9z tk9z e9z F9z N9z d9z q9z; (try ((first | rw [if_pos (by with_reducible assumption)] at e9z | rw [if_neg (by with_reducible assumption)] at e9z); subst e9z)); (try dsimp only)))
  k_with "truthy ref" => ((k_here; (with_reducible show wpAny _ _ (truthy (Value.ref _)) _ _ _); k_dflt (refine' Mine.deque_truthy ?k1_24 ?_; (case k1_24 => exact News.get (by k_asm) (by k_mem)); k_whole); intro k9z))
  trivial
/-! ## R12 -/
section
set_option maxRecDepth 100000 in
set_option maxHeartbeats 8000000 in
theorem gt_spec {w : World} {mean : ExcName → Option Value} {mg mb : Str → Option Value}
    {dp un : Nat} {gd : Option (List Code)} {cn : Str} {cs : Scope} {a : Addr} {ccd : Value} {cl : List (Str × Addr)} {outer : List Env} {A₀ : Around} {base h₀ : Heap} {L : Addr} {m : Str → Option Value} {s : Shared} {Q E : Value → Shared → Prop} {κ ν : Nat → Tok} {x dx I dI D1 D2 : Addr} {tx : Str} {t k1 k2 k3 k4 lt tt st0 : Tok} {p ln : Int} {cs0 : List Nat} {ls0 : LS} {fin : Str × Bool × LS × List Nat}
    (B : Below A₀ base outer h₀) (F : Fr h₀ L s.heap m) (X : (Mine.hd.heap_1_39 w.params).In h₀) (N : News h₀ L s.heap [(x, instObj 854 dx), (dx, lexD w κ ν I D1 D2 (lsVal ls0 st0) ln lt (Str.ofString "") tt), (I, instObj 719 dI), (dI, sioD w tx t p k1 k2 k3 k4), (D1, dqObj), (D2, dqObj)]) (T : (Top Mine.hd.view_1_40 (looseW Mine.hd.view_1_40 [Str.ofString "check_arg_types_genericpath", Str.ofString "join_posixpath", Str.ofString "_twin_re_1", Str.ofString "UnsupportedOperation", Str.ofString "IOBase", Str.ofString "BufferedIOBase", Str.ofString "TextIOBase", Str.ofString "BytesIO", Str.ofString "StringIO", Str.ofString "check_arg_types_path", Str.ofString "join_path", Str.ofString "shlex", Str.ofString "split", Str.ofString "_find_unsafe"]) mean mg mb h₀)) (hk : cs.kind = .function)
    (hd : dp + 16 < recursionLimit) (hu : un + 104 < cLine) (hx : tx.length ≤ 100000) (hp0 : 0 ≤ p) (hcs : tx.cps.toList.drop p.toNat = cs0) (hnl : ∀ c ∈ tx.cps.toList, c ≠ 10) (hlen : cs0.length ≤ 100000) (hr : rtF cs0 ls0 (Str.ofString "") false = some fin)
    (o1 : @LT.lt Nat _ dx x) (o2 : @LT.lt Nat _ x dI) (o3 : @LT.lt Nat _ dI I) (o4 : @LT.lt Nat _ I D1) (o5 : @LT.lt Nat _ D1 D2)
    (hret : ∀ (v : Value) (p' : Int) (st' lt' tt' k4' tv : Tok) (ln' : Int) (h' : Heap) (tk' : Nat), v = (if fin.1.length = 0 ∧ fin.2.1 = false then Value.none else Value.str fin.1 tv) → Fr h₀ L h' m →
      News h₀ L h' [(x, instObj 854 dx), (dx, lexD w κ ν I D1 D2 (lsVal fin.2.2.1 st') ln' lt' (Str.ofString "") tt'), (I, instObj 719 dI), (dI, sioD w tx t p' k1 k2 k3 k4'), (D1, dqObj), (D2, dqObj)] → tx.cps.toList.drop p'.toNat = fin.2.2.2 → 0 ≤ p' → Q v { s with heap := h', toks := tk' }) :
    wpAny (model PySem.Challenge.rw_ik0143_01.row.prog w) (ktrTop dp un gd cn cs L a ccd cl outer) (call (.ref 815) [.ref x]) Q E s := by
  refine wpAny_call ?_
  k_dflt (refine' code_defG B F X N T ?kA ?kF ?kK ?k6 ?k7 ?k8 ?k9 ?kB ?_ ?c2 ?c3 ?c4 ?c5; (case kA => exact rfl); (case kF => exact rfl); (case kK => exact hk); (case k6 => k_is); (case k7 => k_is); (case k8 => ktr_room); (case k9 => first | exact BindsTo.of_eq rfl | exact binds_K (by k_in) rfl (by k_is) rfl rfl rfl); (case c5 => decide); (case kB => exact locs rfl); (case c2 => exact rfl); (case c3 => exact rfl); (case c4 => exact rfl); k_whole; intro g' L' h' FG' F' N' B' X' T' kG'; (try (refine Mine.fold_e ?_; intro ev ar qk ek sk)))
  by_cases hfin : fin.1.length = 0 ∧ fin.2.1 = false
  · repeat' (first | ((fail_if_success (fail_if_success k_unfold)); first | (with_reducible refine (?_ : wpAny _ _ _ _ _ _)) | (with_reducible refine (?_ : LeaveK _ _ _ _ _ _ _))) | (k_unfold; (try dsimp only)) | ((fail_if_success (fail_if_success k_fold)); (with_reducible refine Mine.fold_q ?_); intro qk ek sk; (try ((with_reducible rename Fr _ _ _ _ => kF); (fail_if_success (have := Mine.pin_chk kF (by with_reducible assumption))); (refine Mine.pin_m kF ?_); intro mk kF9 pk; (try clear kF); (with_reducible rename News _ _ _ _ => kN); (refine Mine.pin_N kN ?_); intro nk kN9; (try clear kN)))) | walk1 | (dsimp only; walk1) | (leave1; walk_say "STEP leave1"; try dsimp only) | fail "no step")
    (rename (News h₀ L _ _) => kN9); exact hret _ _ _ _ _ _ tt _ _ _ (if_pos hfin).symm (by k_asm) kN9 (by with_reducible assumption) (by with_reducible assumption)
  · repeat' (first | ((fail_if_success (fail_if_success k_unfold)); first | (with_reducible refine (?_ : wpAny _ _ _ _ _ _)) | (with_reducible refine (?_ : LeaveK _ _ _ _ _ _ _))) | (k_unfold; (try dsimp only)) | ((fail_if_success (fail_if_success k_fold)); (with_reducible refine Mine.fold_q ?_); intro qk ek sk; (try ((with_reducible rename Fr _ _ _ _ => kF); (fail_if_success (have := Mine.pin_chk kF (by with_reducible assumption))); (refine Mine.pin_m kF ?_); intro mk kF9 pk; (try clear kF); (with_reducible rename News _ _ _ _ => kN); (refine Mine.pin_N kN ?_); intro nk kN9; (try clear kN)))) | walk1 | (dsimp only; walk1) | (leave1; walk_say "STEP leave1"; try dsimp only) | fail "no step")
    (rename (News h₀ L _ _) => kN9); exact hret _ _ _ _ _ _ _ _ _ _ (if_neg hfin).symm (by k_asm) kN9 (by with_reducible assumption) (by with_reducible assumption)

end

theorem words10 : True := by
  k_with "call ref" => ((k_here; k_dflt (show wpAny _ _ (call (Value.ref 815) [Value.ref _]) _ _ _); k_dflt (refine' Mine.gt_spec ?k1_25 ?k2_25 ?k3_25 ?k4_25 ?k5_25 ?k6_25 ?k7_25 ?k8_25 ?k9_25 ?kp_25 ?kc_25 ?kn_25 ?kl_25 ?kr_25 ?o1_25 ?o2_25 ?o3_25 ?o4_25 ?o5_25 ?_; (((case k1_25 => k_asm); (case k2_25 => k_asm); (case k3_25 => k_asm); (case k4_25 => k_asm); (case k5_25 => k_asm); (case k6_25 => first | exact rfl | assumption)); (case k7_25 => ktr_room); (case k8_25 => ktr_units)); (case k9_25 => with_reducible assumption); (case kp_25 => with_reducible assumption); (case kc_25 => with_reducible assumption); (case kn_25 => with_reducible assumption); (case kl_25 => with_reducible assumption); (case kr_25 => with_reducible assumption); (case o1_25 => with_reducible assumption); (case o2_25 => with_reducible assumption); (case o3_25 => with_reducible assumption); (case o4_25 => with_reducible assumption); (case o5_25 => with_reducible assumption); k_whole); intro v9z p9z s9z l9z t9z k9z tv9z n9z h9z tk9z e9z F9z N9z d9z q9z; (try ((first | rw [if_pos (by with_reducible assumption)] at e9z | rw [if_neg (by with_reducible assumption)] at e9z); subst e9z)); (try dsimp only)))
  trivial
/-! ## R13 -/
section
theorem six_off {x dx I dI D1 D2 S : Addr} {a b c d e f : Obj} (o1 : @LT.lt Nat _ dx x) (o2 : @LT.lt Nat _ x dI) (o3 : @LT.lt Nat _ dI I) (o4 : @LT.lt Nat _ I D1) (o5 : @LT.lt Nat _ D1 D2) (o6 : @LT.lt Nat _ D2 S) : S ∉ [(x, a), (dx, b), (I, c), (dI, d), (D1, e), (D2, f)].map (·.1) := by
  intro h
  simp only [List.map_cons, List.map_nil, List.mem_cons, List.not_mem_nil, or_false] at h
  have : ∀ y : Nat, (S : Nat) = y → y < S → False := fun y e l => absurd l (e ▸ Nat.lt_irrefl _)
  rcases h with h | h | h | h | h | h <;> exact this _ h (by omega)
theorem reg_own0_R13 : True := by
  k_with "leaving ref" => ((k_here; (refine' leave_raiseS ?k1 ?k0 ?k2 ?k3 ?_; (case k0 => first | assumption | exact Heap.MadeExc.of (by assumption)); (case k2 => assumption); (case k1 => assumption); (case k3 => k_asm); k_whole; intro h'z t'z S'z R'z U'z; (try dsimp only at S'z R'z U'z ⊢))))
  trivial
set_option maxRecDepth 100000 in
set_option maxHeartbeats 8000000 in
theorem pn_spec {w : World} {mean : ExcName → Option Value} {mg mb : Str → Option Value}
    {dp un : Nat} {gd : Option (List Code)} {cn : Str} {cs : Scope} {a : Addr} {ccd : Value} {cl : List (Str × Addr)} {outer : List Env} {A₀ : Around} {base h₀ : Heap} {L : Addr} {m : Str → Option Value} {s : Shared} {Q E : Value → Shared → Prop} {κ ν : Nat → Tok} {x dx I dI D1 D2 : Addr} {tx : Str} {t k1 k2 k3 k4 lt tt st0 : Tok} {p ln : Int} {cs0 : List Nat} {ls0 : LS} {fin : Str × Bool × LS × List Nat} {R : Option Value → Shared → Prop} {S : Addr} {oS : Obj}
    (NS : News h₀ L s.heap [(S, oS)]) (B : Below A₀ base outer h₀) (F : Fr h₀ L s.heap m) (X : (Mine.hd.heap_1_39 w.params).In h₀) (N : News h₀ L s.heap [(x, instObj 854 dx), (dx, lexD w κ ν I D1 D2 (lsVal ls0 st0) ln lt (Str.ofString "") tt), (I, instObj 719 dI), (dI, sioD w tx t p k1 k2 k3 k4), (D1, dqObj), (D2, dqObj)]) (T : (Top Mine.hd.view_1_40 (looseW Mine.hd.view_1_40 [Str.ofString "check_arg_types_genericpath", Str.ofString "join_posixpath", Str.ofString "_twin_re_1", Str.ofString "UnsupportedOperation", Str.ofString "IOBase", Str.ofString "BufferedIOBase", Str.ofString "TextIOBase", Str.ofString "BytesIO", Str.ofString "StringIO", Str.ofString "check_arg_types_path", Str.ofString "join_path", Str.ofString "shlex", Str.ofString "split", Str.ofString "_find_unsafe"]) mean mg mb h₀)) (hk : cs.kind = .function)
    (hd : dp + 20 < recursionLimit) (hu : un + 124 < cLine) (hx : tx.length ≤ 100000) (hp0 : 0 ≤ p) (hcs : tx.cps.toList.drop p.toNat = cs0) (hnl : ∀ c ∈ tx.cps.toList, c ≠ 10) (hlen : cs0.length ≤ 100000) (hr : rtF cs0 ls0 (Str.ofString "") false = some fin)
    (o1 : @LT.lt Nat _ dx x) (o2 : @LT.lt Nat _ x dI) (o3 : @LT.lt Nat _ dI I) (o4 : @LT.lt Nat _ I D1) (o5 : @LT.lt Nat _ D1 D2) (o6 : @LT.lt Nat _ D2 S)
    (hret : ∀ (v : Option Value) (g9 : Heap) (p' : Int) (st' lt' tt' k4' tv : Tok) (ln' : Int) (h' : Heap) (tk' : Nat), v = (if fin.1.length = 0 ∧ fin.2.1 = false then none else some (Value.str fin.1 tv)) → KtsTurn (frs outer) h₀ g9 → Below A₀ base outer g9 → Fr g9 L h' m →
      News g9 L h' [(x, instObj 854 dx), (dx, lexD w κ ν I D1 D2 (lsVal fin.2.2.1 st') ln' lt' (Str.ofString "") tt'), (I, instObj 719 dI), (dI, sioD w tx t p' k1 k2 k3 k4'), (D1, dqObj), (D2, dqObj)] → News g9 L h' [(S, oS)] → tx.cps.toList.drop p'.toNat = fin.2.2.2 → 0 ≤ p' → R v { s with heap := h', toks := tk' }) :
    wpAny (model PySem.Challenge.rw_ik0143_01.row.prog w) (ktrTop dp un gd cn cs L a ccd cl outer) (pyNext (.ref x)) R E s := by
  k_dflt (refine' owit_next (C := 854) (f := 851) F X ?I ?hs ?hf ?_; (case I => k_inst); (case hs => k_is); (case hf => k_is))
  refine wpAny_call ?_
  k_dflt (refine' code_defG B F X N T ?kA ?kF ?kK ?k6 ?k7 ?k8 ?k9 ?kB ?_ ?c2 ?c3 ?c4 ?c5; (case kA => exact rfl); (case kF => exact rfl); (case kK => exact hk); (case k6 => k_is); (case k7 => k_is); (case k8 => ktr_room); (case k9 => first | exact BindsTo.of_eq rfl | exact binds_K (by k_in) rfl (by k_is) rfl rfl rfl); (case c5 => decide); (case kB => exact locs rfl); (case c2 => exact rfl); (case c3 => exact rfl); (case c4 => exact rfl); k_whole; intro g' L' h' FG' F' N' B' X' T' kG'; (try (refine Mine.fold_e ?_; intro ev ar qk ek sk)))
  have hS : g'.get? S = some oS := kG' _ _ (NS _ (List.mem_singleton_self _)).1 (six_off o1 o2 o3 o4 o5 o6)
  have NS2 := (NS _ (List.mem_singleton_self _)).2
  clear NS
  by_cases hfin : fin.1.length = 0 ∧ fin.2.1 = false
  · repeat' (first | ((fail_if_success (fail_if_success k_unfold)); first | (with_reducible refine (?_ : wpAny _ _ _ _ _ _)) | (with_reducible refine (?_ : LeaveK _ _ _ _ _ _ _))) | (k_unfold; (try dsimp only)) | ((fail_if_success (fail_if_success k_fold)); (with_reducible refine Mine.fold_q ?_); intro qk ek sk; (try ((with_reducible rename Fr _ _ _ _ => kF); (fail_if_success (have := Mine.pin_chk kF (by with_reducible assumption))); (refine Mine.pin_m kF ?_); intro mk kF9 pk; (try clear kF); (with_reducible rename News _ _ _ _ => kN); (refine Mine.pin_N kN ?_); intro nk kN9; (try clear kN)))) | walk1 | (dsimp only; walk1) | (leave1; walk_say "STEP leave1"; try dsimp only) | fail "no step")
    rename RaisedS _ _ _ _ _ _ _ _ _ => rs9
    k_dflt (refine' owit_stopS rfl rs9 ?U FG' B ?hs ?_; (case U => assumption); (case hs => first | rfl | kernel_rfl | decide))
    intro g9 B9 T9 K9 F9 N9 e1 e2
    refine hret _ g9 _ _ _ _ _ tt _ _ _ (if_pos hfin).symm T9 K9 F9 N9 (fun p hp => ?_) (by with_reducible assumption) (by with_reducible assumption)
    obtain rfl := List.mem_singleton.mp hp
    refine ⟨e2 _ _ (e1 _ _ hS fun hm => ?_), NS2.1, T9.none_ _ NS2.2⟩
    rcases mem_frs rfl hm with z | z
    · exact NS2.1 z
    · obtain ⟨_, o, ho, _⟩ := B.frames.mem z
      exact absurd (NS2.2.symm.trans ho) (by simp)
  · repeat' (first | ((fail_if_success (fail_if_success k_unfold)); first | (with_reducible refine (?_ : wpAny _ _ _ _ _ _)) | (with_reducible refine (?_ : LeaveK _ _ _ _ _ _ _))) | (k_unfold; (try dsimp only)) | ((fail_if_success (fail_if_success k_fold)); (with_reducible refine Mine.fold_q ?_); intro qk ek sk; (try ((with_reducible rename Fr _ _ _ _ => kF); (fail_if_success (have := Mine.pin_chk kF (by with_reducible assumption))); (refine Mine.pin_m kF ?_); intro mk kF9 pk; (try clear kF); (with_reducible rename News _ _ _ _ => kN); (refine Mine.pin_N kN ?_); intro nk kN9; (try clear kN)))) | walk1 | (dsimp only; walk1) | (leave1; walk_say "STEP leave1"; try dsimp only) | fail "no step")
    (rename (News h₀ L _ _) => kN9); exact hret _ h₀ _ _ _ _ _ _ _ _ _ (if_neg hfin).symm KtsTurn.refl B (by k_asm) kN9 (fun p hp => by obtain rfl := List.mem_singleton.mp hp; exact ⟨Fr.keep (by assumption : Fr g' L' _ _) _ _ hS, NS2⟩) (by with_reducible assumption) (by with_reducible assumption)

end

/-! ## R14 -/
section
open PySem.Calls PySem.Spec
inductive LsAt (w : World) (A₀ : Around) (base : Heap) (outer : List Env) (h₀ : Heap) (L : Addr) (m : Str → Option Value) (κ ν : Nat → Tok) (x dx I dI D1 D2 : Addr) (tx : Str) (t k1 k2 k3 : Tok) (S : Addr) (acc : List Value) (cs : List Nat) (ls : LS) (s : Shared) : Shared → Prop
  | intro (g h : Heap) (tk c : Nat) (p ln : Int) (st lt tt k4 : Tok) (T : KtsTurn (frs outer) h₀ g) (B : Below A₀ base outer g) (F : Fr g L h m) (N : News g L h [(x, instObj 854 dx), (dx, lexD w κ ν I D1 D2 (lsVal ls st) ln lt (Str.ofString "") tt), (I, instObj 719 dI), (dI, sioD w tx t p k1 k2 k3 k4), (D1, dqObj), (D2, dqObj)]) (NS : News g L h [(S, listOf acc.toArray c)]) (hdr : tx.cps.toList.drop p.toNat = cs) (hp : 0 ≤ p) : LsAt w A₀ base outer h₀ L m κ ν x dx I dI D1 D2 tx t k1 k2 k3 S acc cs ls s { s with heap := h, toks := tk }
theorem six_ne {x dx I dI D1 D2 S : Addr} {a b c d e f : Obj} (h : S ∉ [(x, a), (dx, b), (I, c), (dI, d), (D1, e), (D2, f)].map (·.1)) : ∀ q ∈ [(x, a), (dx, b), (I, c), (dI, d), (D1, e), (D2, f)], q.1 ≠ S :=
  fun q hq e => h (e ▸ List.mem_map_of_mem hq)
set_option maxRecDepth 100000 in
set_option maxHeartbeats 8000000 in
theorem ext_loop {w : World} {mean : ExcName → Option Value} {mg mb : Str → Option Value} {dp un : Nat} {gd : Option (List Code)} {cn : Str} {cs : Scope} {a : Addr} {ccd : Value} {cl : List (Str × Addr)} {outer : List Env} {A₀ : Around} {base h₀ : Heap} {L : Addr} {m : Str → Option Value} {s0 : Shared}
    {κ ν : Nat → Tok} {x dx I dI D1 D2 S : Addr} {tx : Str} {t k1 k2 k3 : Tok} {R : Result → Shared → Prop} (XB : (Mine.hd.heap_1_39 w.params).In base) (TB : Top Mine.hd.view_1_40 (looseW Mine.hd.view_1_40 [Str.ofString "check_arg_types_genericpath", Str.ofString "join_posixpath", Str.ofString "_twin_re_1", Str.ofString "UnsupportedOperation", Str.ofString "IOBase", Str.ofString "BufferedIOBase", Str.ofString "TextIOBase", Str.ofString "BytesIO", Str.ofString "StringIO", Str.ofString "check_arg_types_path", Str.ofString "join_path", Str.ofString "shlex", Str.ofString "split", Str.ofString "_find_unsafe"]) mean mg mb base) (hk : cs.kind = .function)
    (hd : dp + 20 < recursionLimit) (hu : un + 126 < cLine) (hx : tx.length ≤ 100000) (hnl : ∀ c ∈ tx.cps.toList, c ≠ 10) (o1 : @LT.lt Nat _ dx x) (o2 : @LT.lt Nat _ x dI) (o3 : @LT.lt Nat _ dI I) (o4 : @LT.lt Nat _ I D1) (o5 : @LT.lt Nat _ D1 D2) (o6 : @LT.lt Nat _ D2 S) :
    ∀ (n : Nat) (acc : List Value) (cs1 : List Nat) (ls : LS) (toks : List Str) (s : Shared), LsAt w A₀ base outer h₀ L m κ ν x dx I dI D1 D2 tx t k1 k2 k3 S acc cs1 ls s0 s → lexF n cs1 ls = some toks → acc.length + n ≤ 1000 →
      (∀ vs cs2 ls2 s', LsAt w A₀ base outer h₀ L m κ ν x dx I dI D1 D2 tx t k1 k2 k3 S (acc ++ vs) cs2 ls2 s0 s' → StrsAre vs toks → R (.ok (.ret .none)) s') →
      codeAny (model PySem.Challenge.rw_ik0143_01.row.prog w) (ktrTop dp un gd cn cs L a ccd cl outer) (.builtin "list.extend.loop" ⟨[.ref S, .ref x, .none], []⟩) R s := by
  intro n
  induction n with
  | zero => intro acc cs1 ls toks s _ hl; cases hl
  | succ n ih =>
    intro acc cs1 ls toks s hs hl hsz hR
    obtain ⟨g, h, tk, c, p, ln, st, lt, tt, k4, T0, B, F, N, NS, hdr, hp⟩ := hs
    unfold lexF at hl
    cases hrt : rtF cs1 ls (Str.ofString "") false with
    | none => rw [hrt] at hl; cases hl
    | some fin =>
      rw [hrt] at hl
      dsimp only at hl
      refine codeAny_builtin PySem.F.entry_extend_loop ?_
      rw [Around.under_plainId PySem.F.plain_extend_loop _]
      show wpAny _ (ktrTop dp (un + 1) gd cn cs L a ccd cl outer) (pyNext (.ref x) >>= _) _ _ _
      have hlen : cs1.length ≤ 100000 := by
        rw [← hdr, List.length_drop]
        have : tx.length = tx.cps.toList.length := len_cps tx
        omega
      refine wpAny_bind (pn_spec (Q := fun _ _ => True) NS B F (XB.keeps B.stays) N (TB.keeps B.stays) hk hd (by omega) hx hp hdr hnl hlen hrt o1 o2 o3 o4 o5 o6 ?_)
      intro v g9 p9 st9 lt9 tt9 k49 tv9 ln9 h9 tk9 hv T9 B9 F9 N9 NS9 d9 q9
      by_cases hfin : fin.1.length = 0 ∧ fin.2.1 = false
      · rw [if_pos hfin] at hv hl
        subst hv
        cases hl
        exact wpAny_pure (hR [] _ _ _ (.intro g9 h9 tk9 c p9 ln9 st9 lt9 tt9 k49 (T0.trans T9) B9 F9 N9 (by rw [List.append_nil]; exact NS9) d9 q9) .nil)
      · rw [if_neg hfin] at hv hl
        subst hv
        cases hlx : lexF n fin.2.2.2 fin.2.2.1 with
        | none =>
          rw [hlx] at hl; cases hl
        | some toks' =>
          rw [hlx] at hl
          obtain rfl : fin.1 :: toks' = toks := Option.some.inj hl
          have hS' := (NS9 _ (List.mem_singleton_self _)).1
          have hSn := (NS9 _ (List.mem_singleton_self _)).2
          have hoff := six_ne (six_off (a := instObj 854 dx) (b := lexD w κ ν I D1 D2 (lsVal fin.2.2.1 st9) ln9 lt9 (Str.ofString "") tt9) (c := instObj 719 dI) (d := sioD w tx t p9 k1 k2 k3 k49) (e := dqObj) (f := dqObj) o1 o2 o3 o4 o5 o6)
          show wpAny _ _ (updateSeq S (·.push (.str fin.1 tv9)) >>= _) _ _ _
          refine wpAny_bind ?_
          have hb := Heap.SameBut.update h9 S (Obj.mapSeq (·.push (Value.str fin.1 tv9)))
          have hg := Heap.get?_update_self (Obj.mapSeq (·.push (Value.str fin.1 tv9))) hS' rfl
          refine wpAny_updateSeq hS' rfl (wpAny_pure ⟨plainId_quiet PySem.F.plain_extend_loop _, ih (acc ++ [.str fin.1 tv9]) _ _ toks' _ (.intro g9 _ tk9 (c + 1) p9 ln9 st9 lt9 tt9 k49 (T0.trans T9) B9 (F9.change hb hSn.1 hSn.2) (fun q hq => ⟨(hb.2 q.1 (hoff q hq)).trans (N9 q hq).1, (N9 q hq).2⟩) (fun q hq => ?_) d9 q9) hlx (by rw [List.length_append, List.length_singleton]; omega) fun vs cs2 ls2 s' hl' hv' => ?_⟩)
            (by show acc.length ≤ _; rw [sizeLine_eq]; omega) (by rw [Array.size_push]; show acc.length + 1 ≤ _; rw [sizeLine_eq]; omega)
          · obtain rfl := List.mem_singleton.mp hq
            refine ⟨hg.trans ?_, hSn⟩
            simp [Obj.mapSeq, W.listOf]
          · rw [List.append_assoc] at hl'
            exact hR _ _ _ _ hl' (.cons _ _ hv')

end

/-! ## R15 -/
section
open PySem.Calls PySem.Spec
set_option maxRecDepth 100000 in
set_option maxHeartbeats 8000000 in
theorem it_spec {w : World} {mean : ExcName → Option Value} {mg mb : Str → Option Value}
    {dp un : Nat} {gd : Option (List Code)} {cn : Str} {cs : Scope} {a : Addr} {ccd : Value} {cl : List (Str × Addr)} {outer : List Env} {A₀ : Around} {base h₀ : Heap} {L : Addr} {m : Str → Option Value} {s : Shared} {Q E : Value → Shared → Prop} {κ ν : Nat → Tok} {x dx I dI D1 D2 : Addr} {tx : Str} {t k1 k2 k3 k4 lt tt st0 : Tok} {p ln : Int} {ls0 : LS} {R : Value → Shared → Prop} {S : Addr} {oS : Obj}
    (NS : News h₀ L s.heap [(S, oS)]) (B : Below A₀ base outer h₀) (F : Fr h₀ L s.heap m) (X : (Mine.hd.heap_1_39 w.params).In h₀) (N : News h₀ L s.heap [(x, instObj 854 dx), (dx, lexD w κ ν I D1 D2 (lsVal ls0 st0) ln lt (Str.ofString "") tt), (I, instObj 719 dI), (dI, sioD w tx t p k1 k2 k3 k4), (D1, dqObj), (D2, dqObj)]) (T : (Top Mine.hd.view_1_40 (looseW Mine.hd.view_1_40 [Str.ofString "check_arg_types_genericpath", Str.ofString "join_posixpath", Str.ofString "_twin_re_1", Str.ofString "UnsupportedOperation", Str.ofString "IOBase", Str.ofString "BufferedIOBase", Str.ofString "TextIOBase", Str.ofString "BytesIO", Str.ofString "StringIO", Str.ofString "check_arg_types_path", Str.ofString "join_path", Str.ofString "shlex", Str.ofString "split", Str.ofString "_find_unsafe"]) mean mg mb h₀)) (hk : cs.kind = .function)
    (hd : dp + 20 < recursionLimit) (hu : un + 124 < cLine)
    (o1 : @LT.lt Nat _ dx x) (o2 : @LT.lt Nat _ x dI) (o3 : @LT.lt Nat _ dI I) (o4 : @LT.lt Nat _ I D1) (o5 : @LT.lt Nat _ D1 D2) (o6 : @LT.lt Nat _ D2 S)
    (hret : ∀ (h' : Heap) (tk' : Nat), Fr h₀ L h' m → News h₀ L h' [(x, instObj 854 dx), (dx, lexD w κ ν I D1 D2 (lsVal ls0 st0) ln lt (Str.ofString "") tt), (I, instObj 719 dI), (dI, sioD w tx t p k1 k2 k3 k4), (D1, dqObj), (D2, dqObj)] → News h₀ L h' [(S, oS)] → R (.ref x) { s with heap := h', toks := tk' }) :
    wpAny (model PySem.Challenge.rw_ik0143_01.row.prog w) (ktrTop dp un gd cn cs L a ccd cl outer) (pyIter (.ref x)) R E s := by
  k_dflt (refine' owit_iter (C := 854) (f := 844) F X ?I ?hs ?hf ?_; (case I => k_inst); (case hs => k_is); (case hf => k_is))
  refine wpAny_call ?_
  k_dflt (refine' code_defG B F X N T ?kA ?kF ?kK ?k6 ?k7 ?k8 ?k9 ?kB ?_ ?c2 ?c3 ?c4 ?c5; (case kA => exact rfl); (case kF => exact rfl); (case kK => exact hk); (case k6 => k_is); (case k7 => k_is); (case k8 => ktr_room); (case k9 => first | exact BindsTo.of_eq rfl | exact binds_K (by k_in) rfl (by k_is) rfl rfl rfl); (case c5 => decide); (case kB => exact locs rfl); (case c2 => exact rfl); (case c3 => exact rfl); (case c4 => exact rfl); k_whole; intro g' L' h' FG' F' N' B' X' T' kG'; (try (refine Mine.fold_e ?_; intro ev ar qk ek sk)))
  have hS : g'.get? S = some oS := kG' _ _ (NS _ (List.mem_singleton_self _)).1 (six_off o1 o2 o3 o4 o5 o6)
  have NS2 := (NS _ (List.mem_singleton_self _)).2
  clear NS
  repeat' (first | ((fail_if_success (fail_if_success k_unfold)); first | (with_reducible refine (?_ : wpAny _ _ _ _ _ _)) | (with_reducible refine (?_ : LeaveK _ _ _ _ _ _ _))) | (k_unfold; (try dsimp only)) | ((fail_if_success (fail_if_success k_fold)); (with_reducible refine Mine.fold_q ?_); intro qk ek sk; (try ((with_reducible rename Fr _ _ _ _ => kF); (fail_if_success (have := Mine.pin_chk kF (by with_reducible assumption))); (refine Mine.pin_m kF ?_); intro mk kF9 pk; (try clear kF); (with_reducible rename News _ _ _ _ => kN); (refine Mine.pin_N kN ?_); intro nk kN9; (try clear kN)))) | walk1 | (dsimp only; walk1) | (leave1; walk_say "STEP leave1"; try dsimp only) | fail "no step")
  rename (News h₀ L _ _) => kN9
  exact hret _ _ (by k_asm) kN9 (fun p hp => by obtain rfl := List.mem_singleton.mp hp; exact ⟨Fr.keep (by assumption : Fr g' L' _ _) _ _ hS, NS2⟩)
theorem lex_nolen (w : World) : findIn (Mine.hd.heap_1_39 w.params) (.ref 854) "__len__" = some none := by k_is
theorem lex_nohint (w : World) : findIn (Mine.hd.heap_1_39 w.params) (.ref 854) "__length_hint__" = some none := by k_is
set_option maxRecDepth 100000 in
set_option maxHeartbeats 8000000 in
theorem list_spec {w : World} {mean : ExcName → Option Value} {mg mb : Str → Option Value}
    {dp un : Nat} {gd : Option (List Code)} {cn : Str} {cs : Scope} {a : Addr} {ccd : Value} {cl : List (Str × Addr)} {outer : List Env} {A₀ : Around} {base h₀ : Heap} {L : Addr} {m : Str → Option Value} {s : Shared} {Q E : Value → Shared → Prop} {κ ν : Nat → Tok} {x dx I dI D1 D2 : Addr} {tx : Str} {t k1 k2 k3 k4 lt tt st0 : Tok} {p ln : Int} {ls0 : LS} {toks : List Str} {n : Nat} {cs0 : List Nat}
    (B : Below A₀ base outer h₀) (F : Fr h₀ L s.heap m) (X : (Mine.hd.heap_1_39 w.params).In h₀) (N : News h₀ L s.heap [(x, instObj 854 dx), (dx, lexD w κ ν I D1 D2 (lsVal ls0 st0) ln lt (Str.ofString "") tt), (I, instObj 719 dI), (dI, sioD w tx t p k1 k2 k3 k4), (D1, dqObj), (D2, dqObj)]) (T : (Top Mine.hd.view_1_40 (looseW Mine.hd.view_1_40 [Str.ofString "check_arg_types_genericpath", Str.ofString "join_posixpath", Str.ofString "_twin_re_1", Str.ofString "UnsupportedOperation", Str.ofString "IOBase", Str.ofString "BufferedIOBase", Str.ofString "TextIOBase", Str.ofString "BytesIO", Str.ofString "StringIO", Str.ofString "check_arg_types_path", Str.ofString "join_path", Str.ofString "shlex", Str.ofString "split", Str.ofString "_find_unsafe"]) mean mg mb h₀)) (hk : cs.kind = .function) (XB : (Mine.hd.heap_1_39 w.params).In base) (TB : Top Mine.hd.view_1_40 (looseW Mine.hd.view_1_40 [Str.ofString "check_arg_types_genericpath", Str.ofString "join_posixpath", Str.ofString "_twin_re_1", Str.ofString "UnsupportedOperation", Str.ofString "IOBase", Str.ofString "BufferedIOBase", Str.ofString "TextIOBase", Str.ofString "BytesIO", Str.ofString "StringIO", Str.ofString "check_arg_types_path", Str.ofString "join_path", Str.ofString "shlex", Str.ofString "split", Str.ofString "_find_unsafe"]) mean mg mb base)
    (hd : dp + 24 < recursionLimit) (hu : un + 140 < cLine) (hx : tx.length ≤ 100000) (hp0 : 0 ≤ p) (hcs : tx.cps.toList.drop p.toNat = cs0) (hnl : ∀ c ∈ tx.cps.toList, c ≠ 10) (hlx : lexF n cs0 ls0 = some toks) (hn : n ≤ 1000)
    (o1 : @LT.lt Nat _ dx x) (o2 : @LT.lt Nat _ x dI) (o3 : @LT.lt Nat _ dI I) (o4 : @LT.lt Nat _ I D1) (o5 : @LT.lt Nat _ D1 D2)
    (hret : ∀ (vs : List Value) (g9 : Heap) (S : Addr) (c : Nat) (h' : Heap) (tk' : Nat), StrsAre vs toks → KtsTurn (frs outer) h₀ g9 → Below A₀ base outer g9 → Fr g9 L h' m → News g9 L h' [(S, listOf vs.toArray c)] → Q (.ref S) { s with heap := h', toks := tk' }) :
    wpAny (model PySem.Challenge.rw_ik0143_01.row.prog w) (ktrTop dp un gd cn cs L a ccd cl outer) (call (.type "list") [.ref x]) Q E s := by
  have IA : PySem.W.InstAt s.heap x (instObj 854 dx) 854 (some (lexD w κ ν I D1 D2 (lsVal ls0 st0) ln lt (Str.ofString "") tt)) := by k_inst
  have hlt : ∀ q ∈ [(x, instObj 854 dx), (dx, lexD w κ ν I D1 D2 (lsVal ls0 st0) ln lt (Str.ofString "") tt), (I, instObj 719 dI), (dI, sioD w tx t p k1 k2 k3 k4), (D1, dqObj), (D2, dqObj)], q.1 < s.heap.objs.size := fun q hq => Heap.lt_size (N q hq).1
  have hxS : x < s.heap.objs.size := hlt _ (List.mem_cons_self ..)
  have o6 : @LT.lt Nat _ D2 s.heap.objs.size := hlt (D2, dqObj) (by simp)
  have nS₀ : h₀.get? s.heap.objs.size = none := next_is_new F
  have nSL : s.heap.objs.size ≠ L := fun e => absurd F.ns.lt (by rw [← e]; exact Nat.lt_irrefl _)
  refine callType_codes (Q₁ := fun obj s₁ => obj = .ref s.heap.objs.size ∧ s₁ = { s with heap := s.heap.push { cls := .type "list", data := .seq #[] } }) PySem.F.called_list (PySem.F.typeCall_list_1 _) PySem.F.entry_list_init
    (code_list_new _ ⟨rfl, rfl⟩) fun obj s₁ h₁ => ?_
  obtain ⟨rfl, rfl⟩ := h₁
  have hS : (s.heap.push { cls := .type "list", data := .seq #[] }).get? s.heap.objs.size = some { cls := .type "list", data := .seq #[] } := Heap.get?_push_size _ rfl
  refine ⟨⟨_, hS, rfl⟩, PySem.F.args_list_init_2 _ _, ?_⟩
  show wpAny _ (ktrTop dp (un + 2) gd cn cs L a ccd cl outer) (do let old ← Builtin.List.listItems (.ref s.heap.objs.size); Builtin.List.listUpdate (.ref s.heap.objs.size) (fun _ => #[]); letGo old.toList.reverse; Builtin.List.listExtendWith (.ref s.heap.objs.size) (.ref x) .none) _ _ _
  refine wpAny_bind ?_
  unfold Builtin.List.listItems
  refine wpAny_bind (wpAny_seqItems hS rfl (wpAny_pure ?_))
  show wpAny _ _ (updateSeq s.heap.objs.size (fun _ => #[]) >>= fun _ => letGo (#[] : Array Value).toList.reverse >>= fun _ => Builtin.List.listExtendWith (.ref s.heap.objs.size) (.ref x) .none) _ _ _
  refine wpAny_bind (wpAny_updateSeq hS rfl ?_)
  have hS₂ := Heap.get?_update_self (Obj.mapSeq (fun _ => (#[] : Array Value))) hS rfl
  have hb := Heap.SameBut.update (s.heap.push { cls := .type "list", data := .seq #[] }) s.heap.objs.size (Obj.mapSeq (fun _ => (#[] : Array Value)))
  generalize ((s.heap.push { cls := .type "list", data := .seq #[] }).update s.heap.objs.size (Obj.mapSeq (fun _ => (#[] : Array Value)))) = H2 at hS₂ hb ⊢
  have old : ∀ b o, s.heap.get? b = some o → H2.get? b = some o := fun b o e => hb.extBut b o (Nat.ne_of_lt (Heap.lt_size e)) (Heap.get?_push_of_some _ e)
  have F2 : Fr h₀ L H2 m := F.keeps old
  have N2 := N.grown old
  have I2 : PySem.W.InstAt H2 x (instObj 854 dx) 854 (some (lexD w κ ν I D1 D2 (lsVal ls0 st0) ln lt (Str.ofString "") tt)) := PySem.W.InstAt.of_news N2 (by k_mem) (by k_mem)
  have NS2 : News h₀ L H2 [(s.heap.objs.size, listOf ([] : List Value).toArray 0)] := fun q hq => by obtain rfl := List.mem_singleton.mp hq; exact ⟨hS₂, nSL, nS₀⟩
  refine wpAny_bind (wpAny_letGo ?_)
  unfold Builtin.List.listExtendWith
  refine wpAny_bind (I2.type.here ?_)
  have h1 : Builtin.List.listSameRef (.ref s.heap.objs.size) (.ref x) = false := by
    have : s.heap.objs.size ≠ x := Nat.ne_of_gt hxS
    simp [Builtin.List.listSameRef, this]
  rw [if_neg (by rw [h1]; decide)]
  refine wpAny_bind (it_spec (Q := fun _ _ => True) NS2 B F2 X N2 T hk (by omega) (by omega) o1 o2 o3 o4 o5 o6 ?_)
  intro h3 tk3 F3 N3 NS3
  have I3 : PySem.W.InstAt h3 x (instObj 854 dx) 854 (some (lexD w κ ν I D1 D2 (lsVal ls0 st0) ln lt (Str.ofString "") tt)) := PySem.W.InstAt.of_news N3 (by k_mem) (by k_mem)
  refine wpAny_bind (wpAny_holding ?_)
  unfold Builtin.List.listLengthHint
  refine wpAny_bind (wpAny_bind (I3.type.here ((looks_findIn (X.keeps F3.keep) (lex_nolen w)).here ?_)))
  show wpAny _ _ (specialOf (Value.ref x) (Str.ofString "__length_hint__") >>= _) _ _ _
  refine wpAny_bind (wpAny_bind (I3.type.here ((looks_findIn (X.keeps F3.keep) (lex_nohint w)).here ?_)))
  refine wpAny_pure ?_
  show wpAny _ _ (rule "list.extend.makes-room" >>= fun _ => Builtin.List.listTouch (.ref s.heap.objs.size) >>= fun _ =>
    again (.builtin "list.extend.loop" ⟨[.ref s.heap.objs.size, .ref x, .none], []⟩)) _ _ _
  refine wpAny_bind (wpAny_rule ?_)
  refine wpAny_bind ?_
  show wpAny _ _ (updateSeq s.heap.objs.size (·.push .none) >>= fun _ => updateSeq s.heap.objs.size (·.pop)) _ _ _
  have hS3 := (NS3 _ (List.mem_singleton_self _)).1
  refine wpAny_bind (wpAny_updateSeq hS3 rfl ?_)
  have hS₄ := Heap.get?_update_self (Obj.mapSeq (·.push Value.none)) hS3 rfl
  refine wpAny_updateSeq (hz := by seq_fits) hS₄ rfl ?_
  have hS₅ := Heap.get?_update_self (Obj.mapSeq (·.pop)) hS₄ rfl
  have hb4 := Heap.SameBut.update h3 s.heap.objs.size (Obj.mapSeq (·.push Value.none))
  have hb5 := Heap.SameBut.update (h3.update s.heap.objs.size (Obj.mapSeq (·.push Value.none))) s.heap.objs.size (Obj.mapSeq (·.pop))
  generalize ((h3.update s.heap.objs.size (Obj.mapSeq (·.push Value.none))).update s.heap.objs.size (Obj.mapSeq (·.pop))) = H5 at hS₅ hb5 ⊢
  have hoff := six_ne (six_off (a := instObj 854 dx) (b := lexD w κ ν I D1 D2 (lsVal ls0 st0) ln lt (Str.ofString "") tt) (c := instObj 719 dI) (d := sioD w tx t p k1 k2 k3 k4) (e := dqObj) (f := dqObj) o1 o2 o3 o4 o5 o6)
  refine wpAny_pure ⟨plainId_quiet PySem.F.plain_extend_loop _, ?_⟩
  show codeAny _ (ktrTop dp (un + 1) gd cn cs L a ccd cl outer) _ _ _
  refine ext_loop (s0 := s) XB TB hk (by omega) (by omega) hx hnl o1 o2 o3 o4 o5 o6 n [] cs0 ls0 toks _ (.intro h₀ H5 _ 2 p ln st0 lt tt k4 KtsTurn.refl B ((F3.change hb4 nSL nS₀).change hb5 nSL nS₀) (fun q hq => ⟨(hb5.2 q.1 (hoff q hq)).trans ((hb4.2 q.1 (hoff q hq)).trans (N3 q hq).1), (N3 q hq).2⟩) (fun q hq => by obtain rfl := List.mem_singleton.mp hq; exact ⟨hS₅, nSL, nS₀⟩) hcs hp0) hlx (by simpa using hn) ?_
  intro vs cs2 ls2 s' hl hv
  obtain ⟨g, h, tk, c, p9, ln9, st9, lt9, tt9, k49, T9, B9, F9, N9, NS9, _, _⟩ := hl
  exact ⟨rfl, hret vs g _ c h tk hv T9 B9 F9 NS9⟩

end

/-! ## R16 -/
section
theorem lex_news {w : World} {h₀ h : Heap} {L D1 D2 I dI x dx : Addr} {O : Obj} {c0 c1 c2 c3 c4 c5 c6 c7 c8 c9 c10 c11 c12 c13 c14 c15 c16 c17 c18 v4 v5 v6 v8 v9 v10 st lt v14 tt v18 : Tok}
    (N : News h₀ L h [(D2, dqObj), (D1, dqObj), (I, instObj 719 dI), (dI, O), (x, instObj 854 dx), (dx, dictOf [ent w "instream" c0 (.ref I), ent w "infile" c1 (.none), ent w "posix" c2 (.bool true), ent w "eof" c3 (.none), ent w "commenters" c4 (.str (Str.ofString "#") v4), ent w "wordchars" c5 (.str (Str.ofString "abcdfeghijklmnopqrstuvwxyzABCDEFGHIJKLMNOPQRSTUVWXYZ0123456789_ßàáâãäåæçèéêëìíîïðñòóôõöøùúûüýþÿÀÁÂÃÄÅÆÇÈÉÊËÌÍÎÏÐÑÒÓÔÕÖØÙÚÛÜÝÞ") v5), ent w "whitespace" c6 (.str (Str.ofString " \t\r\n") v6), ent w "whitespace_split" c7 (.bool true), ent w "quotes" c8 (.str (Str.ofString "'\"") v8), ent w "escape" c9 (.str (Str.ofString "\\") v9), ent w "escapedquotes" c10 (.str (Str.ofString "\"") v10), ent w "state" c11 (.str (Str.ofString " ") st), ent w "pushback" c12 (.ref D1), ent w "lineno" c13 (.int 1 lt), ent w "debug" c14 (.int 0 v14), ent w "token" c15 (.str (Str.ofString "") tt), ent w "filestack" c16 (.ref D2), ent w "source" c17 (.none), ent w "_punctuation_chars" c18 (.str (Str.ofString "") v18)] 19)]) :
    ∃ κ ν : Nat → Tok, News h₀ L h [(x, instObj 854 dx), (dx, lexD w κ ν I D1 D2 (lsVal .s0 st) 1 lt (Str.ofString "") tt), (I, instObj 719 dI), (dI, O), (D1, dqObj), (D2, dqObj)] := by
  refine ⟨fun i => [c0, c1, c2, c3, c4, c5, c6, c7, c8, c9, c10, c11, c12, c13, c14, c15, c16, c17, c18].getD i 0, fun i => [0, 0, 0, 0, v4, v5, v6, 0, v8, v9, v10, 0, 0, 0, v14, 0, 0, 0, v18].getD i 0, fun p hp => ?_⟩
  rcases List.mem_cons.mp hp with rfl | hp
  · exact N _ (.tail _ (.tail _ (.tail _ (.tail _ (.head _)))))
  rcases List.mem_cons.mp hp with rfl | hp
  · exact N _ (.tail _ (.tail _ (.tail _ (.tail _ (.tail _ (.head _))))))
  rcases List.mem_cons.mp hp with rfl | hp
  · exact N _ (.tail _ (.tail _ (.head _)))
  rcases List.mem_cons.mp hp with rfl | hp
  · exact N _ (.tail _ (.tail _ (.tail _ (.head _))))
  rcases List.mem_cons.mp hp with rfl | hp
  · exact N _ (.tail _ (.head _))
  rcases List.mem_cons.mp hp with rfl | hp
  · exact N _ (.head _)
  · cases hp
set_option maxRecDepth 100000 in
set_option maxHeartbeats 8000000 in
theorem split_spec {w : World} {mean : ExcName → Option Value} {mg mb : Str → Option Value}
    {dp un : Nat} {gd : Option (List Code)} {cn : Str} {cs : Scope} {a : Addr} {ccd : Value} {cl : List (Str × Addr)} {outer : List Env} {A₀ : Around} {base h₀ : Heap} {L : Addr} {m : Str → Option Value} {news : List (Addr × Obj)} {s : Shared} {Q E : Value → Shared → Prop} {tx : Str} {t : Tok} {toks : List Str} {n : Nat}
    (XB : (Mine.hd.heap_1_39 w.params).In base) (TB : Top Mine.hd.view_1_40 (looseW Mine.hd.view_1_40 [Str.ofString "check_arg_types_genericpath", Str.ofString "join_posixpath", Str.ofString "_twin_re_1", Str.ofString "UnsupportedOperation", Str.ofString "IOBase", Str.ofString "BufferedIOBase", Str.ofString "TextIOBase", Str.ofString "BytesIO", Str.ofString "StringIO", Str.ofString "check_arg_types_path", Str.ofString "join_path", Str.ofString "shlex", Str.ofString "split", Str.ofString "_find_unsafe"]) mean mg mb base) (B : Below A₀ base outer h₀) (F : Fr h₀ L s.heap m) (X : (Mine.hd.heap_1_39 w.params).In h₀) (N : News h₀ L s.heap news) (T : (Top Mine.hd.view_1_40 (looseW Mine.hd.view_1_40 [Str.ofString "check_arg_types_genericpath", Str.ofString "join_posixpath", Str.ofString "_twin_re_1", Str.ofString "UnsupportedOperation", Str.ofString "IOBase", Str.ofString "BufferedIOBase", Str.ofString "TextIOBase", Str.ofString "BytesIO", Str.ofString "StringIO", Str.ofString "check_arg_types_path", Str.ofString "join_path", Str.ofString "shlex", Str.ofString "split", Str.ofString "_find_unsafe"]) mean mg mb h₀)) (hk : cs.kind = .function)
    (hd : dp + 28 < recursionLimit) (hu : un + 160 < cLine) (hx : tx.length ≤ 100000) (hnl : ∀ c ∈ tx.cps.toList, c ≠ 10) (hlx : lexF n tx.cps.toList .s0 = some toks) (hn : n ≤ 1000)
    (hret : ∀ (vs : List Value) (g9 : Heap) (S : Addr) (c : Nat) (h' : Heap) (tk' : Nat), StrsAre vs toks → KtsTurn (frs outer) h₀ g9 → Below A₀ base outer g9 → Fr g9 L h' m → News g9 L h' news → News g9 L h' [(S, listOf vs.toArray c)] → Q (.ref S) { s with heap := h', toks := tk' }) :
    wpAny (model PySem.Challenge.rw_ik0143_01.row.prog w) (ktrTop dp un gd cn cs L a ccd cl outer) (call (.ref 866) [.str tx t] [(Str.ofString "comments", .bool true)]) Q E s := by
  refine wpAny_call ?_
  k_dflt (refine' code_defT B F X News.nil T ?kA ?kF ?kK ?k6 ?k7 ?k8 ?k9 ?kB ?_ ?c2 ?c3 ?c4 ?c5; (case kA => exact rfl); (case kF => exact rfl); (case kK => exact hk); (case k6 => k_is); (case k7 => k_is); (case k8 => ktr_room); (case k9 => first | exact BindsTo.of_eq rfl | exact binds_K (by k_in) rfl (by k_is) rfl rfl rfl); (case c5 => decide); (case kB => exact locs rfl); (case c2 => exact rfl); (case c3 => exact rfl); (case c4 => exact rfl); k_whole; intro g' L' h' FG' F' N' B' X' T' kG'; (try (refine Mine.fold_e ?_; intro ev ar qk ek sk)))
  repeat' (first | ((fail_if_success (fail_if_success k_unfold)); first | (with_reducible refine (?_ : wpAny _ _ _ _ _ _)) | (with_reducible refine (?_ : LeaveK _ _ _ _ _ _ _))) | (k_unfold; (try dsimp only)) | ((fail_if_success (fail_if_success k_fold)); (with_reducible refine Mine.fold_q ?_); intro qk ek sk; (try ((with_reducible rename Fr _ _ _ _ => kF); (fail_if_success (have := Mine.pin_chk kF (by with_reducible assumption))); (refine Mine.pin_m kF ?_); intro mk kF9 pk; (try clear kF); (with_reducible rename News _ _ _ _ => kN); (refine Mine.pin_N kN ?_); intro nk kN9; (try clear kN)))) | walk1 | (dsimp only; walk1) | (leave1; walk_say "STEP leave1"; try dsimp only) | fail "no step")
  rename (News g' L' _ _) => N7
  obtain ⟨κ, ν, N8⟩ := lex_news N7
  have hx2 : tx.cps.toList.drop (0 : Int).toNat = tx.cps.toList := rfl
  k_dflt (refine' list_spec B' (by k_asm) X' N8 T' rfl XB TB ?hd ?hu hx (Int.le_refl 0) hx2 hnl hlx hn ?o1 ?o2 ?o3 ?o4 ?o5 ?_; (case hd => ktr_room); (case hu => ktr_units); (case o1 => omega); (case o2 => omega); (case o3 => omega); (case o4 => omega); (case o5 => omega))
  intro vs g9 S c h9 tk9 hv T9 B9 F9 N9
  exact leaveT_ T9 F9 N9 fun h₀' T8 B8 F8 N8 => hret vs h₀' S c h9 tk9 hv T8 B8 F8 (newsT_back rfl B N kG' T9 F9 T8) N8

end

theorem words11 : True := by
  k_with "call ref" => ((k_here; k_dflt (show wpAny _ _ (call (Value.ref 152) [Value.str _ _, Value.str _ _]) _ _ _); k_dflt (refine' Mine.join_spec ?k1_26 ?k2_26 ?k3_26 ?k4_26 ?k5_26 ?k6_26 ?k7_26 ?k8_26 ?k9_26 ?_; (((case k1_26 => k_asm); (case k2_26 => k_asm); (case k3_26 => k_asm); (case k4_26 => k_asm); (case k5_26 => k_asm); (case k6_26 => first | exact rfl | assumption)); (case k7_26 => ktr_room); (case k8_26 => ktr_units)); (case k9_26 => with_reducible assumption); k_whole); intro b9z t9z h9z tk9z e9z F9z N9z; subst e9z; (try dsimp only)))
  k_with "call ref" => ((k_here; k_dflt (show wpAny _ _ (call (Value.ref 166) [Value.str _ _]) _ _ _); k_dflt (refine' Mine.normpath_spec ?k1_27 ?k2_27 ?k3_27 ?k4_27 ?k5_27 ?k6_27 ?k7_27 ?k8_27 ?m1_27 ?m2_27 ?m3_27 ?m4_27 ?m5_27 ?m6_27 ?_; (((case k1_27 => k_asm); (case k2_27 => k_asm); (case k3_27 => k_asm); (case k4_27 => k_asm); (case k5_27 => k_asm); (case k6_27 => first | exact rfl | assumption)); (case k7_27 => ktr_room); (case k8_27 => ktr_units)); (case m1_27 => with_reducible assumption); (case m2_27 => with_reducible assumption); (case m3_27 => with_reducible assumption); (case m4_27 => with_reducible assumption); (case m5_27 => with_reducible assumption); (case m6_27 => with_reducible assumption); k_whole); intro t9z h9z tk9z F9z N9z; (try dsimp only)))
  k_with "call ref" => ((k_here; k_dflt (show wpAny _ _ (call (Value.ref 866) [Value.str _ _] [(_, Value.bool true)]) _ _ _); k_dflt (refine' Mine.split_spec ?xb_28 ?tb_28 ?k1_28 ?k2_28 ?k3_28 ?k4_28 ?k5_28 ?k6_28 ?k7_28 ?k8_28 ?m1_28 ?m2_28 ?m3_28 ?m4_28 ?_; (case k1_28 => k_asm); (case k2_28 => k_asm); (case k3_28 => k_asm); (case k4_28 => k_asm); (case k5_28 => k_asm); (case xb_28 => assumption); (case tb_28 => assumption); (case k6_28 => first | exact rfl | assumption); (case k7_28 => ktr_room); (case k8_28 => ktr_units); (case m1_28 => with_reducible assumption); (case m2_28 => with_reducible assumption); (case m3_28 => with_reducible assumption); (case m4_28 => with_reducible assumption); k_whole); intro vs9z g9z S9z c9z h9z tk9z hv9z T9z B9z F9z N9z NS9z; (try dsimp only)))
  k_with "eval ListComp" => ((k_here; k_dflt (refine Mine.ListComp_L (by rfl) (by decide) (by rfl) (by decide) (by rfl) (by intro _; rfl) ?_)))
  trivial
/-! ## R17 -/
section
open PySem.Calls PySem.Spec LCg LCt
noncomputable def nmF (p : Str) : Str := srI (jnP p) ++ Txt.join (Str.ofString "/") (npEnd (jnP p))
structure RdOk (p : Str) : Prop where
  a : p.length ≤ 1048
  b : (jnP p).length ≤ 1048576
  c : (jnP p).length ≠ 0
  d : (srI (jnP p)).length ≠ 0
  e : (Txt.split (srP (jnP p)) (Str.ofString "/")).length ≤ 1000
  f : ((npEnd (jnP p)).map (·.length)).sum + (npEnd (jnP p)).length * 64 ≤ 16777216
  g : (Txt.join (Str.ofString "/") (npEnd (jnP p))).length ≤ 1048576
set_option maxRecDepth 100000 in
set_option maxHeartbeats 8000000 in
theorem read_spec {w : World} {mean : ExcName → Option Value} {mg mb : Str → Option Value}
    {dp un : Nat} {gd : Option (List Code)} {cn : Str} {cs : Scope} {a : Addr} {ccd : Value} {cl : List (Str × Addr)} {outer : List Env} {A₀ : Around} {base h₀ : Heap} {L : Addr} {m : Str → Option Value} {news : List (Addr × Obj)} {s : Shared} {Q E : Value → Shared → Prop} {tx : Str} {t : Tok} {toks : List Str} {n : Nat}
    (XB : (Mine.hd.heap_1_39 w.params).In base) (TB : Top Mine.hd.view_1_40 (looseW Mine.hd.view_1_40 [Str.ofString "check_arg_types_genericpath", Str.ofString "join_posixpath", Str.ofString "_twin_re_1", Str.ofString "UnsupportedOperation", Str.ofString "IOBase", Str.ofString "BufferedIOBase", Str.ofString "TextIOBase", Str.ofString "BytesIO", Str.ofString "StringIO", Str.ofString "check_arg_types_path", Str.ofString "join_path", Str.ofString "shlex", Str.ofString "split", Str.ofString "_find_unsafe"]) mean mg mb base) (B : Below A₀ base outer h₀) (F : Fr h₀ L s.heap m) (X : (Mine.hd.heap_1_39 w.params).In h₀) (N : News h₀ L s.heap news) (T : (Top Mine.hd.view_1_40 (looseW Mine.hd.view_1_40 [Str.ofString "check_arg_types_genericpath", Str.ofString "join_posixpath", Str.ofString "_twin_re_1", Str.ofString "UnsupportedOperation", Str.ofString "IOBase", Str.ofString "BufferedIOBase", Str.ofString "TextIOBase", Str.ofString "BytesIO", Str.ofString "StringIO", Str.ofString "check_arg_types_path", Str.ofString "join_path", Str.ofString "shlex", Str.ofString "split", Str.ofString "_find_unsafe"]) mean mg mb h₀)) (hk : cs.kind = .function)
    (hd : dp + 32 < recursionLimit) (hu : un + 180 < cLine) (hx : tx.length ≤ 100000) (hnl : ∀ c ∈ tx.cps.toList, c ≠ 10) (hlx : lexF n tx.cps.toList .s0 = some toks) (hn : n ≤ 1000) (hlen : toks.length ≤ 1000) (hrd : ∀ p ∈ toks, RdOk p)
    (hret : ∀ (vs : List Value) (g9 : Heap) (S : Addr) (c : Nat) (h' : Heap) (tk' : Nat), StrsAre vs (toks.map nmF) → KtsTurn (frs outer) h₀ g9 → Below A₀ base outer g9 → Fr g9 L h' m → News g9 L h' news → News g9 L h' [(S, listOf vs.toArray c)] → (∀ p ∈ news, @Ne Nat p.1 S) → Q (.ref S) { s with heap := h', toks := tk' }) :
    wpAny (model PySem.Challenge.rw_ik0143_01.row.prog w) (ktrTop dp un gd cn cs L a ccd cl outer) (call (.ref 891) [.str tx t]) Q E s := by
  refine wpAny_call ?_
  k_dflt (refine' code_defT B F X News.nil T ?kA ?kF ?kK ?k6 ?k7 ?k8 ?k9 ?kB ?_ ?c2 ?c3 ?c4 ?c5; (case kA => exact rfl); (case kF => exact rfl); (case kK => exact hk); (case k6 => k_is); (case k7 => k_is); (case k8 => ktr_room); (case k9 => first | exact BindsTo.of_eq rfl | exact binds_K (by k_in) rfl (by k_is) rfl rfl rfl); (case c5 => decide); (case kB => exact locs rfl); (case c2 => exact rfl); (case c3 => exact rfl); (case c4 => exact rfl); k_whole; intro g' L' h' FG' F' N' B' X' T' kG'; (try (refine Mine.fold_e ?_; intro ev ar qk ek sk)))
  repeat' (first | ((fail_if_success (fail_if_success k_unfold)); first | (with_reducible refine (?_ : wpAny _ _ _ _ _ _)) | (with_reducible refine (?_ : LeaveK _ _ _ _ _ _ _))) | (k_unfold; (try dsimp only)) | ((fail_if_success (fail_if_success k_fold)); (with_reducible refine Mine.fold_q ?_); intro qk ek sk; (try ((with_reducible rename Fr _ _ _ _ => kF); (fail_if_success (have := Mine.pin_chk kF (by with_reducible assumption))); (refine Mine.pin_m kF ?_); intro mk kF9 pk; (try clear kF); (with_reducible rename News _ _ _ _ => kN); (refine Mine.pin_N kN ?_); intro nk kN9; (try clear kN)))) | walk1 | (dsimp only; walk1) | (leave1; walk_say "STEP leave1"; try dsimp only) | fail "no step")
  rename (StrsAre _ _) => hv9
  rename (KtsTurn _ _ _) => T9
  rename (Below _ _ _ _) => B9
  rename (Fr _ L' _ _) => F9
  rename (News _ _ _ [(_, listOf _ _)]) => NS9
  have X9 := XB.keeps B9.stays
  have P9 := TB.keeps B9.stays
  (try clear F'); (try clear N'); (try clear kF9); (try clear kN9); clear B' X' T'
  have hl9 := hv9.length
  show Keep _
  refine ListMet.intro _ _ _ _ _ _ _ _ rfl F9 NS9 (List.mem_singleton_self _) (by rw [List.size_toArray, hl9, sizeLine_eq]; omega) fun gq => ?_
  rw [List.size_toArray, hl9]
  refine comp_fix (fun i ys => StrsAre ys ((toks.take i).map nmF)) .nil ?_ ?_
  · intro i ys v I oI C oC D m₂ h tk E' hi hys hv hC hx' F1 N1 off ne
    obtain ⟨c, t, hc, rfl⟩ := strsAre_get hv9 (by simpa using hv)
    obtain ⟨r1, r2, r3, r4, r5, r6, r7⟩ := hrd c (List.mem_of_getElem? hc)
    simp only [LCg.Off3, and_true] at off
    clear F9 NS9 hv
    repeat' (first | ((fail_if_success (fail_if_success k_unfold)); first | (with_reducible refine (?_ : wpAny _ _ _ _ _ _)) | (with_reducible refine (?_ : LeaveK _ _ _ _ _ _ _))) | (k_unfold; (try dsimp only)) | ((fail_if_success (fail_if_success k_fold)); (with_reducible refine Mine.fold_q ?_); intro qk ek sk; (try ((with_reducible rename Fr _ _ _ _ => kF); (fail_if_success (have := Mine.pin_chk kF (by with_reducible assumption))); (refine Mine.pin_m kF ?_); intro mk kF9 pk; (try clear kF); (with_reducible rename News _ _ _ _ => kN); (refine Mine.pin_N kN ?_); intro nk kN9; (try clear kN)))) | walk1 | (dsimp only; walk1) | (leave1; walk_say "STEP leave1"; try dsimp only) | fail "no step")
    exact strs_snoc (f := nmF) hys hc
  · intro ys hys D h tk F1 N1 o1
    rw [List.take_of_length_le (Nat.le_refl _)] at hys
    refine leaveT_ T9 F1 N1 fun h₀' T8 B8 F8 N8 => hret ys h₀' D ys.length h tk hys T8 B8 F8 (newsT_back rfl B N kG' T9 F1 T8) (news_sub N8 fun p hp => by rw [List.mem_singleton.mp hp]; exact List.mem_cons_self ..) (turn_new T9 B9 N1 (List.mem_cons_self ..) kG' N)

end

theorem words12 : True := by
  k_with "eval ListComp" => ((k_here; (with_reducible show wpAny _ _ (eval (PySem.Expr.ListComp _ [PySem.Comprehension.mk _ _ [] _] _ _) _) _ _ _); k_dflt (refine Mine.ListComp_V (F₀ := by k_asm) (by with_unfolding_all rfl) (by decide) (by rfl) (by decide) (by rfl) ?_ (by intro _; rfl))))
  k_with "eval ListComp" => ((k_here; (with_reducible show wpAny _ _ (eval (PySem.Expr.ListComp _ [PySem.Comprehension.mk _ _ [_] _] _ _) _) _ _ _); k_dflt (refine Mine.ListComp_TV (F₀ := by k_asm) (by with_unfolding_all rfl) (by decide) (by rfl) (by decide) (by rfl) ?_ (by intro _; rfl))))
  k_with "exec Assign cons ListComp" => ((k_here; (with_reducible show wpAny _ _ (exec (Stmt.Assign _ (PySem.Expr.ListComp _ [PySem.Comprehension.mk _ _ [] _] _ _) _) _) _ _ _); k_dflt (refine Mine.Assign_ListComp_V (F₀ := by k_asm) (by rfl) (by with_unfolding_all rfl) (by with_unfolding_all rfl) (by decide) (by rfl) (by decide) (by rfl) (by rfl) (by rfl) ?_ (by intro _; rfl))))
  k_with "exec Assign cons ListComp" => ((k_here; (with_reducible show wpAny _ _ (exec (Stmt.Assign _ (PySem.Expr.ListComp _ [PySem.Comprehension.mk _ _ [_] _] _ _) _) _) _ _ _); k_dflt (refine Mine.Assign_ListComp_TV (F₀ := by k_asm) (by rfl) (by with_unfolding_all rfl) (by with_unfolding_all rfl) (by decide) (by rfl) (by decide) (by rfl) (by rfl) (by rfl) ?_ (by intro _; rfl))))
  k_with "IfEnd" => (first | (with_reducible refine Mine.IfEnd.yes ?_) | (with_reducible refine Mine.IfEnd.no ?_))
  trivial
/-! ## R18 -/
section
open PySem.Calls PySem.Spec LCg LCt
noncomputable def lpTab : List Str := [Str.ofString "it's", Str.ofString "a b", Str.ofString "#", Str.ofString ".", Str.ofString "..", Str.ofString ""]
noncomputable def lpPc (x : Int) (k : Nat) : Str := lpTab.getD ((((x.fdiv 6).fdiv (6 ^ k)).fmod 6).toNat) (Str.ofString "")
noncomputable def lpPcs (x : Int) (n : Nat) : List Str := (List.range n).map (lpPc x)
noncomputable def lpPath (x : Int) : Str := Str.ofString (if (x.fdiv 3).fmod 2 = 1 then "/" else "") ++ Txt.join (Str.ofString "/") (lpPcs x (1 + x.fmod 3).toNat)
theorem lp_snoc {x : Int} {k : Nat} {ys : List Value} {c : Str} {t : Tok} (h : StrsAre ys (lpPcs x k)) (e : lpTab[(((x.fdiv 6).fdiv (6 ^ k)).fmod 6).toNat]? = some c) : StrsAre (ys ++ [.str c t]) (lpPcs x (k + 1)) := by
  unfold lpPcs
  rw [List.range_succ, List.map_append]
  refine StrsAre.append' h ?_
  have : lpPc x k = c := by unfold lpPc; rw [List.getD_eq_getElem?_getD, e]; rfl
  rw [List.map_cons, List.map_nil, this]
  exact .cons _ _ .nil
theorem lpPc_le (x : Int) (k : Nat) : (lpPc x k).length ≤ 4 := by
  unfold lpPc
  generalize (((x.fdiv 6).fdiv (6 ^ k)).fmod 6).toNat = n
  match n with
  | 0 => decide
  | 1 => decide
  | 2 => decide
  | 3 => decide
  | 4 => decide
  | 5 => decide
  | n + 6 => show (Str.ofString "").length ≤ 4; decide
theorem sum_le4 : ∀ {l : List Str}, (∀ p ∈ l, p.length ≤ 4) → (l.map (·.length)).sum ≤ 4 * l.length
  | [], _ => Nat.le_refl _
  | x :: l, h => by
    have h1 := h x (List.mem_cons_self ..)
    have h2 := sum_le4 fun p hp => h p (List.mem_cons_of_mem _ hp)
    simp only [List.map_cons, List.sum_cons, List.length_cons]; omega
theorem lpPcs_len (x : Int) (n : Nat) : (lpPcs x n).length = n := by unfold lpPcs; simp
theorem lpPcs_ok {x : Int} {n : Nat} (h : n ≤ 3) : ((lpPcs x n).map (·.length)).sum + (lpPcs x n).length * 64 ≤ 16777216 := by
  have h1 := sum_le4 (l := lpPcs x n) (by intro p hp; obtain ⟨k, _, rfl⟩ := List.mem_map.mp hp; exact lpPc_le x k)
  rw [lpPcs_len] at *; omega
theorem jn_len (g : List Nat) : ∀ ps : List (List Nat), (jn g ps).length ≤ (ps.map List.length).sum + ps.length * g.length
  | [] => Nat.zero_le _
  | [x] => by show x.length ≤ _; simp
  | x :: y :: r => by
    have ih := jn_len g (y :: r)
    show (x ++ g ++ jn g (y :: r)).length ≤ _
    rw [List.length_append, List.length_append, List.map_cons, List.sum_cons, List.length_cons, Nat.succ_mul]
    omega
theorem join_len (g : Str) (ps : List Str) : (Txt.join g ps).length ≤ (ps.map (·.length)).sum + ps.length * g.length := by
  have h := jn_len g.cps.toList (ps.map (·.cps.toList))
  rw [← jn_cps, List.map_map, List.length_map] at h
  have e : (ps.map (·.length)).sum = (List.map (List.length ∘ fun x : Str => x.cps.toList) ps).sum := by
    congr 1
  rw [len_cps (Txt.join g ps), len_cps g, e, show Txt.join g ps = Str.join g ps from StrLaws.glued_eq_join g ps]
  exact h
theorem lpJoin_le {x : Int} {n : Nat} (h : n ≤ 3) : (Txt.join (Str.ofString "/") (lpPcs x n)).length ≤ 15 := by
  have h1 := sum_le4 (l := lpPcs x n) (by intro p hp; obtain ⟨k, _, rfl⟩ := List.mem_map.mp hp; exact lpPc_le x k)
  have h2 := join_len (Str.ofString "/") (lpPcs x n)
  rw [show (Str.ofString "/").length = 1 by decide] at h2
  rw [lpPcs_len] at *; omega
set_option maxRecDepth 100000 in
set_option maxHeartbeats 8000000 in
theorem path_spec {w : World} {mean : ExcName → Option Value} {mg mb : Str → Option Value}
    {dp un : Nat} {gd : Option (List Code)} {cn : Str} {cs : Scope} {a : Addr} {ccd : Value} {cl : List (Str × Addr)} {outer : List Env} {A₀ : Around} {base h₀ : Heap} {L : Addr} {m : Str → Option Value} {news : List (Addr × Obj)} {s : Shared} {Q E : Value → Shared → Prop} {x : Int} {t : Tok}
    (B : Below A₀ base outer h₀) (F : Fr h₀ L s.heap m) (X : (Mine.hd.heap_1_39 w.params).In h₀) (N : News h₀ L s.heap news) (T : (Top Mine.hd.view_1_40 (looseW Mine.hd.view_1_40 [Str.ofString "check_arg_types_genericpath", Str.ofString "join_posixpath", Str.ofString "_twin_re_1", Str.ofString "UnsupportedOperation", Str.ofString "IOBase", Str.ofString "BufferedIOBase", Str.ofString "TextIOBase", Str.ofString "BytesIO", Str.ofString "StringIO", Str.ofString "check_arg_types_path", Str.ofString "join_path", Str.ofString "shlex", Str.ofString "split", Str.ofString "_find_unsafe"]) mean mg mb h₀)) (hk : cs.kind = .function)
    (hd : dp + 8 < recursionLimit) (hu : un + 60 < cLine)
    (hret : ∀ (t' : Tok) (h' : Heap) (tk' : Nat), Fr h₀ L h' m → News h₀ L h' news → Q (.str (lpPath x) t') { s with heap := h', toks := tk' }) :
    wpAny (model PySem.Challenge.rw_ik0143_01.row.prog w) (ktrTop dp un gd cn cs L a ccd cl outer) (call (.ref 879) [.int x t]) Q E s := by
  refine wpAny_call ?_
  k_dflt k_enter
  repeat' (first | ((fail_if_success (fail_if_success k_unfold)); first | (with_reducible refine (?_ : wpAny _ _ _ _ _ _)) | (with_reducible refine (?_ : LeaveK _ _ _ _ _ _ _))) | (k_unfold; (try dsimp only)) | ((fail_if_success (fail_if_success k_fold)); (with_reducible refine Mine.fold_q ?_); intro qk ek sk; (try ((with_reducible rename Fr _ _ _ _ => kF); (fail_if_success (have := Mine.pin_chk kF (by with_reducible assumption))); (refine Mine.pin_m kF ?_); intro mk kF9 pk; (try clear kF); (with_reducible rename News _ _ _ _ => kN); (refine Mine.pin_N kN ?_); intro nk kN9; (try clear kN)))) | walk1 | (dsimp only; walk1) | (leave1; walk_say "STEP leave1"; try dsimp only) | fail "no step")
  show Keep _
  rename (IsRange _ _ _ _ _ _ _ _) => hr
  have h3a := Int.fmod_nonneg_of_pos x (by decide : (0 : Int) < 3)
  have h3b := Int.fmod_lt_of_pos x (by decide : (0 : Int) < 3)
  refine CompSrc.range rfl (by k_asm) (by k_asm) hr (small_up (by decide) (by decide) (by omega) (by omega)) (rangeSize_nat _ _) (by rw [sizeLine_eq]; omega) ?_
  intro gq
  refine comp_fix (fun i ys => StrsAre ys (lpPcs x i)) .nil ?_ ?_
  · rintro i ys v I oI C oC D m₂ h tk E' hi hys ⟨t, rfl⟩ hC hx' F1 N1 off ne
    have hi3 : i = 0 ∨ i = 1 ∨ i = 2 := by omega
    have i0 := Int.fmod_nonneg_of_pos ((x.fdiv 6).fdiv (6 ^ i)) (by decide : (0 : Int) < 6)
    have i1 := Int.fmod_lt_of_pos ((x.fdiv 6).fdiv (6 ^ i)) (by decide : (0 : Int) < 6)
    rcases hi3 with rfl | rfl | rfl
    · rw [show (0 : Int) + ((0 : Nat) : Int) = 0 by decide] at hx'
      repeat' (first | ((fail_if_success (fail_if_success k_unfold)); first | (with_reducible refine (?_ : wpAny _ _ _ _ _ _)) | (with_reducible refine (?_ : LeaveK _ _ _ _ _ _ _))) | (k_unfold; (try dsimp only)) | ((fail_if_success (fail_if_success k_fold)); (with_reducible refine Mine.fold_q ?_); intro qk ek sk; (try ((with_reducible rename Fr _ _ _ _ => kF); (fail_if_success (have := Mine.pin_chk kF (by with_reducible assumption))); (refine Mine.pin_m kF ?_); intro mk kF9 pk; (try clear kF); (with_reducible rename News _ _ _ _ => kN); (refine Mine.pin_N kN ?_); intro nk kN9; (try clear kN)))) | ((fail_if_success (with_reducible show wpAny _ _ (subscriptTail _ _ (Value.ref _) (Value.int _ _)) _ _ _)); walk1) | ((fail_if_success (with_reducible show wpAny _ _ (subscriptTail _ _ (Value.ref _) (Value.int _ _)) _ _ _)); dsimp only; walk1) | (leave1; walk_say "STEP leave1"; try dsimp only) | fail "no step")
      k_dflt (refine' Mine.st_item (ss := lpTab) ?l ?i ?a ?b ?z ?_ (by with_unfolding_all rfl); (case l => kmk_list); (case i => exact .cons _ _ (.cons _ _ (.cons _ _ (.cons _ _ (.cons _ _ (.cons _ _ .nil)))))); (case a => exact i0); (case b => exact i1); (case z => (rw [sizeLine_eq]; decide)))
      intro c9 t9 e9
      exact CompEnd.intro (by k_asm) (by k_asm) _ (fun p hp => List.mem_cons_of_mem _ hp) off trivial ⟨rfl, lp_snoc hys e9⟩
    · rw [show (0 : Int) + ((1 : Nat) : Int) = 1 by decide] at hx'
      repeat' (first | ((fail_if_success (fail_if_success k_unfold)); first | (with_reducible refine (?_ : wpAny _ _ _ _ _ _)) | (with_reducible refine (?_ : LeaveK _ _ _ _ _ _ _))) | (k_unfold; (try dsimp only)) | ((fail_if_success (fail_if_success k_fold)); (with_reducible refine Mine.fold_q ?_); intro qk ek sk; (try ((with_reducible rename Fr _ _ _ _ => kF); (fail_if_success (have := Mine.pin_chk kF (by with_reducible assumption))); (refine Mine.pin_m kF ?_); intro mk kF9 pk; (try clear kF); (with_reducible rename News _ _ _ _ => kN); (refine Mine.pin_N kN ?_); intro nk kN9; (try clear kN)))) | ((fail_if_success (with_reducible show wpAny _ _ (subscriptTail _ _ (Value.ref _) (Value.int _ _)) _ _ _)); walk1) | ((fail_if_success (with_reducible show wpAny _ _ (subscriptTail _ _ (Value.ref _) (Value.int _ _)) _ _ _)); dsimp only; walk1) | (leave1; walk_say "STEP leave1"; try dsimp only) | fail "no step")
      k_dflt (refine' Mine.st_item (ss := lpTab) ?l ?i ?a ?b ?z ?_ (by with_unfolding_all rfl); (case l => kmk_list); (case i => exact .cons _ _ (.cons _ _ (.cons _ _ (.cons _ _ (.cons _ _ (.cons _ _ .nil)))))); (case a => exact i0); (case b => exact i1); (case z => (rw [sizeLine_eq]; decide)))
      intro c9 t9 e9
      exact CompEnd.intro (by k_asm) (by k_asm) _ (fun p hp => List.mem_cons_of_mem _ hp) off trivial ⟨rfl, lp_snoc hys e9⟩
    · rw [show (0 : Int) + ((2 : Nat) : Int) = 2 by decide] at hx'
      repeat' (first | ((fail_if_success (fail_if_success k_unfold)); first | (with_reducible refine (?_ : wpAny _ _ _ _ _ _)) | (with_reducible refine (?_ : LeaveK _ _ _ _ _ _ _))) | (k_unfold; (try dsimp only)) | ((fail_if_success (fail_if_success k_fold)); (with_reducible refine Mine.fold_q ?_); intro qk ek sk; (try ((with_reducible rename Fr _ _ _ _ => kF); (fail_if_success (have := Mine.pin_chk kF (by with_reducible assumption))); (refine Mine.pin_m kF ?_); intro mk kF9 pk; (try clear kF); (with_reducible rename News _ _ _ _ => kN); (refine Mine.pin_N kN ?_); intro nk kN9; (try clear kN)))) | ((fail_if_success (with_reducible show wpAny _ _ (subscriptTail _ _ (Value.ref _) (Value.int _ _)) _ _ _)); walk1) | ((fail_if_success (with_reducible show wpAny _ _ (subscriptTail _ _ (Value.ref _) (Value.int _ _)) _ _ _)); dsimp only; walk1) | (leave1; walk_say "STEP leave1"; try dsimp only) | fail "no step")
      k_dflt (refine' Mine.st_item (ss := lpTab) ?l ?i ?a ?b ?z ?_ (by with_unfolding_all rfl); (case l => kmk_list); (case i => exact .cons _ _ (.cons _ _ (.cons _ _ (.cons _ _ (.cons _ _ (.cons _ _ .nil)))))); (case a => exact i0); (case b => exact i1); (case z => (rw [sizeLine_eq]; decide)))
      intro c9 t9 e9
      exact CompEnd.intro (by k_asm) (by k_asm) _ (fun p hp => List.mem_cons_of_mem _ hp) off trivial ⟨rfl, lp_snoc hys e9⟩
  · intro ys hys D h tk F1 N1 o1
    have hok := lpPcs_ok (x := x) (n := (1 + x.fmod 3 - 0).toNat) (by omega)
    have hjl : (Txt.join (Str.ofString "/") (lpPcs x (1 + x.fmod 3 - 0).toNat)).length ≤ 1048576 := Nat.le_trans (lpJoin_le (by omega)) (by decide)
    repeat' (first | ((fail_if_success (fail_if_success k_unfold)); first | (with_reducible refine (?_ : wpAny _ _ _ _ _ _)) | (with_reducible refine (?_ : LeaveK _ _ _ _ _ _ _))) | (k_unfold; (try dsimp only)) | ((fail_if_success (fail_if_success k_fold)); (with_reducible refine Mine.fold_q ?_); intro qk ek sk; (try ((with_reducible rename Fr _ _ _ _ => kF); (fail_if_success (have := Mine.pin_chk kF (by with_reducible assumption))); (refine Mine.pin_m kF ?_); intro mk kF9 pk; (try clear kF); (with_reducible rename News _ _ _ _ => kN); (refine Mine.pin_N kN ?_); intro nk kN9; (try clear kN)))) | walk1 | (dsimp only; walk1) | (leave1; walk_say "STEP leave1"; try dsimp only) | fail "no step")
    all_goals refine Eq.mp (congrArg (fun y => Q (.str y _) _) (?_ : lpPath x = _)) (hret _ _ _ (by k_asm) (news_sub (by with_reducible assumption) fun p hp => List.mem_cons_of_mem _ (List.mem_cons_of_mem _ hp)))
    all_goals (unfold lpPath; rw [Int.sub_zero]; first | rw [if_pos (by with_reducible assumption)] | rw [if_neg (by with_reducible assumption)])

end

theorem words13 : True := by
  k_with "call builtin:sorted" => ((k_here; (with_reducible show wpAny _ _ (call (Value.builtin _) [Value.ref _]) _ _ _); k_dflt (refine' Mine.st_sorted ?F_36 ?N_36 ?l_36 ?i_36 ?z_36 ?_; (case F_36 => k_asm); (case N_36 => k_asm); (case l_36 => kmk_list); (case i_36 => with_reducible assumption); (case z_36 => omega)); intro D'z h'z vs'z ss'z k'z F'z N'z l1z hI'z hP'z hS'z; (try k_lt l1z); (try k_sweep)))
  trivial
/-! ## A5 -/
section
open PySem.Spec
set_option maxRecDepth 100000
structure POk (p : Str) : Prop where
  pth : Pth p
  rd : RdOk p
  len : p.length ≤ 1048
  sr : (srFound p).isSome = true
  rl : (Txt.replace p (Str.ofString "'") (Str.ofString "'\"'\"'")).length ≤ 1048
  ql : (qtOf p).length ≤ 1000
  nl : ∀ c ∈ (qtOf p).cps.toList, c ≠ 10
  pl : p.length ≤ 1048576
  ph : (Txt.split p (Str.ofString "/")).length ≤ 1000
  po : ((plEnd p).map (·.length)).sum + (plEnd p).length * 64 ≤ 16777216
  pj : (Txt.join (Str.ofString "/") (plEnd p)).length ≤ 1048576
theorem jn_len_le {z g : List Nat} (hz : z.length ≤ 5 * g.length) : ∀ ps : List (List Nat), (jn z ps).length ≤ 5 * (jn g ps).length
  | [] => by simp [jn]
  | [x] => by simp only [jn]; omega
  | x :: y :: r => by
    have ih := jn_len_le hz (y :: r)
    simp only [jn, List.length_append] at ih ⊢
    omega
theorem jn_mem {z g : List Nat} {c : Nat} : ∀ ps : List (List Nat), c ∈ jn z ps → c ∈ z ∨ c ∈ jn g ps
  | [], h => by simp [jn] at h
  | [x], h => .inr h
  | x :: y :: r, h => by
    have h' : c ∈ x ++ z ++ jn z (y :: r) := h
    show c ∈ z ∨ c ∈ x ++ g ++ jn g (y :: r)
    rcases List.mem_append.mp h' with h' | h'
    · rcases List.mem_append.mp h' with h' | h'
      · exact .inr (by simp [h'])
      · exact .inl h'
    · rcases jn_mem (g := g) (y :: r) h' with q | q
      · exact .inl q
      · exact .inr (by simp [q])
theorem rep_cps (p : Str) : ∃ ps, (Txt.replace p (Str.ofString "'") (Str.ofString "'\"'\"'")).cps.toList = jn [39, 34, 39, 34, 39] ps ∧ jn [39] ps = p.cps.toList := by
  refine ⟨(Txt.split p ⟨#[39]⟩).map (·.cps.toList), ?_, ?_⟩
  · rw [of39, StrLaws.replace_one, jn_cps, ofZ]
  · have := jn_cps ⟨#[39]⟩ (Txt.split p ⟨#[39]⟩)
    rw [StrLaws.join_split] at this
    exact this.symm
theorem rep_len (p : Str) : (Txt.replace p (Str.ofString "'") (Str.ofString "'\"'\"'")).length ≤ 5 * p.length := by
  obtain ⟨ps, h1, h2⟩ := rep_cps p
  rw [len_cps, h1, len_cps p, ← h2]
  exact jn_len_le (by decide) ps
theorem rep_no (p : Str) (h : ∀ c ∈ p.cps.toList, c ≠ 10 ∧ c ≠ 92) : ∀ c ∈ (Txt.replace p (Str.ofString "'") (Str.ofString "'\"'\"'")).cps.toList, c ≠ 10 := by
  obtain ⟨ps, h1, h2⟩ := rep_cps p
  intro c hc
  rw [h1] at hc
  rcases jn_mem (g := [39]) ps hc with q | q
  · rintro rfl; revert q; decide
  · exact (h c (by rw [← h2]; exact q)).1
theorem qt_len (p : Str) : (qtOf p).length ≤ 5 * p.length + 2 := by
  unfold qtOf
  have h := rep_len p
  split
  · rw [show (Str.ofString "''").length = 2 by decide]; omega
  · split
    · omega
    · rw [len_cps, cps_app, cps_app, List.length_append, List.length_append, ← len_cps, ← len_cps, show (Str.ofString "'").length = 1 by decide]; omega
theorem qt_no (p : Str) (h : ∀ c ∈ p.cps.toList, c ≠ 10 ∧ c ≠ 92) : ∀ c ∈ (qtOf p).cps.toList, c ≠ 10 := by
  unfold qtOf
  split
  · decide
  · split
    · exact fun c hc => (h c hc).1
    · intro c hc
      rw [cps_app, cps_app] at hc
      rcases List.mem_append.mp hc with hc | hc
      · rcases List.mem_append.mp hc with hc | hc
        · exact (by decide : ∀ c ∈ (Str.ofString "'").cps.toList, c ≠ 10) c hc
        · exact rep_no p h c hc
      · exact (by decide : ∀ c ∈ (Str.ofString "'").cps.toList, c ≠ 10) c hc
theorem spl_len : ∀ l : List Nat, (spl 47 l).length ≤ l.length + 1
  | [] => by simp [spl]
  | x :: l => by
    have ih := spl_len l
    unfold spl
    split
    · simp; omega
    · split
      · simp
      · rename_i h t e; rw [e] at ih; simp at ih ⊢; omega
theorem spl_el : ∀ (l : List Nat), ∀ q ∈ spl 47 l, q.length ≤ l.length
  | [], q, h => by simp [spl] at h; subst h; simp
  | x :: l, q, h => by
    have ih := spl_el l
    unfold spl at h
    split at h
    · rcases List.mem_cons.mp h with rfl | h
      · simp
      · have := ih q h; simp; omega
    · split at h
      · simp at h; subst h; simp
      · rename_i a t e
        rw [e] at ih
        rcases List.mem_cons.mp h with rfl | h
        · have := ih a (List.mem_cons_self ..); simp; exact this
        · have := ih q (List.mem_cons_of_mem _ h); simp; omega
theorem np_bound (K : Nat) : ∀ (cs st : List Str), (∀ c ∈ cs, c.length ≤ K) → (∀ c ∈ st, c.length ≤ K) → (∀ c ∈ cs.foldl npStep st, c.length ≤ K) ∧ (cs.foldl npStep st).length ≤ st.length + cs.length
  | [], st, _, h => ⟨h, by simp⟩
  | c :: cs, st, hc, h => by
    have h0 := hc c (List.mem_cons_self ..)
    have h1 : (∀ d ∈ npStep st c, d.length ≤ K) ∧ (npStep st c).length ≤ st.length + 1 := by
      unfold npStep
      split
      · exact ⟨h, by omega⟩
      · split
        · exact ⟨h, by omega⟩
        · split
          · refine ⟨fun d hd => ?_, by simp⟩
            rcases List.mem_append.mp hd with hd | hd
            · exact h d hd
            · rw [List.mem_singleton.mp hd]; exact h0
          · exact ⟨fun d hd => h d ((List.dropLast_sublist _).subset hd), by simp; omega⟩
    have ih := np_bound K cs (npStep st c) (fun d hd => hc d (List.mem_cons_of_mem _ hd)) h1.1
    rw [List.foldl_cons]
    refine ⟨ih.1, Nat.le_trans ih.2 ?_⟩
    rw [List.length_cons]; have := h1.2; omega
theorem sum_le (K : Nat) : ∀ cs : List Str, (∀ c ∈ cs, c.length ≤ K) → (cs.map (·.length)).sum ≤ K * cs.length
  | [], _ => by simp
  | c :: cs, h => by
    have ih := sum_le K cs fun d hd => h d (List.mem_cons_of_mem _ hd)
    have h0 := h c (List.mem_cons_self ..)
    rw [List.map_cons, List.sum_cons, List.length_cons, Nat.mul_add, Nat.mul_one]
    omega
theorem rd_of_len {p : Str} (h : p.length ≤ 100) : RdOk p := by
  have hj := jnP_cps p
  have hl : (jnP p).length ≤ 108 := by
    rw [len_cps, hj]
    rw [len_cps] at h
    split
    · omega
    · simp only [List.length_cons]; omega
  have h1 : (jnP p).cps.toList.take 1 = [47] := by
    rw [hj]; split
    · assumption
    · rfl
  have hsr : (srP (jnP p)).length ≤ 108 := by
    rw [len_cps] at hl
    rw [len_cps, srP_cps, if_pos h1]
    split
    · rw [List.length_drop]; omega
    · rw [List.length_drop]; omega
  have he : (Txt.split (srP (jnP p)) (Str.ofString "/")).length ≤ 109 := by
    rw [ofSl, split_eq, List.length_map]
    have := spl_len (srP (jnP p)).cps.toList
    rw [← len_cps] at this; omega
  have hel : ∀ c ∈ Txt.split (srP (jnP p)) (Str.ofString "/"), c.length ≤ 108 := by
    rw [ofSl, split_eq]
    intro c hc
    obtain ⟨y, hy, rfl⟩ := List.mem_map.mp hc
    have := spl_el _ y hy
    rw [← len_cps] at this
    rw [len_cps, cps_mkS]; omega
  have hn := np_bound 108 _ [] hel (fun c hc => nomatch hc)
  have hn1 : ∀ c ∈ npEnd (jnP p), c.length ≤ 108 := hn.1
  have hn2 : (npEnd (jnP p)).length ≤ 109 := Nat.le_trans hn.2 (by simpa using he)
  have hs := sum_le 108 _ hn1
  have hs2 : ((npEnd (jnP p)).map (·.length)).sum ≤ 11772 := by omega
  refine ⟨by omega, by omega, ?_, ?_, by omega, by omega, ?_⟩
  · intro q
    rw [len_cps, List.length_eq_zero_iff] at q
    rw [q] at h1; cases h1
  · rw [len_cps, srI_cps, if_pos h1]
    split <;> simp
  · refine Nat.le_trans (join_len _ _) ?_
    rw [show (Str.ofString "/").length = 1 by decide]
    omega
theorem pl_of_len {p : Str} (h : p.length ≤ 100) : p.length ≤ 1048576 ∧ (Txt.split p (Str.ofString "/")).length ≤ 1000 ∧ ((plEnd p).map (·.length)).sum + (plEnd p).length * 64 ≤ 16777216 ∧ (Txt.join (Str.ofString "/") (plEnd p)).length ≤ 1048576 := by
  have he : (Txt.split p (Str.ofString "/")).length ≤ 101 := by
    rw [ofSl, split_eq, List.length_map]
    have := spl_len p.cps.toList
    rw [← len_cps] at this; omega
  have hel : ∀ c ∈ Txt.split p (Str.ofString "/"), c.length ≤ 108 := by
    rw [ofSl, split_eq]
    intro c hc
    obtain ⟨y, hy, rfl⟩ := List.mem_map.mp hc
    have := spl_el _ y hy
    rw [← len_cps] at this
    rw [len_cps, cps_mkS]; omega
  have hi : (∀ c ∈ plInit p, c.length ≤ 108) ∧ (plInit p).length ≤ 2 := by
    unfold plInit
    split
    · exact ⟨fun c hc => (nomatch hc), by simp⟩
    · decide
  have hn := np_bound 108 _ (plInit p) hel hi.1
  have hq : plEnd p = (Txt.split p (Str.ofString "/")).foldl npStep (plInit p) := by
    unfold plEnd; rw [fold_eq]
  rw [← hq] at hn
  have hn2 := hn.2
  have hi2 := hi.2
  have hs := sum_le 108 _ hn.1
  have hs2 : ((plEnd p).map (·.length)).sum ≤ 11772 := by omega
  refine ⟨by omega, by omega, by omega, ?_⟩
  refine Nat.le_trans (join_len _ _) ?_
  rw [show (Str.ofString "/").length = 1 by decide]
  omega
/-! every path of the law -/
noncomputable def okB (p : Str) : Bool :=
  (p.cps.toList.all fun c => c != 10 && c != 92) &&
  (match srFound p with | some true => true | some false => p.cps.toList.all fun c => c == 46 || c == 47 | none => false) && decide (p.length ≤ 100)
theorem ok_of {p : Str} (h : okB p = true) : POk p := by
  unfold okB at h
  simp only [Bool.and_eq_true, decide_eq_true_eq, List.all_eq_true, bne_iff_ne] at h
  obtain ⟨⟨h1, h2⟩, h3⟩ := h
  have hs : (srFound p = some false ∧ ∀ c ∈ p.cps.toList, c = 46 ∨ c = 47) ∨ srFound p = some true := by
    generalize srFound p = q at h2
    match q, h2 with
    | some true, _ => exact .inr rfl
    | some false, h2 =>
      refine .inl ⟨rfl, fun c hc => ?_⟩
      have := List.all_eq_true.mp h2 c hc
      simpa using this
  have hq := qt_len p
  have hr := rep_len p
  have hp := pl_of_len h3
  refine ⟨⟨h1, hs⟩, rd_of_len h3, by omega, ?_, by omega, by omega, qt_no p h1, hp.1, hp.2.1, hp.2.2.1, hp.2.2.2⟩
  rcases hs with hs | hs
  · rw [hs.1]; rfl
  · rw [hs]; rfl
noncomputable def slS : Str := Str.ofString "/"
noncomputable def p1 (pre a : Str) : Str := pre ++ Txt.join slS [a]
noncomputable def p2 (pre a b : Str) : Str := pre ++ Txt.join slS [a, b]
noncomputable def p3 (pre a b c : Str) : Str := pre ++ Txt.join slS [a, b, c]
noncomputable def preT : List Str := [Str.ofString "/", Str.ofString ""]
theorem u1 : (preT.all fun pre => lpTab.all fun a => okB (p1 pre a)) = true := by decide +kernel
theorem u2_0 : (lpTab.all fun a => lpTab.all fun b => okB (p2 (Str.ofString "/") a b)) = true := by decide +kernel
theorem u3_00 : (lpTab.all fun b => lpTab.all fun c => okB (p3 (Str.ofString "/") (Str.ofString "it's") b c)) = true := by decide +kernel
theorem u3_01 : (lpTab.all fun b => lpTab.all fun c => okB (p3 (Str.ofString "/") (Str.ofString "a b") b c)) = true := by decide +kernel
theorem u3_02 : (lpTab.all fun b => lpTab.all fun c => okB (p3 (Str.ofString "/") (Str.ofString "#") b c)) = true := by decide +kernel
theorem u3_03 : (lpTab.all fun b => lpTab.all fun c => okB (p3 (Str.ofString "/") (Str.ofString ".") b c)) = true := by decide +kernel
theorem u3_04 : (lpTab.all fun b => lpTab.all fun c => okB (p3 (Str.ofString "/") (Str.ofString "..") b c)) = true := by decide +kernel
theorem u3_05 : (lpTab.all fun b => lpTab.all fun c => okB (p3 (Str.ofString "/") (Str.ofString "") b c)) = true := by decide +kernel
theorem u2_1 : (lpTab.all fun a => lpTab.all fun b => okB (p2 (Str.ofString "") a b)) = true := by decide +kernel
theorem u3_10 : (lpTab.all fun b => lpTab.all fun c => okB (p3 (Str.ofString "") (Str.ofString "it's") b c)) = true := by decide +kernel
theorem u3_11 : (lpTab.all fun b => lpTab.all fun c => okB (p3 (Str.ofString "") (Str.ofString "a b") b c)) = true := by decide +kernel
theorem u3_12 : (lpTab.all fun b => lpTab.all fun c => okB (p3 (Str.ofString "") (Str.ofString "#") b c)) = true := by decide +kernel
theorem u3_13 : (lpTab.all fun b => lpTab.all fun c => okB (p3 (Str.ofString "") (Str.ofString ".") b c)) = true := by decide +kernel
theorem u3_14 : (lpTab.all fun b => lpTab.all fun c => okB (p3 (Str.ofString "") (Str.ofString "..") b c)) = true := by decide +kernel
theorem u3_15 : (lpTab.all fun b => lpTab.all fun c => okB (p3 (Str.ofString "") (Str.ofString "") b c)) = true := by decide +kernel
theorem o1 {pre a : Str} (hp : pre ∈ preT) (ha : a ∈ lpTab) : okB (p1 pre a) = true := List.all_eq_true.mp (List.all_eq_true.mp u1 pre hp) a ha
theorem o2 {pre a b : Str} (hp : pre ∈ preT) (ha : a ∈ lpTab) (hb : b ∈ lpTab) : okB (p2 pre a b) = true := by
  simp only [preT, List.mem_cons, List.not_mem_nil, or_false] at hp
  rcases hp with rfl | rfl
  · exact List.all_eq_true.mp (List.all_eq_true.mp u2_0 a ha) b hb
  · exact List.all_eq_true.mp (List.all_eq_true.mp u2_1 a ha) b hb
theorem o3 {pre a b c : Str} (hp : pre ∈ preT) (ha : a ∈ lpTab) (hb : b ∈ lpTab) (hc : c ∈ lpTab) : okB (p3 pre a b c) = true := by
  simp only [preT, List.mem_cons, List.not_mem_nil, or_false] at hp
  simp only [lpTab, List.mem_cons, List.not_mem_nil, or_false] at ha
  rcases hp with rfl | rfl <;> rcases ha with rfl | rfl | rfl | rfl | rfl | rfl
  · exact List.all_eq_true.mp (List.all_eq_true.mp u3_00 b hb) c hc
  · exact List.all_eq_true.mp (List.all_eq_true.mp u3_01 b hb) c hc
  · exact List.all_eq_true.mp (List.all_eq_true.mp u3_02 b hb) c hc
  · exact List.all_eq_true.mp (List.all_eq_true.mp u3_03 b hb) c hc
  · exact List.all_eq_true.mp (List.all_eq_true.mp u3_04 b hb) c hc
  · exact List.all_eq_true.mp (List.all_eq_true.mp u3_05 b hb) c hc
  · exact List.all_eq_true.mp (List.all_eq_true.mp u3_10 b hb) c hc
  · exact List.all_eq_true.mp (List.all_eq_true.mp u3_11 b hb) c hc
  · exact List.all_eq_true.mp (List.all_eq_true.mp u3_12 b hb) c hc
  · exact List.all_eq_true.mp (List.all_eq_true.mp u3_13 b hb) c hc
  · exact List.all_eq_true.mp (List.all_eq_true.mp u3_14 b hb) c hc
  · exact List.all_eq_true.mp (List.all_eq_true.mp u3_15 b hb) c hc
theorem pc_mem (x : Int) (k : Nat) : lpPc x k ∈ lpTab := by
  unfold lpPc
  generalize (((x.fdiv 6).fdiv (6 ^ k)).fmod 6).toNat = n
  rw [List.getD_eq_getElem?_getD]
  by_cases h : n < lpTab.length
  · rw [List.getElem?_eq_getElem h]; exact List.getElem_mem h
  · rw [List.getElem?_eq_none (by omega)]; simp [lpTab]
theorem path_ok (x : Int) : POk (lpPath x) := by
  apply ok_of
  unfold lpPath
  have h0 := Int.fmod_nonneg_of_pos x (by decide : (0 : Int) < 3)
  have h1 := Int.fmod_lt_of_pos x (by decide : (0 : Int) < 3)
  have hp : ∀ c : Bool, Str.ofString (if c then "/" else "") ∈ preT := by decide
  have hp' : Str.ofString (if (x.fdiv 3).fmod 2 = 1 then "/" else "") ∈ preT := by
    split
    · exact hp true
    · exact hp false
  generalize Str.ofString (if (x.fdiv 3).fmod 2 = 1 then "/" else "") = pre at hp'
  have h3 : x.fmod 3 = 0 ∨ x.fmod 3 = 1 ∨ x.fmod 3 = 2 := by omega
  rcases h3 with h3 | h3 | h3
  · rw [h3]; exact o1 hp' (pc_mem x 0)
  · rw [h3]; exact o2 hp' (pc_mem x 0) (pc_mem x 1)
  · rw [h3]; exact o3 hp' (pc_mem x 0) (pc_mem x 1) (pc_mem x 2)

end

/-! ## A6 -/
section
open PySem.Spec
noncomputable def remF (r : Int) (l : List Int) : List Str := (l.filter (fun x => x.fmod 3 != r)).map (fun x => lpPath (x.fdiv 3))
theorem ints_item : ∀ {vs : List Value} {ns : List Int}, IntsAre vs ns → ∀ (i : Nat) (v : Value), vs[i]? = some v → ∃ n t, v = .int n t ∧ ns[i]? = some n
  | _, _, .nil, _, _, h => by simp at h
  | _, _, .cons n t r, 0, v, h => by
    simp at h; exact ⟨n, t, h.symm, by simp⟩
  | _, _, .cons n t r, i + 1, v, h => by
    obtain ⟨a, b, c, d⟩ := ints_item r i v (by simpa using h)
    exact ⟨a, b, c, by simpa using d⟩
theorem remF_yes {r : Int} {l : List Int} {i : Nat} {x : Int} (h : l[i]? = some x) (hx : x.fmod 3 ≠ r) : remF r (l.take (i + 1)) = remF r (l.take i) ++ [lpPath (x.fdiv 3)] := by
  unfold remF
  rw [List.take_add_one, h, List.filter_append, List.map_append]
  simp [hx]
theorem remF_no {r : Int} {l : List Int} {i : Nat} {x : Int} (h : l[i]? = some x) (hx : x.fmod 3 = r) : remF r (l.take (i + 1)) = remF r (l.take i) := by
  unfold remF
  rw [List.take_add_one, h, List.filter_append]
  simp [hx]
theorem remF_len {r : Int} {l : List Int} : (remF r l).length ≤ l.length := by
  unfold remF; rw [List.length_map]; exact List.length_filter_le _ _

end

/-! ## A7 -/
section
open PySem.Spec
noncomputable def lineOf (ps : List Str) : Str := Txt.join (Str.ofString " ") (ps.map qtOf)
theorem line_cps (ps : List Str) : (lineOf ps).cps.toList = jn [32] (ps.map fun p => (qtOf p).cps.toList) := by
  unfold lineOf
  rw [show Txt.join (Str.ofString " ") (ps.map qtOf) = Str.join (Str.ofString " ") (ps.map qtOf) from StrLaws.glued_eq_join _ _, jn_cps, List.map_map, show (Str.ofString " ").cps.toList = [32] by decide]
  rfl
theorem jn_el {g : List Nat} {c : Nat} : ∀ ps : List (List Nat), c ∈ jn g ps → c ∈ g ∨ ∃ p ∈ ps, c ∈ p
  | [], h => by simp [jn] at h
  | [x], h => .inr ⟨x, by simp, h⟩
  | x :: y :: r, h => by
    have h' : c ∈ x ++ g ++ jn g (y :: r) := h
    rcases List.mem_append.mp h' with h' | h'
    · rcases List.mem_append.mp h' with h' | h'
      · exact .inr ⟨x, by simp, h'⟩
      · exact .inl h'
    · rcases jn_el (y :: r) h' with q | ⟨p, hp, q⟩
      · exact .inl q
      · exact .inr ⟨p, List.mem_cons_of_mem _ hp, q⟩
section
variable {ps : List Str} (h : ∀ p ∈ ps, POk p) (hl : ps.length ≤ 9)
include h
theorem line_nl : ∀ c ∈ (lineOf ps).cps.toList, c ≠ 10 := by
  intro c hc
  rw [line_cps] at hc
  rcases jn_el _ hc with q | ⟨p, hp, q⟩
  · rw [List.mem_singleton.mp q]; decide
  · obtain ⟨y, hy, rfl⟩ := List.mem_map.mp hp
    exact (h y hy).nl c q
include hl
theorem qts_sum : ((ps.map qtOf).map (·.length)).sum ≤ 9000 := by
  have := sum_le 1000 (ps.map qtOf) (fun c hc => by
    obtain ⟨y, hy, rfl⟩ := List.mem_map.mp hc
    exact (h y hy).ql)
  rw [List.length_map] at this
  omega
theorem line_len : (lineOf ps).length ≤ 10000 := by
  have h1 := join_len (Str.ofString " ") (ps.map qtOf)
  have h2 := qts_sum h hl
  rw [List.length_map, show (Str.ofString " ").length = 1 by decide] at h1
  unfold lineOf
  omega
theorem line_lex (hne : ps ≠ []) : lexF 20 (lineOf ps).cps.toList .s0 = some ps := by
  rw [line_cps]; exact lex_line ps 20 hne (fun p hp => (h p hp).pth) (by omega)
theorem line_lex2 (hne : ps ≠ []) : lexF 20 (lineOf ps ++ Str.ofString " # /a").cps.toList .s0 = some ps := by
  rw [cps_app, line_cps, show (Str.ofString " # /a").cps.toList = 32 :: 35 :: 32 :: [47, 97] by decide]
  exact lex_line2 ps 20 32 [47, 97] hne (fun p hp => (h p hp).pth) (by omega)
theorem line_len2 : (lineOf ps ++ Str.ofString " # /a").length ≤ 10005 := by
  have h1 := line_len h hl
  rw [len_cps, cps_app, List.length_append, ← len_cps, ← len_cps, show (Str.ofString " # /a").length = 5 by decide]; omega
omit hl in
theorem line_nl2 : ∀ c ∈ (lineOf ps ++ Str.ofString " # /a").cps.toList, c ≠ 10 := by
  intro c hc
  rw [cps_app] at hc
  rcases List.mem_append.mp hc with hc | hc
  · exact line_nl h c hc
  · exact (by decide : ∀ c ∈ (Str.ofString " # /a").cps.toList, c ≠ 10) c hc
end
theorem remF_ok {r : Int} {l : List Int} : ∀ p ∈ remF r l, POk p := by
  intro p hp
  obtain ⟨x, _, rfl⟩ := List.mem_map.mp hp
  exact path_ok _
theorem remF_ne {r : Int} {l : List Int} {x : Int} (hx : x ∈ l) (h : x.fmod 3 ≠ r) : remF r l ≠ [] := by
  intro e
  unfold remF at e
  rw [List.map_eq_nil_iff, List.filter_eq_nil_iff] at e
  exact e x hx (by simpa using h)
theorem nm_plc (p : Str) : nmF p = plPlace p := place_law p

end

/-! ## R21 -/
section
open PySem.Calls PySem.Spec LCg LCt
theorem all_ne {d x : Addr} : ∀ {news : List (Addr × Obj)}, AllLt d news → @LE.le Nat _ d x → ∀ p ∈ news, p.1 ≠ x
  | [], _, _, _, h => nomatch h
  | q :: r, hl, hx, p, hp => by
    rcases List.mem_cons.mp hp with rfl | hp
    · intro e
      have h1 : @LT.lt Nat _ p.1 d := hl.1
      rw [show p.1 = x from e] at h1
      exact absurd h1 (Nat.not_lt.mpr hx)
    · exact all_ne hl.2 hx p hp
theorem reg_own0_R21 : True := by
  k_with "subscriptTail Name Name ref int" => (k_here; (with_reducible show wpAny _ _ (subscriptTail _ _ (Value.ref _) (Value.int _ _)) _ _ _); k_dflt (refine' KTb.item_list ?l_r21 ?w_r21 ?a_r21 ?b_r21 ?f_r21 ?_; (case l_r21 => kmk_list); (case w_r21 => with_reducible assumption); (case a_r21 => omega); (case b_r21 => omega); (case f_r21 => omega)); intro tz hlz)
  k_with "k_all" => (exact Mine.all_ne (by with_reducible assumption) (by omega))
  trivial
set_option maxRecDepth 100000 in
set_option maxHeartbeats 8000000 in
theorem only_spec {w : World} {mean : ExcName → Option Value} {mg mb : Str → Option Value}
    {dp un : Nat} {gd : Option (List Code)} {cn : Str} {cs : Scope} {a : Addr} {ccd : Value} {cl : List (Str × Addr)} {outer : List Env} {A₀ : Around} {base h₀ : Heap} {L : Addr} {m : Str → Option Value} {news : List (Addr × Obj)} {s : Shared} {Q E : Value → Shared → Prop} {va vb : List Value} {A B9 : List Str} {la lb : Addr} {na nb : Nat}
    (B : Below A₀ base outer h₀) (F : Fr h₀ L s.heap m) (X : (Mine.hd.heap_1_39 w.params).In h₀) (N : News h₀ L s.heap ((la, listOf va.toArray na) :: (lb, listOf vb.toArray nb) :: news)) (T : (Top Mine.hd.view_1_40 (looseW Mine.hd.view_1_40 [Str.ofString "check_arg_types_genericpath", Str.ofString "join_posixpath", Str.ofString "_twin_re_1", Str.ofString "UnsupportedOperation", Str.ofString "IOBase", Str.ofString "BufferedIOBase", Str.ofString "TextIOBase", Str.ofString "BytesIO", Str.ofString "StringIO", Str.ofString "check_arg_types_path", Str.ofString "join_path", Str.ofString "shlex", Str.ofString "split", Str.ofString "_find_unsafe"]) mean mg mb h₀)) (hk : cs.kind = .function)
    (hva : StrsAre va A) (hvb : StrsAre vb B9) (hsa : A.length ≤ 9) (hsb : B9.length ≤ 9)
    (hd : dp + 8 < recursionLimit) (hu : un + 60 < cLine)
    (hret : ∀ (D : Addr) (ys : List Value) (rows : List Str) (k : Nat) (h' : Heap) (tk' : Nat), StrsAre ys (onlyF B9 [] rows) → rows.Perm A → sortedS rows = true → Fr h₀ L h' m → News h₀ L h' ((D, listOf ys.toArray k) :: (la, listOf va.toArray na) :: (lb, listOf vb.toArray nb) :: news) → Q (.ref D) { s with heap := h', toks := tk' }) :
    wpAny (model PySem.Challenge.rw_ik0143_01.row.prog w) (ktrTop dp un gd cn cs L a ccd cl outer) (call (.ref 896) [.ref la, .ref lb]) Q E s := by
  refine wpAny_call ?_
  k_dflt k_enter
  rename (_ < _ ∧ _ < _ ∧ AllLt _ _) => l9
  have hN9 := l9.2.2
  repeat' (first | ((fail_if_success (fail_if_success k_unfold)); first | (with_reducible refine (?_ : wpAny _ _ _ _ _ _)) | (with_reducible refine (?_ : LeaveK _ _ _ _ _ _ _))) | (k_unfold; (try dsimp only)) | ((fail_if_success (fail_if_success k_fold)); (with_reducible refine Mine.fold_q ?_); intro qk ek sk; (try ((with_reducible rename Fr _ _ _ _ => kF); (fail_if_success (have := Mine.pin_chk kF (by with_reducible assumption))); (refine Mine.pin_m kF ?_); intro mk kF9 pk; (try clear kF)))) | ((fail_if_success (with_reducible show wpAny _ _ (eval (PySem.Expr.ListComp _ _ _ _) _) _ _ _)); walk1) | ((fail_if_success (with_reducible show wpAny _ _ (eval (PySem.Expr.ListComp _ _ _ _) _) _ _ _)); dsimp only; walk1) | (leave1; walk_say "STEP leave1"; try dsimp only) | fail "no step")
  k_dflt (refine Mine.ListComp_C (F₀ := by k_asm) (by with_unfolding_all rfl) (by rfl) (by decide) (by intro _; rfl) (by intro _; rfl) (by intro _ _; rfl) ?_ (by intro _; rfl))
  repeat' (first | ((fail_if_success (fail_if_success k_unfold)); first | (with_reducible refine (?_ : wpAny _ _ _ _ _ _)) | (with_reducible refine (?_ : LeaveK _ _ _ _ _ _ _))) | (k_unfold; (try dsimp only)) | ((fail_if_success (fail_if_success k_fold)); (with_reducible refine Mine.fold_q ?_); intro qk ek sk; (try ((with_reducible rename Fr _ _ _ _ => kF); (fail_if_success (have := Mine.pin_chk kF (by with_reducible assumption))); (refine Mine.pin_m kF ?_); intro mk kF9 pk; (try clear kF)))) | ((fail_if_success (with_reducible show wpAny _ _ (call (Value.builtin "len") [Value.ref _]) _ _ _)); walk1) | ((fail_if_success (with_reducible show wpAny _ _ (call (Value.builtin "len") [Value.ref _]) _ _ _)); dsimp only; walk1) | (leave1; walk_say "STEP leave1"; try dsimp only) | fail "no step")
  rename (StrsAre _ _) => rs
  rename (List.Perm _ A) => rp
  rename (sortedS _ = true) => ro
  have rl := rp.length_eq
  k_dflt (refine' Mine.st_len ?l ?i ?z ?_; (case l => kmk_list); (case i => with_reducible assumption); (case z => rw [sizeLine_eq]; omega)); (try dsimp only)
  repeat' (first | ((fail_if_success (fail_if_success k_unfold)); first | (with_reducible refine (?_ : wpAny _ _ _ _ _ _)) | (with_reducible refine (?_ : LeaveK _ _ _ _ _ _ _))) | (k_unfold; (try dsimp only)) | ((fail_if_success (fail_if_success k_fold)); (with_reducible refine Mine.fold_q ?_); intro qk ek sk; (try ((with_reducible rename Fr _ _ _ _ => kF); (fail_if_success (have := Mine.pin_chk kF (by with_reducible assumption))); (refine Mine.pin_m kF ?_); intro mk kF9 pk; (try clear kF)))) | walk1 | (dsimp only; walk1) | (leave1; walk_say "STEP leave1"; try dsimp only) | fail "no step")
  rename List Str => rows
  rename (IsRange _ _ _ _ _ _ _ _) => hr
  dsimp only [Keep]
  refine ⟨_, _, _, _, _, _, rows.length, ?led, fun i ys nw => nw = ?led ∧ StrsAre ys (onlyF B9 [] (rows.take i)), rfl, rfl, by k_asm, ?N, hr, small_up (by decide) (by decide) (by omega) (by omega), by rw [rangeSize_one]; omega, by rw [sizeLine_eq]; omega, ⟨rfl, .nil⟩, fun hz => ⟨?turn, ?fin⟩⟩
  case N => k_asm
  case turn =>
    intro i ys nw t I oI C oC K oK D h tk E' hi hInv hK F1 N1 off ne offK
    obtain ⟨rfl, hy⟩ := hInv
    have hl2 := hvb.length
    repeat' (first | ((fail_if_success (fail_if_success k_unfold)); first | (with_reducible refine (?_ : wpAny _ _ _ _ _ _)) | (with_reducible refine (?_ : LeaveK _ _ _ _ _ _ _))) | (k_unfold; (try dsimp only)) | ((fail_if_success (fail_if_success k_fold)); (with_reducible refine Mine.fold_q ?_); intro qk ek sk; (try ((with_reducible rename Fr _ _ _ _ => kF); (fail_if_success (have := Mine.pin_chk kF (by with_reducible assumption))); (refine Mine.pin_m kF ?_); intro mk kF9 pk; (try clear kF)))) | ((fail_if_success (with_reducible show Keep _)); (fail_if_success (with_reducible show CompEnd _ _ _ _ _ _ _ _ _ _ _ _ _ _)); (fail_if_success (with_reducible show IfEnd (decide _) _ _)); (fail_if_success (with_reducible show IfEnd (_ != _) _ _)); first | walk1 | (dsimp only; walk1) | (leave1; walk_say "STEP leave1"; try dsimp only)) | fail "no step")
    · rename (List.any _ _ = true) => ha
      exact CompEnd.intro (by with_reducible assumption) (by with_reducible assumption) _ (fun p hp => hp) off trivial ⟨_, rfl, offK, rfl, by rw [only_in hi ha]; exact hy⟩
    · rename (List.any _ _ = true) => ha2
      rename (List.any _ _ = false) => ha
      refine CompSrcT.ledger rfl (by k_asm) (by k_asm) (ax := lb) (by k_mem) (by rw [List.size_toArray, hl2, sizeLine_eq]; omega) ?_
      intro gg
      refine compT_fix (fun j zs => StrsAre zs ((B9.take j).filter (fun o => lts (rows.getD ((0:Int) + (i:Int)).toNat Str.empty) o))) .nil ?_ ?_
      · intro j zs v I2 oI2 C2 oC2 D2 m2 h2 tk2 E2 hj hz hv hns hm2 F2 N2 off2 ne2
        obtain ⟨o, to, rfl, ho⟩ := StrsAre.item hvb j v (by rw [← hv]; simp)
        repeat' (first | ((fail_if_success (fail_if_success k_unfold)); first | (with_reducible refine (?_ : wpAny _ _ _ _ _ _)) | (with_reducible refine (?_ : LeaveK _ _ _ _ _ _ _))) | (k_unfold; (try dsimp only)) | ((fail_if_success (fail_if_success k_fold)); (with_reducible refine Mine.fold_q ?_); intro qk ek sk; (try ((with_reducible rename Fr _ _ _ _ => kF); (fail_if_success (have := Mine.pin_chk kF (by with_reducible assumption))); (refine Mine.pin_m kF ?_); intro mk kF9 pk; (try clear kF)))) | ((fail_if_success (with_reducible show Keep _)); (fail_if_success (with_reducible show CompEnd _ _ _ _ _ _ _ _ _ _ _ _ _ _)); (fail_if_success (with_reducible show IfEnd (decide _) _ _)); (fail_if_success (with_reducible show IfEnd (_ != _) _ _)); first | walk1 | (dsimp only; walk1) | (leave1; walk_say "STEP leave1"; try dsimp only)) | fail "no step")
        refine ifEnd_dec (fun hlt => ?_) (fun hlt => ?_)
        · repeat' (first | ((fail_if_success (fail_if_success k_unfold)); first | (with_reducible refine (?_ : wpAny _ _ _ _ _ _)) | (with_reducible refine (?_ : LeaveK _ _ _ _ _ _ _))) | (k_unfold; (try dsimp only)) | ((fail_if_success (fail_if_success k_fold)); (with_reducible refine Mine.fold_q ?_); intro qk ek sk; (try ((with_reducible rename Fr _ _ _ _ => kF); (fail_if_success (have := Mine.pin_chk kF (by with_reducible assumption))); (refine Mine.pin_m kF ?_); intro mk kF9 pk; (try clear kF)))) | ((fail_if_success (with_reducible show Keep _)); (fail_if_success (with_reducible show CompEnd _ _ _ _ _ _ _ _ _ _ _ _ _ _)); (fail_if_success (with_reducible show IfEnd (decide _) _ _)); (fail_if_success (with_reducible show IfEnd (_ != _) _ _)); first | walk1 | (dsimp only; walk1) | (leave1; walk_say "STEP leave1"; try dsimp only)) | fail "no step")
          exact CompEnd.intro (by with_reducible assumption) (by with_reducible assumption) _ (fun p hp => hp) off2 (.inr ⟨_, by k_mem, rfl, _, rfl⟩) ⟨rfl, by rw [filt_yes ho hlt]; exact hz.append' (.cons _ _ .nil)⟩
        · exact CompEnd.intro (by with_reducible assumption) (by with_reducible assumption) _ (fun p hp => hp) off2 (.inr ⟨_, by k_mem, rfl, _, rfl⟩) ⟨rfl, by rw [filt_no ho hlt]; exact hz⟩
      · intro zs hz D3 h3 tk3 F3 N3 off3
        rw [List.take_of_length_le (by rw [List.size_toArray, hl2]; exact Nat.le_refl _)] at hz
        repeat' (first | ((fail_if_success (fail_if_success k_unfold)); first | (with_reducible refine (?_ : wpAny _ _ _ _ _ _)) | (with_reducible refine (?_ : LeaveK _ _ _ _ _ _ _))) | (k_unfold; (try dsimp only)) | ((fail_if_success (fail_if_success k_fold)); (with_reducible refine Mine.fold_q ?_); intro qk ek sk; (try ((with_reducible rename Fr _ _ _ _ => kF); (fail_if_success (have := Mine.pin_chk kF (by with_reducible assumption))); (refine Mine.pin_m kF ?_); intro mk kF9 pk; (try clear kF)))) | ((fail_if_success (with_reducible show wpAny _ _ (compareOp CmpOp.Eq (Value.ref _) (Value.ref _)) _ _ _)); walk1) | ((fail_if_success (with_reducible show wpAny _ _ (compareOp CmpOp.Eq (Value.ref _) (Value.ref _)) _ _ _)); dsimp only; walk1) | (leave1; walk_say "STEP leave1"; try dsimp only) | fail "no step")
        k_dflt (refine Mine.st_eq_nil (by kmk_list) (by kmk_list) hz (by ktr_units) (fun e9 => ?_) (fun e9 => ?_))
        · repeat' (first | ((fail_if_success (fail_if_success k_unfold)); first | (with_reducible refine (?_ : wpAny _ _ _ _ _ _)) | (with_reducible refine (?_ : LeaveK _ _ _ _ _ _ _))) | (k_unfold; (try dsimp only)) | ((fail_if_success (fail_if_success k_fold)); (with_reducible refine Mine.fold_q ?_); intro qk ek sk; (try ((with_reducible rename Fr _ _ _ _ => kF); (fail_if_success (have := Mine.pin_chk kF (by with_reducible assumption))); (refine Mine.pin_m kF ?_); intro mk kF9 pk; (try clear kF)))) | ((fail_if_success (with_reducible show Keep _)); (fail_if_success (with_reducible show CompEnd _ _ _ _ _ _ _ _ _ _ _ _ _ _)); (fail_if_success (with_reducible show IfEnd (decide _) _ _)); (fail_if_success (with_reducible show IfEnd (_ != _) _ _)); first | walk1 | (dsimp only; walk1) | (leave1; walk_say "STEP leave1"; try dsimp only)) | fail "no step")
          exact CompEnd.intro (by with_reducible assumption) (by with_reducible assumption) _ (fun p hp => List.mem_cons_of_mem _ (List.mem_cons_of_mem _ (List.mem_cons_of_mem _ hp))) off trivial ⟨_, rfl, offK, rfl, by rw [only_top hi ha e9]; exact hy.append' (.cons _ _ .nil)⟩
        · repeat' (first | ((fail_if_success (fail_if_success k_unfold)); first | (with_reducible refine (?_ : wpAny _ _ _ _ _ _)) | (with_reducible refine (?_ : LeaveK _ _ _ _ _ _ _))) | (k_unfold; (try dsimp only)) | ((fail_if_success (fail_if_success k_fold)); (with_reducible refine Mine.fold_q ?_); intro qk ek sk; (try ((with_reducible rename Fr _ _ _ _ => kF); (fail_if_success (have := Mine.pin_chk kF (by with_reducible assumption))); (refine Mine.pin_m kF ?_); intro mk kF9 pk; (try clear kF)))) | ((fail_if_success (with_reducible show Keep _)); (fail_if_success (with_reducible show CompEnd _ _ _ _ _ _ _ _ _ _ _ _ _ _)); (fail_if_success (with_reducible show IfEnd (decide _) _ _)); (fail_if_success (with_reducible show IfEnd (_ != _) _ _)); first | walk1 | (dsimp only; walk1) | (leave1; walk_say "STEP leave1"; try dsimp only)) | fail "no step")
          exact CompEnd.intro (by with_reducible assumption) (by with_reducible assumption) _ (fun p hp => List.mem_cons_of_mem _ (List.mem_cons_of_mem _ (List.mem_cons_of_mem _ hp))) off trivial ⟨_, rfl, offK, rfl, by rw [only_under hi ha2 e9]; exact hy⟩
    · rename (List.any (List.take _ _) _ = false) => ha2
      rename (List.any B9 _ = false) => ha
      exact CompEnd.intro (by with_reducible assumption) (by with_reducible assumption) _ (fun p hp => List.mem_cons_of_mem _ hp) off trivial ⟨_, rfl, offK, rfl, by rw [only_new hi ha ha2]; exact hy.append' (.cons _ _ .nil)⟩
  case fin =>
    rintro ys _ ⟨rfl, hy⟩ D3 h3 tk3 F3 N3 off3
    rw [List.take_length] at hy
    repeat' (first | ((fail_if_success (fail_if_success k_unfold)); first | (with_reducible refine (?_ : wpAny _ _ _ _ _ _)) | (with_reducible refine (?_ : LeaveK _ _ _ _ _ _ _))) | (k_unfold; (try dsimp only)) | ((fail_if_success (fail_if_success k_fold)); (with_reducible refine Mine.fold_q ?_); intro qk ek sk; (try ((with_reducible rename Fr _ _ _ _ => kF); (fail_if_success (have := Mine.pin_chk kF (by with_reducible assumption))); (refine Mine.pin_m kF ?_); intro mk kF9 pk; (try clear kF)))) | ((fail_if_success (with_reducible show Keep _)); (fail_if_success (with_reducible show CompEnd _ _ _ _ _ _ _ _ _ _ _ _ _ _)); (fail_if_success (with_reducible show IfEnd (decide _) _ _)); (fail_if_success (with_reducible show IfEnd (_ != _) _ _)); first | walk1 | (dsimp only; walk1) | (leave1; walk_say "STEP leave1"; try dsimp only)) | fail "no step")
    refine hret _ _ _ ys.length _ _ hy rp ro (by k_asm) (news_sub (by with_reducible assumption) fun p hp => ?_)
    rcases List.mem_cons.mp hp with rfl | hp
    · exact List.mem_cons_self ..
    · exact List.mem_cons_of_mem _ (List.mem_cons_of_mem _ (List.mem_cons_of_mem _ (List.mem_cons_of_mem _ hp)))

end

/-! ## GE -/
section
set_option maxRecDepth 100000 in
set_option maxHeartbeats 8000000 in
/-- the law's end, shown apart (the walk's facts would be asked one by one) -/
theorem good_end {cl : Str → Option Addr} {mean : ExcName → Option Value} {s₁ s' : Shared} {L : Addr} {m : Str → Option Value} {script : List Int} (F : Fr s₁.heap L s'.heap m) (hg : s'.gens = #[]) (hos : s'.os = s₁.os) :
    GoodW PySem.Challenge.rw_ik0143_01.row.claim cl mean [ofPy (PyData.list (List.map PyData.int script))] s₁ (Except.ok (Flow.ret (Value.bool true))) s' := by
  refine goodW_bool F hg (raisesW_false ?_) ?_ hos
  · wrow_none_raised
  · wrow_post

end

/-! ## R22 -/
section
open PySem.Calls PySem.Spec LCg LCt
theorem reg_own0_R22 : True := by
  k_with "getMethod ref" => (k_here; (with_reducible show wpAny _ _ (getMethod (Value.ref _) (PySem.Str.ofString "count") _) _ _ _); k_dflt (refine' kf_method ?N_gm ?m_gm PySem.F.slot_list_count PySem.F.type_list_count ?_; (case N_gm => k_asm); (case m_gm => k_mem)))
  k_with "k_ne" => (first | with_reducible assumption | exact Ne.symm (by with_reducible assumption))
  trivial
set_option maxRecDepth 100000 in
set_option maxHeartbeats 8000000 in
theorem law_spec : PySem.Challenge.rw_ik0143_01.Holds := Mine.hd._proof_1_1691 ⟨by
  w_strict (
    k_go0
    (all_goals try k_fold)
    rename (Below _ _ _ _) => K0
    dsimp only [Top.heap] at K0
    repeat' (first | ((fail_if_success (fail_if_success k_unfold)); first | (with_reducible refine (?_ : wpAny _ _ _ _ _ _)) | (with_reducible refine (?_ : LeaveK _ _ _ _ _ _ _))) | (k_unfold; (try dsimp only)) | ((fail_if_success (fail_if_success k_fold)); (with_reducible refine Mine.fold_q ?_); intro qk ek sk; (try ((with_reducible rename Fr _ _ _ _ => kF); (fail_if_success (have := Mine.pin_chk kF (by with_reducible assumption))); (refine Mine.pin_m kF ?_); intro mk kF9 pk; (try clear kF)))) | ((fail_if_success (with_reducible show Keep _)); (fail_if_success (with_reducible show CompEnd _ _ _ _ _ _ _ _ _ _ _ _ _ _)); (fail_if_success (with_reducible show IfEnd (decide _) _ _)); (fail_if_success (with_reducible show IfEnd (_ != _) _ _)); first | walk1 | (dsimp only; walk1) | (leave1; walk_say "STEP leave1"; try dsimp only)) | fail "no step")
    rename List Int => script
    rename (¬ ((63 : Nat) : Int) < _) => h63
    rename (IntsAre _ (List.take 3 script ++ _)) => iN
    refine CompSrcT.ledger rfl (by k_asm) (by k_asm) (by k_mem) (by rw [List.size_toArray, iN.length, sizeLine_eq]; simp; omega) ?_
    intro gg
    have hnl : (List.take 3 script ++ [2, 57, 184, 318, 46, 0]).length ≤ 9 := by simp; omega
    have h2m : (2 : Int) ∈ List.take 3 script ++ [2, 57, 184, 318, 46, 0] := by simp
    generalize List.take 3 script ++ [2, 57, 184, 318, 46, 0] = nums at *
    have iNl := iN.length
    refine compT_fix (fun i ys => StrsAre ys (remF 1 (nums.take i))) .nil ?_ ?_
    · intro i ys v I oI C oC D m2 h tk E' hi hy hv hns hm2 F1 N1 off ne
      obtain ⟨x, tx, rfl, hx⟩ := ints_item iN i v (by rw [← hv]; simp)
      repeat' (first | ((fail_if_success (fail_if_success k_unfold)); first | (with_reducible refine (?_ : wpAny _ _ _ _ _ _)) | (with_reducible refine (?_ : LeaveK _ _ _ _ _ _ _))) | (k_unfold; (try dsimp only)) | ((fail_if_success (fail_if_success k_fold)); (with_reducible refine Mine.fold_q ?_); intro qk ek sk; (try ((with_reducible rename Fr _ _ _ _ => kF); (fail_if_success (have := Mine.pin_chk kF (by with_reducible assumption))); (refine Mine.pin_m kF ?_); intro mk kF9 pk; (try clear kF)))) | ((fail_if_success (with_reducible show Keep _)); (fail_if_success (with_reducible show CompEnd _ _ _ _ _ _ _ _ _ _ _ _ _ _)); (fail_if_success (with_reducible show IfEnd (decide _) _ _)); (fail_if_success (with_reducible show IfEnd (_ != _) _ _)); first | walk1 | (dsimp only; walk1) | (leave1; walk_say "STEP leave1"; try dsimp only)) | fail "no step")
      refine ifEnd_bool (fun hlt => ?_) (fun hlt => ?_)
      · repeat' (first | ((fail_if_success (fail_if_success k_unfold)); first | (with_reducible refine (?_ : wpAny _ _ _ _ _ _)) | (with_reducible refine (?_ : LeaveK _ _ _ _ _ _ _))) | (k_unfold; (try dsimp only)) | ((fail_if_success (fail_if_success k_fold)); (with_reducible refine Mine.fold_q ?_); intro qk ek sk; (try ((with_reducible rename Fr _ _ _ _ => kF); (fail_if_success (have := Mine.pin_chk kF (by with_reducible assumption))); (refine Mine.pin_m kF ?_); intro mk kF9 pk; (try clear kF)))) | ((fail_if_success (with_reducible show wpAny _ _ (call (Value.ref 879) [_]) _ _ _)); walk1) | ((fail_if_success (with_reducible show wpAny _ _ (call (Value.ref 879) [_]) _ _ _)); dsimp only; walk1) | (leave1; walk_say "STEP leave1"; try dsimp only) | fail "no step")
        k_dflt (refine' Mine.path_spec ?k1 ?k2 ?k3 ?k4 ?k5 ?k6 ?k7 ?k8 ?_; (case k1 => k_asm); (case k2 => k_asm); (case k3 => k_asm); (case k4 => k_asm); (case k5 => k_asm); (case k6 => first | exact rfl | assumption); (case k7 => ktr_room); (case k8 => ktr_units); k_whole)
        intro t9 h9 tk9 F9 N9
        exact CompEnd.intro (by k_asm) (by k_asm) _ (fun p hp => hp) off (.inr ⟨_, by k_mem, rfl, _, rfl⟩) ⟨rfl, by rw [remF_yes hx (by simpa using hlt)]; exact hy.append' (.cons _ _ .nil)⟩
      · exact CompEnd.intro (by k_asm) (by k_asm) _ (fun p hp => hp) off (.inr ⟨_, by k_mem, rfl, _, rfl⟩) ⟨rfl, by rw [remF_no hx (by simpa using hlt)]; exact hy⟩
    intro ys1 hy1 D1 h1 tk1 F1 N1 off1
    rw [List.take_of_length_le (by rw [List.size_toArray, iNl]; exact Nat.le_refl _)] at hy1
    repeat' (first | ((fail_if_success (fail_if_success k_unfold)); first | (with_reducible refine (?_ : wpAny _ _ _ _ _ _)) | (with_reducible refine (?_ : LeaveK _ _ _ _ _ _ _))) | (k_unfold; (try dsimp only)) | ((fail_if_success (fail_if_success k_fold)); (with_reducible refine Mine.fold_q ?_); intro qk ek sk; (try ((with_reducible rename Fr _ _ _ _ => kF); (fail_if_success (have := Mine.pin_chk kF (by with_reducible assumption))); (refine Mine.pin_m kF ?_); intro mk kF9 pk; (try clear kF)))) | ((fail_if_success (with_reducible show Keep _)); (fail_if_success (with_reducible show CompEnd _ _ _ _ _ _ _ _ _ _ _ _ _ _)); (fail_if_success (with_reducible show IfEnd (decide _) _ _)); (fail_if_success (with_reducible show IfEnd (_ != _) _ _)); first | walk1 | (dsimp only; walk1) | (leave1; walk_say "STEP leave1"; try dsimp only)) | fail "no step")
    refine CompSrcT.ledger rfl (by k_asm) (by k_asm) (by k_mem) (by rw [List.size_toArray, iN.length, sizeLine_eq]; omega) ?_
    intro gg2
    refine compT_fix (fun i ys => StrsAre ys (remF 0 (nums.take i))) .nil ?_ ?_
    · intro i ys v I oI C oC D m2 h tk E' hi hy hv hns hm2 F1 N1 off ne
      obtain ⟨x, tx, rfl, hx⟩ := ints_item iN i v (by rw [← hv]; simp)
      repeat' (first | ((fail_if_success (fail_if_success k_unfold)); first | (with_reducible refine (?_ : wpAny _ _ _ _ _ _)) | (with_reducible refine (?_ : LeaveK _ _ _ _ _ _ _))) | (k_unfold; (try dsimp only)) | ((fail_if_success (fail_if_success k_fold)); (with_reducible refine Mine.fold_q ?_); intro qk ek sk; (try ((with_reducible rename Fr _ _ _ _ => kF); (fail_if_success (have := Mine.pin_chk kF (by with_reducible assumption))); (refine Mine.pin_m kF ?_); intro mk kF9 pk; (try clear kF)))) | ((fail_if_success (with_reducible show Keep _)); (fail_if_success (with_reducible show CompEnd _ _ _ _ _ _ _ _ _ _ _ _ _ _)); (fail_if_success (with_reducible show IfEnd (decide _) _ _)); (fail_if_success (with_reducible show IfEnd (_ != _) _ _)); first | walk1 | (dsimp only; walk1) | (leave1; walk_say "STEP leave1"; try dsimp only)) | fail "no step")
      refine ifEnd_bool (fun hlt => ?_) (fun hlt => ?_)
      · repeat' (first | ((fail_if_success (fail_if_success k_unfold)); first | (with_reducible refine (?_ : wpAny _ _ _ _ _ _)) | (with_reducible refine (?_ : LeaveK _ _ _ _ _ _ _))) | (k_unfold; (try dsimp only)) | ((fail_if_success (fail_if_success k_fold)); (with_reducible refine Mine.fold_q ?_); intro qk ek sk; (try ((with_reducible rename Fr _ _ _ _ => kF); (fail_if_success (have := Mine.pin_chk kF (by with_reducible assumption))); (refine Mine.pin_m kF ?_); intro mk kF9 pk; (try clear kF)))) | ((fail_if_success (with_reducible show wpAny _ _ (call (Value.ref 879) [_]) _ _ _)); walk1) | ((fail_if_success (with_reducible show wpAny _ _ (call (Value.ref 879) [_]) _ _ _)); dsimp only; walk1) | (leave1; walk_say "STEP leave1"; try dsimp only) | fail "no step")
        k_dflt (refine' Mine.path_spec ?k1 ?k2 ?k3 ?k4 ?k5 ?k6 ?k7 ?k8 ?_; (case k1 => k_asm); (case k2 => k_asm); (case k3 => k_asm); (case k4 => k_asm); (case k5 => k_asm); (case k6 => first | exact rfl | assumption); (case k7 => ktr_room); (case k8 => ktr_units); k_whole)
        intro t9 h9 tk9 F9 N9
        exact CompEnd.intro (by k_asm) (by k_asm) _ (fun p hp => hp) off (.inr ⟨_, by k_mem, rfl, _, rfl⟩) ⟨rfl, by rw [remF_yes hx (by simpa using hlt)]; exact hy.append' (.cons _ _ .nil)⟩
      · exact CompEnd.intro (by k_asm) (by k_asm) _ (fun p hp => hp) off (.inr ⟨_, by k_mem, rfl, _, rfl⟩) ⟨rfl, by rw [remF_no hx (by simpa using hlt)]; exact hy⟩
    intro ys0 hy0 D0 h0 tk0 F0 N0 off0
    rw [List.take_of_length_le (by rw [List.size_toArray, iNl]; exact Nat.le_refl _)] at hy0
    repeat' (first | ((fail_if_success (fail_if_success k_unfold)); first | (with_reducible refine (?_ : wpAny _ _ _ _ _ _)) | (with_reducible refine (?_ : LeaveK _ _ _ _ _ _ _))) | (k_unfold; (try dsimp only)) | ((fail_if_success (fail_if_success k_fold)); (with_reducible refine Mine.fold_q ?_); intro qk ek sk; (try ((with_reducible rename Fr _ _ _ _ => kF); (fail_if_success (have := Mine.pin_chk kF (by with_reducible assumption))); (refine Mine.pin_m kF ?_); intro mk kF9 pk; (try clear kF)))) | ((fail_if_success (with_reducible show Keep _)); (fail_if_success (with_reducible show CompEnd _ _ _ _ _ _ _ _ _ _ _ _ _ _)); (fail_if_success (with_reducible show IfEnd (decide _) _ _)); (fail_if_success (with_reducible show IfEnd (_ != _) _ _)); first | walk1 | (dsimp only; walk1) | (leave1; walk_say "STEP leave1"; try dsimp only)) | fail "no step")
    have hnm : nmF = plPlace := funext nm_plc
    have okW : ∀ p ∈ remF 1 nums, POk p := remF_ok
    have okT : ∀ p ∈ remF 0 nums, POk p := remF_ok
    have neW : remF 1 nums ≠ [] := remF_ne (x := 2) h2m (by decide)
    have neT : remF 0 nums ≠ [] := remF_ne (x := 2) h2m (by decide)
    have lnW : (remF 1 nums).length ≤ 9 := Nat.le_trans remF_len hnl
    have lnT : (remF 0 nums).length ≤ 9 := Nat.le_trans remF_len hnl
    generalize remF 1 nums = W at *
    generalize remF 0 nums = Tt at *
    have ly1 := hy1.length
    refine CompSrc.ledger rfl (by k_asm) (by k_asm) (ax := D1) (by k_mem) (by rw [List.size_toArray, ly1, sizeLine_eq]; omega) ?_
    intro gg3
    rw [show ys1.toArray.size = W.length by rw [List.size_toArray, ly1]]
    refine comp_fix (fun i ys => StrsAre ys ((W.take i).map qtOf)) .nil ?_ ?_
    · intro i ys v I oI C oC D m₂ h tk E' hi hys hv hC hx' F1 N1 off ne
      obtain ⟨c, t, rfl, hc⟩ := StrsAre.item hy1 i v (by rw [← hv]; simp)
      have ok := okW c (List.mem_of_getElem? hc)
      repeat' (first | ((fail_if_success (fail_if_success k_unfold)); first | (with_reducible refine (?_ : wpAny _ _ _ _ _ _)) | (with_reducible refine (?_ : LeaveK _ _ _ _ _ _ _))) | (k_unfold; (try dsimp only)) | ((fail_if_success (fail_if_success k_fold)); (with_reducible refine Mine.fold_q ?_); intro qk ek sk; (try ((with_reducible rename Fr _ _ _ _ => kF); (fail_if_success (have := Mine.pin_chk kF (by with_reducible assumption))); (refine Mine.pin_m kF ?_); intro mk kF9 pk; (try clear kF)))) | ((fail_if_success (with_reducible show wpAny _ _ (call (Value.ref 874) [_]) _ _ _)); walk1) | ((fail_if_success (with_reducible show wpAny _ _ (call (Value.ref 874) [_]) _ _ _)); dsimp only; walk1) | (leave1; walk_say "STEP leave1"; try dsimp only) | fail "no step")
      k_dflt (refine' Mine.quote_spec ?k1 ?k2 ?k3 ?k4 ?k5 ?k6 ?k7 ?k8 ?m0 ?m1 ?m2 ?_; (case k1 => k_asm); (case k2 => k_asm); (case k3 => k_asm); (case k4 => k_asm); (case k5 => k_asm); (case k6 => first | exact rfl | assumption); (case k7 => ktr_room); (case k8 => ktr_units); (case m0 => exact ok.len); (case m1 => exact ok.sr); (case m2 => exact ok.rl); k_whole)
      intro t9 h9 tk9 F9 N9
      exact CompEnd.intro (by k_asm) (by k_asm) _ (fun p hp => hp) off (.inr ⟨_, by k_mem, rfl, _, rfl⟩) ⟨rfl, strs_snoc (f := qtOf) hys hc⟩
    intro ys3 hy3 D3 h3 tk3 F3 N3 off3
    rw [List.take_length] at hy3
    have hqs : ((W.map qtOf).map (·.length)).sum + (W.map qtOf).length * 64 ≤ 16777216 := by have := qts_sum okW lnW; rw [List.length_map]; omega
    repeat' (first | ((fail_if_success (fail_if_success k_unfold)); first | (with_reducible refine (?_ : wpAny _ _ _ _ _ _)) | (with_reducible refine (?_ : LeaveK _ _ _ _ _ _ _))) | (k_unfold; (try dsimp only)) | ((fail_if_success (fail_if_success k_fold)); (with_reducible refine Mine.fold_q ?_); intro qk ek sk; (try ((with_reducible rename Fr _ _ _ _ => kF); (fail_if_success (have := Mine.pin_chk kF (by with_reducible assumption))); (refine Mine.pin_m kF ?_); intro mk kF9 pk; (try clear kF)))) | ((fail_if_success (with_reducible show wpAny _ _ (call (Value.ref 891) [_]) _ _ _)); walk1) | ((fail_if_success (with_reducible show wpAny _ _ (call (Value.ref 891) [_]) _ _ _)); dsimp only; walk1) | (leave1; walk_say "STEP leave1"; try dsimp only) | fail "no step")
    k_dflt (refine' Mine.read_spec ?xb ?tb ?k1 ?k2 ?k3 ?k4 ?k5 ?k6 ?k7 ?k8 ?m0 ?m1 ?m2 ?m3 ?m4 ?m5 ?_; (case xb => k_asm); (case tb => k_asm); (case k1 => k_asm); (case k2 => k_asm); (case k3 => k_asm); (case k4 => k_asm); (case k5 => k_asm); (case k6 => first | exact rfl | assumption); (case k7 => ktr_room); (case k8 => ktr_units); (case m0 => exact Nat.le_trans (line_len okW lnW) (by decide)); (case m1 => exact line_nl okW); (case m2 => exact line_lex okW lnW neW); (case m3 => decide); (case m4 => omega); (case m5 => exact fun p hp => (okW p hp).rd); k_whole)
    intro vr1 g1 S1 c1 hr1 tk1 hv1 T1 B1 F1 N1 NS1 hS1
    rw [hnm] at hv1
    replace F1 := turn_nilF T1 F1
    replace N1 := news_add (turn_nilN T1 NS1) (turn_nilN T1 N1)
    clear NS1 B1 T1
    simp only [List.forall_mem_cons] at hS1
    repeat' (first | ((fail_if_success (fail_if_success k_unfold)); first | (with_reducible refine (?_ : wpAny _ _ _ _ _ _)) | (with_reducible refine (?_ : LeaveK _ _ _ _ _ _ _))) | (k_unfold; (try dsimp only)) | ((fail_if_success (fail_if_success k_fold)); (with_reducible refine Mine.fold_q ?_); intro qk ek sk; (try ((with_reducible rename Fr _ _ _ _ => kF); (fail_if_success (have := Mine.pin_chk kF (by with_reducible assumption))); (refine Mine.pin_m kF ?_); intro mk kF9 pk; (try clear kF)))) | ((fail_if_success (with_reducible show Keep _)); (fail_if_success (with_reducible show CompEnd _ _ _ _ _ _ _ _ _ _ _ _ _ _)); (fail_if_success (with_reducible show IfEnd (decide _) _ _)); (fail_if_success (with_reducible show IfEnd (_ != _) _ _)); first | walk1 | (dsimp only; walk1) | (leave1; walk_say "STEP leave1"; try dsimp only)) | fail "no step")
    have ly0 := hy0.length
    refine CompSrc.ledger rfl (by k_asm) (by k_asm) (ax := D0) (by k_mem) (by rw [List.size_toArray, ly0, sizeLine_eq]; omega) ?_
    intro gg4
    rw [show ys0.toArray.size = Tt.length by rw [List.size_toArray, ly0]]
    refine comp_fix (fun i ys => StrsAre ys ((Tt.take i).map qtOf)) .nil ?_ ?_
    · intro i ys v I oI C oC D m₂ h tk E' hi hys hv hC hx' F1 N1 off ne
      obtain ⟨c, t, rfl, hc⟩ := StrsAre.item hy0 i v (by rw [← hv]; simp)
      have ok := okT c (List.mem_of_getElem? hc)
      repeat' (first | ((fail_if_success (fail_if_success k_unfold)); first | (with_reducible refine (?_ : wpAny _ _ _ _ _ _)) | (with_reducible refine (?_ : LeaveK _ _ _ _ _ _ _))) | (k_unfold; (try dsimp only)) | ((fail_if_success (fail_if_success k_fold)); (with_reducible refine Mine.fold_q ?_); intro qk ek sk; (try ((with_reducible rename Fr _ _ _ _ => kF); (fail_if_success (have := Mine.pin_chk kF (by with_reducible assumption))); (refine Mine.pin_m kF ?_); intro mk kF9 pk; (try clear kF)))) | ((fail_if_success (with_reducible show wpAny _ _ (call (Value.ref 874) [_]) _ _ _)); walk1) | ((fail_if_success (with_reducible show wpAny _ _ (call (Value.ref 874) [_]) _ _ _)); dsimp only; walk1) | (leave1; walk_say "STEP leave1"; try dsimp only) | fail "no step")
      k_dflt (refine' Mine.quote_spec ?k1 ?k2 ?k3 ?k4 ?k5 ?k6 ?k7 ?k8 ?m0 ?m1 ?m2 ?_; (case k1 => k_asm); (case k2 => k_asm); (case k3 => k_asm); (case k4 => k_asm); (case k5 => k_asm); (case k6 => first | exact rfl | assumption); (case k7 => ktr_room); (case k8 => ktr_units); (case m0 => exact ok.len); (case m1 => exact ok.sr); (case m2 => exact ok.rl); k_whole)
      intro t9 h9 tk9 F9 N9
      exact CompEnd.intro (by k_asm) (by k_asm) _ (fun p hp => hp) off (.inr ⟨_, by k_mem, rfl, _, rfl⟩) ⟨rfl, strs_snoc (f := qtOf) hys hc⟩
    intro ys4 hy4 D4 h4 tk4 F4 N4 off4
    rw [List.take_length] at hy4
    have hqt : ((Tt.map qtOf).map (·.length)).sum + (Tt.map qtOf).length * 64 ≤ 16777216 := by have := qts_sum okT lnT; rw [List.length_map]; omega
    have hlt : (Txt.join (Str.ofString " ") (Tt.map qtOf)).length ≤ 1048576 := Nat.le_trans (line_len okT lnT) (by decide)
    repeat' (first | ((fail_if_success (fail_if_success k_unfold)); first | (with_reducible refine (?_ : wpAny _ _ _ _ _ _)) | (with_reducible refine (?_ : LeaveK _ _ _ _ _ _ _))) | (k_unfold; (try dsimp only)) | ((fail_if_success (fail_if_success k_fold)); (with_reducible refine Mine.fold_q ?_); intro qk ek sk; (try ((with_reducible rename Fr _ _ _ _ => kF); (fail_if_success (have := Mine.pin_chk kF (by with_reducible assumption))); (refine Mine.pin_m kF ?_); intro mk kF9 pk; (try clear kF)))) | ((fail_if_success (with_reducible show wpAny _ _ (call (Value.ref 891) [_]) _ _ _)); walk1) | ((fail_if_success (with_reducible show wpAny _ _ (call (Value.ref 891) [_]) _ _ _)); dsimp only; walk1) | (leave1; walk_say "STEP leave1"; try dsimp only) | fail "no step")
    k_dflt (refine' Mine.read_spec ?xb ?tb ?k1 ?k2 ?k3 ?k4 ?k5 ?k6 ?k7 ?k8 ?m0 ?m1 ?m2 ?m3 ?m4 ?m5 ?_; (case xb => k_asm); (case tb => k_asm); (case k1 => k_asm); (case k2 => k_asm); (case k3 => k_asm); (case k4 => k_asm); (case k5 => k_asm); (case k6 => first | exact rfl | assumption); (case k7 => ktr_room); (case k8 => ktr_units); (case m0 => exact Nat.le_trans (line_len2 okT lnT) (by decide)); (case m1 => exact line_nl2 okT); (case m2 => exact line_lex2 okT lnT neT); (case m3 => decide); (case m4 => omega); (case m5 => exact fun p hp => (okT p hp).rd); k_whole)
    intro vr2 g2 S2 c2 hr2 tk2 hv2 T2 B2 F2 N2 NS2 hS2
    rw [hnm] at hv2
    replace F2 := turn_nilF T2 F2
    replace N2 := news_add (turn_nilN T2 NS2) (turn_nilN T2 N2)
    clear NS2 B2 T2
    simp only [List.forall_mem_cons] at hS2
    repeat' (first | ((fail_if_success (fail_if_success k_unfold)); first | (with_reducible refine (?_ : wpAny _ _ _ _ _ _)) | (with_reducible refine (?_ : LeaveK _ _ _ _ _ _ _))) | (k_unfold; (try dsimp only)) | ((fail_if_success (fail_if_success k_fold)); (with_reducible refine Mine.fold_q ?_); intro qk ek sk; (try ((with_reducible rename Fr _ _ _ _ => kF); (fail_if_success (have := Mine.pin_chk kF (by with_reducible assumption))); (refine Mine.pin_m kF ?_); intro mk kF9 pk; (try clear kF)))) | ((fail_if_success (with_reducible show Keep _)); (fail_if_success (with_reducible show CompEnd _ _ _ _ _ _ _ _ _ _ _ _ _ _)); (fail_if_success (with_reducible show IfEnd (decide _) _ _)); (fail_if_success (with_reducible show IfEnd (_ != _) _ _)); first | walk1 | (dsimp only; walk1) | (leave1; walk_say "STEP leave1"; try dsimp only)) | fail "no step")
    refine CompSrc.ledger rfl (by k_asm) (by k_asm) (ax := D1) (by k_mem) (by rw [List.size_toArray, ly1, sizeLine_eq]; omega) ?_
    intro gg5
    rw [show ys1.toArray.size = W.length by rw [List.size_toArray, ly1]]
    refine comp_fix (fun i ys => StrsAre ys ((W.take i).map plPlace)) .nil ?_ ?_
    · intro i ys v I oI C oC D m₂ h tk E' hi hys hv hC hx' F1 N1 off ne
      obtain ⟨c, t, rfl, hc⟩ := StrsAre.item hy1 i v (by rw [← hv]; simp)
      have ok := okW c (List.mem_of_getElem? hc)
      repeat' (first | ((fail_if_success (fail_if_success k_unfold)); first | (with_reducible refine (?_ : wpAny _ _ _ _ _ _)) | (with_reducible refine (?_ : LeaveK _ _ _ _ _ _ _))) | (k_unfold; (try dsimp only)) | ((fail_if_success (fail_if_success k_fold)); (with_reducible refine Mine.fold_q ?_); intro qk ek sk; (try ((with_reducible rename Fr _ _ _ _ => kF); (fail_if_success (have := Mine.pin_chk kF (by with_reducible assumption))); (refine Mine.pin_m kF ?_); intro mk kF9 pk; (try clear kF)))) | ((fail_if_success (with_reducible show wpAny _ _ (call (Value.ref 886) [_]) _ _ _)); walk1) | ((fail_if_success (with_reducible show wpAny _ _ (call (Value.ref 886) [_]) _ _ _)); dsimp only; walk1) | (leave1; walk_say "STEP leave1"; try dsimp only) | fail "no step")
      k_dflt (refine' Mine.place_spec ?k1 ?k2 ?k3 ?k4 ?k5 ?k6 ?k7 ?k8 ?m0 ?m1 ?m2 ?m3 ?_; (case k1 => k_asm); (case k2 => k_asm); (case k3 => k_asm); (case k4 => k_asm); (case k5 => k_asm); (case k6 => first | exact rfl | assumption); (case k7 => ktr_room); (case k8 => ktr_units); (case m0 => exact ok.pl); (case m1 => exact ok.ph); (case m2 => exact ok.po); (case m3 => exact ok.pj); k_whole)
      intro t9 h9 tk9 F9 N9
      exact CompEnd.intro (by k_asm) (by k_asm) _ (fun p hp => hp) off (.inr ⟨_, by k_mem, rfl, _, rfl⟩) ⟨rfl, strs_snoc (f := plPlace) hys hc⟩
    intro ys5 hy5 D5 h5 tk5 F5 N5 off5
    rw [List.take_length] at hy5
    repeat' (first | ((fail_if_success (fail_if_success k_unfold)); first | (with_reducible refine (?_ : wpAny _ _ _ _ _ _)) | (with_reducible refine (?_ : LeaveK _ _ _ _ _ _ _))) | (k_unfold; (try dsimp only)) | ((fail_if_success (fail_if_success k_fold)); (with_reducible refine Mine.fold_q ?_); intro qk ek sk; (try ((with_reducible rename Fr _ _ _ _ => kF); (fail_if_success (have := Mine.pin_chk kF (by with_reducible assumption))); (refine Mine.pin_m kF ?_); intro mk kF9 pk; (try clear kF)))) | ((fail_if_success (with_reducible show Keep _)); (fail_if_success (with_reducible show CompEnd _ _ _ _ _ _ _ _ _ _ _ _ _ _)); (fail_if_success (with_reducible show IfEnd (decide _) _ _)); (fail_if_success (with_reducible show IfEnd (_ != _) _ _)); first | walk1 | (dsimp only; walk1) | (leave1; walk_say "STEP leave1"; try dsimp only)) | fail "no step")
    refine CompSrc.ledger rfl (by k_asm) (by k_asm) (ax := D0) (by k_mem) (by rw [List.size_toArray, ly0, sizeLine_eq]; omega) ?_
    intro gg6
    rw [show ys0.toArray.size = Tt.length by rw [List.size_toArray, ly0]]
    refine comp_fix (fun i ys => StrsAre ys ((Tt.take i).map plPlace)) .nil ?_ ?_
    · intro i ys v I oI C oC D m₂ h tk E' hi hys hv hC hx' F1 N1 off ne
      obtain ⟨c, t, rfl, hc⟩ := StrsAre.item hy0 i v (by rw [← hv]; simp)
      have ok := okT c (List.mem_of_getElem? hc)
      repeat' (first | ((fail_if_success (fail_if_success k_unfold)); first | (with_reducible refine (?_ : wpAny _ _ _ _ _ _)) | (with_reducible refine (?_ : LeaveK _ _ _ _ _ _ _))) | (k_unfold; (try dsimp only)) | ((fail_if_success (fail_if_success k_fold)); (with_reducible refine Mine.fold_q ?_); intro qk ek sk; (try ((with_reducible rename Fr _ _ _ _ => kF); (fail_if_success (have := Mine.pin_chk kF (by with_reducible assumption))); (refine Mine.pin_m kF ?_); intro mk kF9 pk; (try clear kF)))) | ((fail_if_success (with_reducible show wpAny _ _ (call (Value.ref 886) [_]) _ _ _)); walk1) | ((fail_if_success (with_reducible show wpAny _ _ (call (Value.ref 886) [_]) _ _ _)); dsimp only; walk1) | (leave1; walk_say "STEP leave1"; try dsimp only) | fail "no step")
      k_dflt (refine' Mine.place_spec ?k1 ?k2 ?k3 ?k4 ?k5 ?k6 ?k7 ?k8 ?m0 ?m1 ?m2 ?m3 ?_; (case k1 => k_asm); (case k2 => k_asm); (case k3 => k_asm); (case k4 => k_asm); (case k5 => k_asm); (case k6 => first | exact rfl | assumption); (case k7 => ktr_room); (case k8 => ktr_units); (case m0 => exact ok.pl); (case m1 => exact ok.ph); (case m2 => exact ok.po); (case m3 => exact ok.pj); k_whole)
      intro t9 h9 tk9 F9 N9
      exact CompEnd.intro (by k_asm) (by k_asm) _ (fun p hp => hp) off (.inr ⟨_, by k_mem, rfl, _, rfl⟩) ⟨rfl, strs_snoc (f := plPlace) hys hc⟩
    intro ys6 hy6 D6 h6 tk6 F6 N6 off6
    rw [List.take_length] at hy6
    repeat' (first | ((fail_if_success (fail_if_success k_unfold)); first | (with_reducible refine (?_ : wpAny _ _ _ _ _ _)) | (with_reducible refine (?_ : LeaveK _ _ _ _ _ _ _))) | (k_unfold; (try dsimp only)) | ((fail_if_success (fail_if_success k_fold)); (with_reducible refine Mine.fold_q ?_); intro qk ek sk; (try ((with_reducible rename Fr _ _ _ _ => kF); (fail_if_success (have := Mine.pin_chk kF (by with_reducible assumption))); (refine Mine.pin_m kF ?_); intro mk kF9 pk; (try clear kF)))) | ((fail_if_success (with_reducible show wpAny _ _ (storeName _ _ _) _ _ _)); walk1) | ((fail_if_success (with_reducible show wpAny _ _ (storeName _ _ _) _ _ _)); dsimp only; walk1) | (leave1; walk_say "STEP leave1"; try dsimp only) | fail "no step")
    rename (News _ _ _ [_, _, _, _, _, _, _, _, _, _, _, _, _, _]) => NP
    replace NP := prune14 NP
    simp only [LCg.Off1, and_true] at off5 off6
    simp only [List.not_mem_nil, false_imp_iff, implies_true, and_true] at hS1 hS2
    obtain ⟨o51, -, o52, -, -, -, -, -, -, o53, o54⟩ := off5
    obtain ⟨o60, o61, -, o62, -, -, -, -, -, -, o63, o64⟩ := off6
    obtain ⟨-, -, -, -, -, -, s11, s12⟩ := hS1
    obtain ⟨-, s20, -, -, -, -, -, -, s21, s22⟩ := hS2
    clear off0 off1 off3 off4 hqs hqt hlt
    repeat' (first | ((fail_if_success (fail_if_success k_unfold)); first | (with_reducible refine (?_ : wpAny _ _ _ _ _ _)) | (with_reducible refine (?_ : LeaveK _ _ _ _ _ _ _))) | (k_unfold; (try dsimp only)) | ((fail_if_success (fail_if_success k_fold)); (with_reducible refine Mine.fold_q ?_); intro qk ek sk; (try ((with_reducible rename Fr _ _ _ _ => kF); (fail_if_success (have := Mine.pin_chk kF (by with_reducible assumption))); (refine Mine.pin_m kF ?_); intro mk kF9 pk; (try clear kF)))) | ((fail_if_success (with_reducible show wpAny _ _ (call (Value.builtin "sorted") _) _ _ _)); walk1) | ((fail_if_success (with_reducible show wpAny _ _ (call (Value.builtin "sorted") _) _ _ _)); dsimp only; walk1) | (leave1; walk_say "STEP leave1"; try dsimp only) | fail "no step")
    clear o51 o52 o53 o54 o60 o61 o62 o63 o64 s11 s12 s21 s22
    have lv1 := hv1.length
    have lv2 := hv2.length
    have hr1 : (List.map plPlace W).length ≤ 9 := by rw [List.length_map]; exact lnW
    have hr2 : (List.map plPlace Tt).length ≤ 9 := by rw [List.length_map]; exact lnT
    repeat' (first | ((fail_if_success (fail_if_success k_unfold)); first | (with_reducible refine (?_ : wpAny _ _ _ _ _ _)) | (with_reducible refine (?_ : LeaveK _ _ _ _ _ _ _))) | (k_unfold; (try dsimp only)) | ((fail_if_success (fail_if_success k_fold)); (with_reducible refine Mine.fold_q ?_); intro qk ek sk; (try ((with_reducible rename Fr _ _ _ _ => kF); (fail_if_success (have := Mine.pin_chk kF (by with_reducible assumption))); (refine Mine.pin_m kF ?_); intro mk kF9 pk; (try clear kF)))) | ((fail_if_success (with_reducible show wpAny _ _ (call (Value.ref 51) _) _ _ _)); walk1) | ((fail_if_success (with_reducible show wpAny _ _ (call (Value.ref 51) _) _ _ _)); dsimp only; walk1) | (leave1; walk_say "STEP leave1"; try dsimp only) | fail "no step")
    rename (List.Perm _ (List.map plPlace W)) => pW
    rename (List.Perm _ (List.map plPlace Tt)) => pT
    have qW := pW.length_eq
    have qT := pT.length_eq
    k_dflt (refine' Mine.sld_spec ?xb ?tb ?k1 ?k2 ?k3 ?k4 ?k5 ?k6 ?m0 ?m1 ?m2 ?m3 ?m4 ?m5 ?m6 ?m7 ?_; (case xb => k_asm); (case tb => k_asm); (case k1 => k_asm); (case k2 => k_asm); (case k3 => k_asm); (case k4 => k_asm); (case k5 => k_asm); (case k6 => first | exact rfl | assumption); (case m0 => k_mem); (case m1 => k_mem); (case m2 => with_reducible assumption); (case m3 => with_reducible assumption); (case m4 => omega); (case m5 => omega); (case m6 => ktr_room); (case m7 => ktr_units); k_whole)
    intro R7 E1 E2 u1 u2 n71 n72 g7 h7 tk7 T7 B7 F7 N7 NS7 e71 e72
    replace F7 := turn_nilF T7 F7
    replace N7 := news_app3 (turn_nilN T7 NS7) (turn_nilN T7 N7)
    clear NS7 B7 T7
    repeat' (first | ((fail_if_success (fail_if_success k_unfold)); first | (with_reducible refine (?_ : wpAny _ _ _ _ _ _)) | (with_reducible refine (?_ : LeaveK _ _ _ _ _ _ _))) | (k_unfold; (try dsimp only)) | ((fail_if_success (fail_if_success k_fold)); (with_reducible refine Mine.fold_q ?_); intro qk ek sk; (try ((with_reducible rename Fr _ _ _ _ => kF); (fail_if_success (have := Mine.pin_chk kF (by with_reducible assumption))); (refine Mine.pin_m kF ?_); intro mk kF9 pk; (try clear kF)))) | ((fail_if_success (with_reducible show wpAny _ _ (call (Value.ref 896) _) _ _ _)); walk1) | ((fail_if_success (with_reducible show wpAny _ _ (call (Value.ref 896) _) _ _ _)); dsimp only; walk1) | (leave1; walk_say "STEP leave1"; try dsimp only) | fail "no step")
    rename (News _ _ _ [_, _, _, _, _, _, _, _, _, _, _, _]) => NP
    k_dflt (refine' Mine.only_spec (va := ys5) (vb := ys6) (na := ys5.length) (nb := ys6.length) ?k1 ?k2 ?k3 (only_pick NP) ?k5 ?k6 ?m0 ?m1 ?m2 ?m3 ?m4 ?m5 ?_; (case k1 => k_asm); (case k2 => k_asm); (case k3 => k_asm); (case k5 => k_asm); (case k6 => first | exact rfl | assumption); (case m0 => assumption); (case m1 => assumption); (case m2 => (rw [List.length_map]; omega)); (case m3 => (rw [List.length_map]; omega)); (case m4 => ktr_room); (case m5 => ktr_units); k_whole)
    intro O1 w1 rows1 ko1 h8 tk8 hO1 pO1 sO1 F8 N8
    clear NP
    repeat' (first | ((fail_if_success (fail_if_success k_unfold)); first | (with_reducible refine (?_ : wpAny _ _ _ _ _ _)) | (with_reducible refine (?_ : LeaveK _ _ _ _ _ _ _))) | (k_unfold; (try dsimp only)) | ((fail_if_success (fail_if_success k_fold)); (with_reducible refine Mine.fold_q ?_); intro qk ek sk; (try ((with_reducible rename Fr _ _ _ _ => kF); (fail_if_success (have := Mine.pin_chk kF (by with_reducible assumption))); (refine Mine.pin_m kF ?_); intro mk kF9 pk; (try clear kF)))) | ((fail_if_success (with_reducible show wpAny _ _ (call (Value.ref 896) _) _ _ _)); walk1) | ((fail_if_success (with_reducible show wpAny _ _ (call (Value.ref 896) _) _ _ _)); dsimp only; walk1) | (leave1; walk_say "STEP leave1"; try dsimp only) | fail "no step")
    k_dflt (refine' Mine.only_spec (va := ys6) (vb := ys5) (na := ys6.length) (nb := ys5.length) ?k1 ?k2 ?k3 (only_pick2 N8) ?k5 ?k6 ?m0 ?m1 ?m2 ?m3 ?m4 ?m5 ?_; (case k1 => k_asm); (case k2 => k_asm); (case k3 => k_asm); (case k5 => k_asm); (case k6 => first | exact rfl | assumption); (case m0 => assumption); (case m1 => assumption); (case m2 => (rw [List.length_map]; omega)); (case m3 => (rw [List.length_map]; omega)); (case m4 => ktr_room); (case m5 => ktr_units); k_whole)
    intro O2 w2 rows2 ko2 h9 tk9 hO2 pO2 sO2 F9 N9
    try clear F8
    try clear N8
    have key1 : ∀ A1 : List Str, A1.Perm (W.map plPlace) → sortedS A1 = true → A1 = rows1 := fun A1 p s => srt_perm_eq (srt_of_sorted s) (srt_of_sorted sO1) (p.trans pO1.symm)
    have key2 : ∀ A1 : List Str, A1.Perm (Tt.map plPlace) → sortedS A1 = true → A1 = rows2 := fun A1 p s => srt_perm_eq (srt_of_sorted s) (srt_of_sorted sO2) (p.trans pO2.symm)
    rw [key1 _ pW (by assumption), key2 _ pT (by assumption), sld_law (srt_of_sorted sO1) (srt_of_sorted sO2) pO1 pO2] at e71 e72
    repeat' (first | ((fail_if_success (fail_if_success k_unfold)); first | (with_reducible refine (?_ : wpAny _ _ _ _ _ _)) | (with_reducible refine (?_ : LeaveK _ _ _ _ _ _ _))) | (k_unfold; (try dsimp only)) | ((fail_if_success (fail_if_success k_fold)); (with_reducible refine Mine.fold_q ?_); intro qk ek sk; (try ((with_reducible rename Fr _ _ _ _ => kF); (fail_if_success (have := Mine.pin_chk kF (by with_reducible assumption))); (refine Mine.pin_m kF ?_); intro mk kF9 pk; (try clear kF)))) | ((fail_if_success (with_reducible show wpAny _ _ (compareOp CmpOp.NotEq (Value.ref _) (Value.ref _)) _ _ _)); walk1) | ((fail_if_success (with_reducible show wpAny _ _ (compareOp CmpOp.NotEq (Value.ref _) (Value.ref _)) _ _ _)); dsimp only; walk1) | (leave1; walk_say "STEP leave1"; try dsimp only) | fail "no step")
    k_dflt (refine Mine.two_ne (a₁ := .ref E1) (b₁ := .ref E2) (c₁ := .ref O1) (d₁ := .ref O2) (by kmk_list) (by kmk_list) (eqat_lists (by kmk_list) (by kmk_list) e71 hO1 (by ktr_units)) (eqat_lists (by kmk_list) (by kmk_list) e72 hO2 (by ktr_units)) (by ktr_units) ?_)
    rename (News _ _ _ [_, _, _, _, _, _, _, _, _, _, _, _]) => NP
    replace NP := prune12 NP
    clear e71 e72 hO1 hO2 pO1 pO2 sO1 sO2 key1 key2 pW pT
    repeat' (first | ((fail_if_success (fail_if_success k_unfold)); first | (with_reducible refine (?_ : wpAny _ _ _ _ _ _)) | (with_reducible refine (?_ : LeaveK _ _ _ _ _ _ _))) | (k_unfold; (try dsimp only)) | ((fail_if_success (fail_if_success k_fold)); (with_reducible refine Mine.fold_q ?_); intro qk ek sk; (try ((with_reducible rename Fr _ _ _ _ => kF); (fail_if_success (have := Mine.pin_chk kF (by with_reducible assumption))); (refine Mine.pin_m kF ?_); intro mk kF9 pk; (try clear kF)))) | ((fail_if_success (with_reducible show wpAny _ _ (exec (Stmt.Assign _ (PySem.Expr.ListComp _ _ _ _) _) _) _ _ _)); walk1) | ((fail_if_success (with_reducible show wpAny _ _ (exec (Stmt.Assign _ (PySem.Expr.ListComp _ _ _ _) _) _) _ _ _)); dsimp only; walk1) | (leave1; walk_say "STEP leave1"; try dsimp only) | fail "no step")
    k_dflt (refine Mine.Assign_ListComp_D (F₀ := by k_asm) (by rfl) (by with_unfolding_all rfl) (by with_unfolding_all rfl) (by decide) (by rfl) (by decide) (by rfl) (by rfl) (by rfl) ?_ (by intro _; rfl))
    repeat' (first | ((fail_if_success (fail_if_success k_unfold)); first | (with_reducible refine (?_ : wpAny _ _ _ _ _ _)) | (with_reducible refine (?_ : LeaveK _ _ _ _ _ _ _))) | (k_unfold; (try dsimp only)) | ((fail_if_success (fail_if_success k_fold)); (with_reducible refine Mine.fold_q ?_); intro qk ek sk; (try ((with_reducible rename Fr _ _ _ _ => kF); (fail_if_success (have := Mine.pin_chk kF (by with_reducible assumption))); (refine Mine.pin_m kF ?_); intro mk kF9 pk; (try clear kF)))) | ((fail_if_success (with_reducible show wpAny _ _ (call (Value.builtin "len") [Value.ref _]) _ _ _)); walk1) | ((fail_if_success (with_reducible show wpAny _ _ (call (Value.builtin "len") [Value.ref _]) _ _ _)); dsimp only; walk1) | (leave1; walk_say "STEP leave1"; try dsimp only) | fail "no step")
    have hw9 : (W.map plPlace).length ≤ 9 := by rw [List.length_map]; exact lnW
    have ht9 : (Tt.map plPlace).length ≤ 9 := by rw [List.length_map]; exact lnT
    generalize W.map plPlace = PW at *
    generalize Tt.map plPlace = PT at *
    k_dflt (refine' Mine.st_len ?l ?i ?z ?_; (case l => kmk_list); (case i => with_reducible assumption); (case z => rw [sizeLine_eq]; omega)); (try dsimp only)
    repeat' (first | ((fail_if_success (fail_if_success k_unfold)); first | (with_reducible refine (?_ : wpAny _ _ _ _ _ _)) | (with_reducible refine (?_ : LeaveK _ _ _ _ _ _ _))) | (k_unfold; (try dsimp only)) | ((fail_if_success (fail_if_success k_fold)); (with_reducible refine Mine.fold_q ?_); intro qk ek sk; (try ((with_reducible rename Fr _ _ _ _ => kF); (fail_if_success (have := Mine.pin_chk kF (by with_reducible assumption))); (refine Mine.pin_m kF ?_); intro mk kF9 pk; (try clear kF)))) | ((fail_if_success (with_reducible show Keep _)); (fail_if_success (with_reducible show CompEnd _ _ _ _ _ _ _ _ _ _ _ _ _ _)); (fail_if_success (with_reducible show IfEnd (decide _) _ _)); (fail_if_success (with_reducible show IfEnd (_ != _) _ _)); first | walk1 | (dsimp only; walk1) | (leave1; walk_say "STEP leave1"; try dsimp only)) | fail "no step")
    rename (IsRange _ _ _ _ _ _ _ _) => hrg
    dsimp only [Keep]
    refine ⟨_, _, _, _, _, _, _, PW.length, ?led, rfl, rfl, by k_asm, ?N, hrg, small_dn (by omega), size_dn _, by rw [sizeLine_eq]; omega, fun gg9 => ?_⟩
    case N => k_asm
    refine compT_fix (fun i ys => StrsAre ys (lackF PT [] (PW.reverse.take i))) .nil ?_ ?_
    · rintro i ys v I oI C oC D m2 h tk E' hi hy ⟨-, t, rfl⟩ hns hm2 F1 N1 off ne
      have hix : (PW.length : Int) - 1 + (i : Nat) * (-1) = ((PW.length - 1 - i : Nat) : Int) := by omega
      rw [hix] at hm2
      have hi' : PW.length - 1 - i < PW.length := by omega
      repeat' (first | ((fail_if_success (fail_if_success k_unfold)); first | (with_reducible refine (?_ : wpAny _ _ _ _ _ _)) | (with_reducible refine (?_ : LeaveK _ _ _ _ _ _ _))) | (k_unfold; (try dsimp only)) | ((fail_if_success (fail_if_success k_fold)); (with_reducible refine Mine.fold_q ?_); intro qk ek sk; (try ((with_reducible rename Fr _ _ _ _ => kF); (fail_if_success (have := Mine.pin_chk kF (by with_reducible assumption))); (refine Mine.pin_m kF ?_); intro mk kF9 pk; (try clear kF)))) | ((fail_if_success (with_reducible show wpAny _ _ (call (Value.builtin "list.count") _) _ _ _)); walk1) | ((fail_if_success (with_reducible show wpAny _ _ (call (Value.builtin "list.count") _) _ _ _)); dsimp only; walk1) | (leave1; walk_say "STEP leave1"; try dsimp only) | fail "no step")
      k_dflt (refine Mine.st_count (by kmk_list) (by with_reducible assumption) ?_)
      repeat' (first | ((fail_if_success (fail_if_success k_unfold)); first | (with_reducible refine (?_ : wpAny _ _ _ _ _ _)) | (with_reducible refine (?_ : LeaveK _ _ _ _ _ _ _))) | (k_unfold; (try dsimp only)) | ((fail_if_success (fail_if_success k_fold)); (with_reducible refine Mine.fold_q ?_); intro qk ek sk; (try ((with_reducible rename Fr _ _ _ _ => kF); (fail_if_success (have := Mine.pin_chk kF (by with_reducible assumption))); (refine Mine.pin_m kF ?_); intro mk kF9 pk; (try clear kF)))) | ((fail_if_success (with_reducible show wpAny _ _ (call (Value.builtin "list.count") _) _ _ _)); walk1) | ((fail_if_success (with_reducible show wpAny _ _ (call (Value.builtin "list.count") _) _ _ _)); dsimp only; walk1) | (leave1; walk_say "STEP leave1"; try dsimp only) | fail "no step")
      k_dflt (refine Mine.st_count (by kmk_list) hy6 ?_)
      repeat' (first | ((fail_if_success (fail_if_success k_unfold)); first | (with_reducible refine (?_ : wpAny _ _ _ _ _ _)) | (with_reducible refine (?_ : LeaveK _ _ _ _ _ _ _))) | (k_unfold; (try dsimp only)) | ((fail_if_success (fail_if_success k_fold)); (with_reducible refine Mine.fold_q ?_); intro qk ek sk; (try ((with_reducible rename Fr _ _ _ _ => kF); (fail_if_success (have := Mine.pin_chk kF (by with_reducible assumption))); (refine Mine.pin_m kF ?_); intro mk kF9 pk; (try clear kF)))) | ((fail_if_success (with_reducible show Keep _)); (fail_if_success (with_reducible show CompEnd _ _ _ _ _ _ _ _ _ _ _ _ _ _)); (fail_if_success (with_reducible show IfEnd (decide _) _ _)); (fail_if_success (with_reducible show IfEnd (_ != _) _ _)); first | walk1 | (dsimp only; walk1) | (leave1; walk_say "STEP leave1"; try dsimp only)) | fail "no step")
      refine ifEnd_dec (fun hlt => ?_) (fun hlt => ?_)
      · repeat' (first | ((fail_if_success (fail_if_success k_unfold)); first | (with_reducible refine (?_ : wpAny _ _ _ _ _ _)) | (with_reducible refine (?_ : LeaveK _ _ _ _ _ _ _))) | (k_unfold; (try dsimp only)) | ((fail_if_success (fail_if_success k_fold)); (with_reducible refine Mine.fold_q ?_); intro qk ek sk; (try ((with_reducible rename Fr _ _ _ _ => kF); (fail_if_success (have := Mine.pin_chk kF (by with_reducible assumption))); (refine Mine.pin_m kF ?_); intro mk kF9 pk; (try clear kF)))) | ((fail_if_success (with_reducible show Keep _)); (fail_if_success (with_reducible show CompEnd _ _ _ _ _ _ _ _ _ _ _ _ _ _)); (fail_if_success (with_reducible show IfEnd (decide _) _ _)); (fail_if_success (with_reducible show IfEnd (_ != _) _ _)); first | walk1 | (dsimp only; walk1) | (leave1; walk_say "STEP leave1"; try dsimp only)) | fail "no step")
        simp only [Int.toNat_natCast, Int.ofNat_lt] at hlt
        exact CompEnd.intro (by k_asm) (by k_asm) _ (fun p hp => List.mem_cons_of_mem _ hp) off trivial ⟨rfl, by rw [lack_yes hi hlt]; exact hy.append' (.cons _ _ .nil)⟩
      · simp only [Int.toNat_natCast, Int.ofNat_lt] at hlt
        exact CompEnd.intro (by k_asm) (by k_asm) _ (fun p hp => List.mem_cons_of_mem _ hp) off trivial ⟨rfl, by rw [lack_no hi hlt]; exact hy⟩
    intro ys7 hy7 D7 h7 tk7 F7 N7 off7
    rw [List.take_of_length_le (by rw [List.length_reverse]; exact Nat.le_refl _)] at hy7
    repeat' (first | ((fail_if_success (fail_if_success k_unfold)); first | (with_reducible refine (?_ : wpAny _ _ _ _ _ _)) | (with_reducible refine (?_ : LeaveK _ _ _ _ _ _ _))) | (k_unfold; (try dsimp only)) | ((fail_if_success (fail_if_success k_fold)); (with_reducible refine Mine.fold_q ?_); intro qk ek sk; (try ((with_reducible rename Fr _ _ _ _ => kF); (fail_if_success (have := Mine.pin_chk kF (by with_reducible assumption))); (refine Mine.pin_m kF ?_); intro mk kF9 pk; (try clear kF)))) | ((fail_if_success (with_reducible show wpAny _ _ (exec (Stmt.Assign _ (PySem.Expr.ListComp _ _ _ _) _) _) _ _ _)); walk1) | ((fail_if_success (with_reducible show wpAny _ _ (exec (Stmt.Assign _ (PySem.Expr.ListComp _ _ _ _) _) _) _ _ _)); dsimp only; walk1) | (leave1; walk_say "STEP leave1"; try dsimp only) | fail "no step")
    k_dflt (refine Mine.Assign_ListComp_TV (F₀ := by k_asm) (by rfl) (by with_unfolding_all rfl) (by with_unfolding_all rfl) (by decide) (by rfl) (by decide) (by rfl) (by rfl) (by rfl) ?_ (by intro _; rfl))
    repeat' (first | ((fail_if_success (fail_if_success k_unfold)); first | (with_reducible refine (?_ : wpAny _ _ _ _ _ _)) | (with_reducible refine (?_ : LeaveK _ _ _ _ _ _ _))) | (k_unfold; (try dsimp only)) | ((fail_if_success (fail_if_success k_fold)); (with_reducible refine Mine.fold_q ?_); intro qk ek sk; (try ((with_reducible rename Fr _ _ _ _ => kF); (fail_if_success (have := Mine.pin_chk kF (by with_reducible assumption))); (refine Mine.pin_m kF ?_); intro mk kF9 pk; (try clear kF)))) | ((fail_if_success (with_reducible show wpAny _ _ (call (Value.builtin "len") [Value.ref _]) _ _ _)); walk1) | ((fail_if_success (with_reducible show wpAny _ _ (call (Value.builtin "len") [Value.ref _]) _ _ _)); dsimp only; walk1) | (leave1; walk_say "STEP leave1"; try dsimp only) | fail "no step")
    k_dflt (refine' Mine.st_len ?l ?i ?z ?_; (case l => kmk_list); (case i => with_reducible assumption); (case z => rw [sizeLine_eq]; omega)); (try dsimp only)
    repeat' (first | ((fail_if_success (fail_if_success k_unfold)); first | (with_reducible refine (?_ : wpAny _ _ _ _ _ _)) | (with_reducible refine (?_ : LeaveK _ _ _ _ _ _ _))) | (k_unfold; (try dsimp only)) | ((fail_if_success (fail_if_success k_fold)); (with_reducible refine Mine.fold_q ?_); intro qk ek sk; (try ((with_reducible rename Fr _ _ _ _ => kF); (fail_if_success (have := Mine.pin_chk kF (by with_reducible assumption))); (refine Mine.pin_m kF ?_); intro mk kF9 pk; (try clear kF)))) | ((fail_if_success (with_reducible show Keep _)); (fail_if_success (with_reducible show CompEnd _ _ _ _ _ _ _ _ _ _ _ _ _ _)); (fail_if_success (with_reducible show IfEnd (decide _) _ _)); (fail_if_success (with_reducible show IfEnd (_ != _) _ _)); first | walk1 | (dsimp only; walk1) | (leave1; walk_say "STEP leave1"; try dsimp only)) | fail "no step")
    rename (IsRange _ _ _ _ _ _ _ _) => hrg2
    refine CompSrcT.range rfl (by k_asm) (by k_asm) hrg2 (small_up (by decide) (by decide) (by omega) (by omega)) (rangeSize_nat _ _) (by rw [sizeLine_eq]; omega) ?_
    intro gg8
    have hz8 : ((PT.length : Int) - 0).toNat = PT.length := by omega
    refine compT_fix (fun i ys => StrsAre ys (leftF PW [] (PT.take i))) .nil ?_ ?_
    · rintro i ys v I oI C oC D m2 h tk E' hi hy ⟨t, rfl⟩ hns hm2 F1 N1 off ne
      rw [hz8] at hi
      rw [Int.zero_add] at hm2
      have e1 : ((i : Int) + 1).toNat = i + 1 := by omega
      repeat' (first | ((fail_if_success (fail_if_success k_unfold)); first | (with_reducible refine (?_ : wpAny _ _ _ _ _ _)) | (with_reducible refine (?_ : LeaveK _ _ _ _ _ _ _))) | (k_unfold; (try dsimp only)) | ((fail_if_success (fail_if_success k_fold)); (with_reducible refine Mine.fold_q ?_); intro qk ek sk; (try ((with_reducible rename Fr _ _ _ _ => kF); (fail_if_success (have := Mine.pin_chk kF (by with_reducible assumption))); (refine Mine.pin_m kF ?_); intro mk kF9 pk; (try clear kF)))) | ((fail_if_success (with_reducible show wpAny _ _ (call (Value.builtin "list.count") _) _ _ _)); walk1) | ((fail_if_success (with_reducible show wpAny _ _ (call (Value.builtin "list.count") _) _ _ _)); dsimp only; walk1) | (leave1; walk_say "STEP leave1"; try dsimp only) | fail "no step")
      k_dflt (refine Mine.st_count (by kmk_list) (by with_reducible assumption) ?_)
      repeat' (first | ((fail_if_success (fail_if_success k_unfold)); first | (with_reducible refine (?_ : wpAny _ _ _ _ _ _)) | (with_reducible refine (?_ : LeaveK _ _ _ _ _ _ _))) | (k_unfold; (try dsimp only)) | ((fail_if_success (fail_if_success k_fold)); (with_reducible refine Mine.fold_q ?_); intro qk ek sk; (try ((with_reducible rename Fr _ _ _ _ => kF); (fail_if_success (have := Mine.pin_chk kF (by with_reducible assumption))); (refine Mine.pin_m kF ?_); intro mk kF9 pk; (try clear kF)))) | ((fail_if_success (with_reducible show wpAny _ _ (call (Value.builtin "list.count") _) _ _ _)); walk1) | ((fail_if_success (with_reducible show wpAny _ _ (call (Value.builtin "list.count") _) _ _ _)); dsimp only; walk1) | (leave1; walk_say "STEP leave1"; try dsimp only) | fail "no step")
      k_dflt (refine Mine.st_count (by kmk_list) hy5 ?_)
      repeat' (first | ((fail_if_success (fail_if_success k_unfold)); first | (with_reducible refine (?_ : wpAny _ _ _ _ _ _)) | (with_reducible refine (?_ : LeaveK _ _ _ _ _ _ _))) | (k_unfold; (try dsimp only)) | ((fail_if_success (fail_if_success k_fold)); (with_reducible refine Mine.fold_q ?_); intro qk ek sk; (try ((with_reducible rename Fr _ _ _ _ => kF); (fail_if_success (have := Mine.pin_chk kF (by with_reducible assumption))); (refine Mine.pin_m kF ?_); intro mk kF9 pk; (try clear kF)))) | ((fail_if_success (with_reducible show Keep _)); (fail_if_success (with_reducible show CompEnd _ _ _ _ _ _ _ _ _ _ _ _ _ _)); (fail_if_success (with_reducible show IfEnd (decide _) _ _)); (fail_if_success (with_reducible show IfEnd (_ != _) _ _)); first | walk1 | (dsimp only; walk1) | (leave1; walk_say "STEP leave1"; try dsimp only)) | fail "no step")
      refine ifEnd_dec (fun hlt => ?_) (fun hlt => ?_)
      · repeat' (first | ((fail_if_success (fail_if_success k_unfold)); first | (with_reducible refine (?_ : wpAny _ _ _ _ _ _)) | (with_reducible refine (?_ : LeaveK _ _ _ _ _ _ _))) | (k_unfold; (try dsimp only)) | ((fail_if_success (fail_if_success k_fold)); (with_reducible refine Mine.fold_q ?_); intro qk ek sk; (try ((with_reducible rename Fr _ _ _ _ => kF); (fail_if_success (have := Mine.pin_chk kF (by with_reducible assumption))); (refine Mine.pin_m kF ?_); intro mk kF9 pk; (try clear kF)))) | ((fail_if_success (with_reducible show Keep _)); (fail_if_success (with_reducible show CompEnd _ _ _ _ _ _ _ _ _ _ _ _ _ _)); (fail_if_success (with_reducible show IfEnd (decide _) _ _)); (fail_if_success (with_reducible show IfEnd (_ != _) _ _)); first | walk1 | (dsimp only; walk1) | (leave1; walk_say "STEP leave1"; try dsimp only)) | fail "no step")
        rw [e1] at hlt
        simp only [Int.toNat_natCast, Int.ofNat_lt] at hlt
        exact CompEnd.intro (by k_asm) (by k_asm) _ (fun p hp => List.mem_cons_of_mem _ hp) off trivial ⟨rfl, by rw [left_yes hi hlt]; exact hy.append' (.cons _ _ .nil)⟩
      · rw [e1] at hlt
        simp only [Int.toNat_natCast, Int.ofNat_lt] at hlt
        exact CompEnd.intro (by k_asm) (by k_asm) _ (fun p hp => List.mem_cons_of_mem _ hp) off trivial ⟨rfl, by rw [left_no hi hlt]; exact hy⟩
    intro ys8 hy8 D8 h8 tk8 F8 N8 off8
    rw [hz8, List.take_length] at hy8
    simp only [LCg.Off1, and_true] at off7 off8
    repeat' (first | ((fail_if_success (fail_if_success k_unfold)); first | (with_reducible refine (?_ : wpAny _ _ _ _ _ _)) | (with_reducible refine (?_ : LeaveK _ _ _ _ _ _ _))) | (k_unfold; (try dsimp only)) | ((fail_if_success (fail_if_success k_fold)); (with_reducible refine Mine.fold_q ?_); intro qk ek sk; (try ((with_reducible rename Fr _ _ _ _ => kF); (fail_if_success (have := Mine.pin_chk kF (by with_reducible assumption))); (refine Mine.pin_m kF ?_); intro mk kF9 pk; (try clear kF)))) | ((fail_if_success (with_reducible show wpAny _ _ (call (Value.ref 58) _) _ _ _)); walk1) | ((fail_if_success (with_reducible show wpAny _ _ (call (Value.ref 58) _) _ _ _)); dsimp only; walk1) | (leave1; walk_say "STEP leave1"; try dsimp only) | fail "no step")
    k_dflt (refine' Mine.und_spec (keep := [(D8, lst ys8), (D7, lst ys7)]) ?xb ?tb ?k1 ?k2 ?k3 ?k4 ?k5 ?k6 ?m0 ?m1 ?m2 ?m3 ?m4 ?m5 ?m6 ?m7 ?m8 ?m9 ?_; (case xb => k_asm); (case tb => k_asm); (case k1 => k_asm); (case k2 => k_asm); (case k3 => k_asm); (case k4 => k_asm); (case k5 => k_asm); (case k6 => first | exact rfl | assumption); (case m0 => k_mem); (case m1 => k_mem); (case m2 => exact s20); (case m4 => exact hv1); (case m5 => exact hv2); (case m6 => omega); (case m7 => omega); (case m8 => ktr_room); (case m9 => ktr_units); k_whole)
    case m3 =>
      intro p hp
      rcases List.mem_cons.mp hp with rfl | hp
      · exact ⟨by k_mem, fun e => off8.2.2.2.2.1 e.symm, fun e => off8.2.2.2.1 e.symm⟩
      · obtain rfl := List.mem_singleton.mp hp
        exact ⟨by k_mem, fun e => off7.2.2.2.1 e.symm, fun e => off7.2.2.1 e.symm⟩
    intro R9 G1 v91 v92 n91 n92 g9 h9 tk9 T9 B9 F9 N9 NS9 e91 e92
    replace F9 := turn_nilF T9 F9
    replace N9 := news_app3 (turn_nilN T9 NS9) (turn_nilN T9 N9)
    clear NS9 B9 T9
    rw [un_law] at e91 e92
    repeat' (first | ((fail_if_success (fail_if_success k_unfold)); first | (with_reducible refine (?_ : wpAny _ _ _ _ _ _)) | (with_reducible refine (?_ : LeaveK _ _ _ _ _ _ _))) | (k_unfold; (try dsimp only)) | ((fail_if_success (fail_if_success k_fold)); (with_reducible refine Mine.fold_q ?_); intro qk ek sk; (try ((with_reducible rename Fr _ _ _ _ => kF); (fail_if_success (have := Mine.pin_chk kF (by with_reducible assumption))); (refine Mine.pin_m kF ?_); intro mk kF9 pk; (try clear kF)))) | ((fail_if_success (with_reducible show wpAny _ _ (compareOp CmpOp.Eq (Value.ref _) (Value.ref _)) _ _ _)); walk1) | ((fail_if_success (with_reducible show wpAny _ _ (compareOp CmpOp.Eq (Value.ref _) (Value.ref _)) _ _ _)); dsimp only; walk1) | (leave1; walk_say "STEP leave1"; try dsimp only) | fail "no step")
    k_dflt (refine Mine.two_eq (a₁ := .ref G1) (b₁ := .ref S2) (c₁ := .ref D7) (d₁ := .ref D8) (by kmk_list) (by kmk_list) (eqat_lists (by kmk_list) (by kmk_list) e91 hy7 (by ktr_units)) (eqat_lists (by kmk_list) (by kmk_list) e92 hy8 (by ktr_units)) (by ktr_units) ?_)
    repeat' (first | ((fail_if_success (fail_if_success k_unfold)); first | (with_reducible refine (?_ : wpAny _ _ _ _ _ _)) | (with_reducible refine (?_ : LeaveK _ _ _ _ _ _ _))) | (k_unfold; (try dsimp only)) | ((fail_if_success (fail_if_success k_fold)); (with_reducible refine Mine.fold_q ?_); intro qk ek sk; (try ((with_reducible rename Fr _ _ _ _ => kF); (fail_if_success (have := Mine.pin_chk kF (by with_reducible assumption))); (refine Mine.pin_m kF ?_); intro mk kF9 pk; (try clear kF)))) | ((fail_if_success (with_reducible show Keep _)); (fail_if_success (with_reducible show CompEnd _ _ _ _ _ _ _ _ _ _ _ _ _ _)); (fail_if_success (with_reducible show IfEnd (decide _) _ _)); (fail_if_success (with_reducible show IfEnd (_ != _) _ _)); first | walk1 | (dsimp only; walk1) | (leave1; walk_say "STEP leave1"; try dsimp only)) | fail "no step")
    exact Mine.good_end (by assumption) (by assumption) rfl)⟩

end

end Mine
set_option maxRecDepth 100000 in
set_option maxHeartbeats 8000000 in
theorem PySem.Challenge.cw_ik0143_01_holds : PySem.Challenge.rw_ik0143_01.Holds := by
  exact Mine.law_spec
