import PyProof.Rows.All
import Wide.All
import OpenK.AllK
import Wide.FinOn
import PyProof.Rows.WhileInv
import KE.BitLaws
import PySem.Challenge.RW_to0077_01
open PySem PySem.W PyProof.Rows
set_option Elab.async false
set_option maxRecDepth 100000
set_option rowWalk.seconds 0
set_option compiler.extract_closed false
namespace Mine
theorem sameFind : @PySem.Manifest.find? = @PySem.Manifest.find? := rfl
name_quick tw8075568018651887793 for PySem.Manifest.find? by sameFind
name_quick tw7009043117176579089 for PySem.Manifest.find? by sameFind
name_quick tw6733733256287894996 for PySem.Manifest.find? by sameFind
name_quick tw2419491120220057266 for PySem.Manifest.find? by sameFind
name_quick tw4794373651093157475 for PySem.Manifest.find? by sameFind
name_quick tw4483890143940070358 for PySem.Manifest.find? by sameFind
name_quick tw14979626087600564940 for PySem.Manifest.find? by sameFind
name_quick tw5059338700186464400 for PySem.Manifest.find? by sameFind
name_quick tw4864029045853621792 for PySem.Manifest.find? by sameFind
name_quick tw1719230996375869582 for PySem.Manifest.find? by sameFind
name_quick tw16804044748790271530 for PySem.Manifest.find? by sameFind
name_quick tw6755680374467540070 for PySem.Manifest.find? by sameFind
name_quick tw16687058600856472310 for PySem.Manifest.find? by sameFind
name_quick tw3123356604346172194 for PySem.Manifest.find? by sameFind
name_quick tw12835720964997663042 for PySem.Manifest.find? by sameFind
name_quick tw17517737089405305841 for PySem.Manifest.find? by sameFind
name_quick tw1749818173716722547 for PySem.Manifest.find? by sameFind
name_quick tw392140993173905013 for PySem.Manifest.find? by sameFind
name_quick tw6679490504615227074 for PySem.Manifest.find? by sameFind
name_quick tw18045940029875791569 for PySem.Manifest.find? by sameFind
name_quick tw3131671291697673992 for PySem.Manifest.find? by sameFind
name_quick tw8703263022893421829 for PySem.Manifest.find? by sameFind
name_quick tw4075660801711882420 for PySem.Manifest.find? by sameFind
name_quick tw8719427161674164953 for PySem.Manifest.find? by sameFind
name_quick tw313226197891681235 for PySem.Manifest.find? by sameFind
name_quick tw17069979004554194336 for PySem.Manifest.find? by sameFind
name_quick tw15900120412870309639 for PySem.Manifest.find? by sameFind
name_quick tw7788680626742099145 for PySem.Manifest.find? by sameFind
name_quick tw9676229304581654039 for PySem.Manifest.find? by sameFind
name_quick tw14333388528381170442 for PySem.Manifest.find? by sameFind
name_quick tw18056578402003937789 for PySem.Manifest.find? by sameFind
name_quick tw4444965560193506482 for PySem.Manifest.find? by sameFind
name_quick tw1355338860687761863 for PySem.Manifest.find? by sameFind
name_quick tw16176465441171805009 for PySem.Manifest.find? by sameFind
name_quick tw4636218855388986860 for PySem.Manifest.find? by sameFind
name_quick tw9787463984185863102 for PySem.Manifest.find? by sameFind
name_quick tw4797165386629745026 for PySem.Manifest.find? by sameFind
name_quick tw1638017585896720355 for PySem.Manifest.find? by sameFind
name_quick tw14714103240675001986 for PySem.Manifest.find? by sameFind
name_quick tw14376985748213822385 for PySem.Manifest.find? by sameFind
name_quick tw17672482021469178181 for PySem.Manifest.find? by sameFind
name_quick tw1258299570235058372 for PySem.Manifest.find? by sameFind
name_quick tw7496433998918960881 for PySem.Manifest.find? by sameFind
name_quick tw6817277305950994716 for PySem.Manifest.find? by sameFind
name_quick tw5770868932273138760 for PySem.Manifest.find? by sameFind
name_quick tw15560500314895047343 for PySem.Manifest.find? by sameFind
name_quick tw9011979029575296479 for PySem.Manifest.find? by sameFind
name_quick tw5591276700874282246 for PySem.Manifest.find? by sameFind
name_quick tw17497748084772794779 for PySem.Manifest.find? by sameFind
name_quick tw4302124980754421698 for PySem.Manifest.find? by sameFind
name_quick tw5882768191206486792 for PySem.Manifest.find? by sameFind
name_quick tw1942679103099616262 for PySem.Manifest.find? by sameFind
name_quick tw10317580896714288900 for PySem.Manifest.find? by sameFind
name_quick tw3880421473898291048 for PySem.Manifest.find? by sameFind
name_quick tw3105397867545767578 for PySem.Manifest.find? by sameFind
name_quick tw11420187438672877268 for PySem.Manifest.find? by sameFind
name_quick tw6730943924577891300 for PySem.Manifest.find? by sameFind
name_quick tw10793946183389764080 for PySem.Manifest.find? by sameFind
name_quick tw13335737130258781183 for PySem.Manifest.find? by sameFind
name_quick tw6176516700144440145 for PySem.Manifest.find? by sameFind
name_quick tw7198390536060210744 for PySem.Manifest.find? by sameFind
name_quick tw14777955251499897993 for PySem.Manifest.find? by sameFind
name_quick tw11939915149646268982 for PySem.Manifest.find? by sameFind
name_quick tw8253183596043897158 for PySem.Manifest.find? by sameFind
name_quick tw3093977132361051618 for PySem.Manifest.find? by sameFind
name_quick tw11306939235166856333 for PySem.Manifest.find? by sameFind
name_quick tw18101931140130867144 for PySem.Manifest.find? by sameFind
name_quick tw11543547407058413889 for PySem.Manifest.find? by sameFind
name_quick tw11384798719751882707 for PySem.Manifest.find? by sameFind
name_quick tw18416463498863911781 for PySem.Manifest.find? by sameFind
name_quick tw3636048126100218174 for PySem.Manifest.find? by sameFind
name_quick tw11636919720809706868 for PySem.Manifest.find? by sameFind
name_quick tw721709456127091705 for PySem.Manifest.find? by sameFind
name_quick tw16350708796919097252 for PySem.Manifest.find? by sameFind
name_quick tw17863021456227041891 for PySem.Manifest.find? by sameFind
name_quick tw10942035263794033107 for PySem.Manifest.find? by sameFind
name_quick tw17894864189363708594 for PySem.Manifest.find? by sameFind
name_quick tw11994158751524154303 for PySem.Manifest.find? by sameFind
name_quick tw8796240567053077481 for PySem.Manifest.find? by sameFind
name_quick tw6363645014702824404 for PySem.Manifest.find? by sameFind
name_quick tw11863081143760314161 for PySem.Manifest.find? by sameFind
name_quick tw17804436615005485693 for PySem.Manifest.find? by sameFind
name_quick tw15766043655864335149 for PySem.Manifest.find? by sameFind
name_quick tw2354135333415324597 for PySem.Manifest.find? by sameFind
name_quick tw14311459727803291754 for PySem.Manifest.find? by sameFind
name_quick tw18211773271919218964 for PySem.Manifest.find? by sameFind
name_quick tw13512673800721320934 for PySem.Manifest.find? by sameFind
name_quick tw10424941004445345732 for PySem.Manifest.find? by sameFind
name_quick tw15480198773659482676 for PySem.Manifest.find? by sameFind
name_quick tw7511906259402933339 for PySem.Manifest.find? by sameFind
name_quick tw9948023125614773506 for PySem.Manifest.find? by sameFind
name_quick tw12237943961548833269 for PySem.Manifest.find? by sameFind
name_quick tw3560238982266916124 for PySem.Manifest.find? by sameFind
name_quick tw8595292554425487202 for PySem.Manifest.find? by sameFind
name_quick tw2408619945344806742 for PySem.Manifest.find? by sameFind
name_quick tw11707433790658880453 for PySem.Manifest.find? by sameFind
name_quick tw5032809538720368765 for PySem.Manifest.find? by sameFind
name_quick tw5697894365363955025 for PySem.Manifest.find? by sameFind
name_quick tw15742981410569661332 for PySem.Manifest.find? by sameFind
name_quick tw16180582048198870337 for PySem.Manifest.find? by sameFind
name_quick tw16548257151911338427 for PySem.Manifest.find? by sameFind
name_quick tw2611137233208623240 for PySem.Manifest.find? by sameFind
name_quick tw9908251947323293946 for PySem.Manifest.find? by sameFind
name_quick tw12945451867199242903 for PySem.Manifest.find? by sameFind
name_quick tw9315938663221665524 for PySem.Manifest.find? by sameFind
name_quick tw8727135674562949291 for PySem.Manifest.find? by sameFind
name_quick tw4319705520415482375 for PySem.Manifest.find? by sameFind
name_quick tw13776390136698705113 for PySem.Manifest.find? by sameFind
name_quick tw16643379632663270332 for PySem.Manifest.find? by sameFind
name_quick tw795377275742717654 for PySem.Manifest.find? by sameFind
name_quick tw14530364306720264245 for PySem.Manifest.find? by sameFind
name_quick tw460243522976405022 for PySem.Manifest.find? by sameFind
name_quick tw5189142188285759775 for PySem.Manifest.find? by sameFind
name_quick tw1041845030581493396 for PySem.Manifest.find? by sameFind
name_quick tw17975652961387846372 for PySem.Manifest.find? by sameFind
name_quick tw1706496860858754268 for PySem.Manifest.find? by sameFind
name_quick tw15195428891847259777 for PySem.Manifest.find? by sameFind
name_quick tw1218959903707654005 for PySem.Manifest.find? by sameFind
name_quick tw1886563365779066154 for PySem.Manifest.find? by sameFind
name_quick tw15056778947836399286 for PySem.Manifest.find? by sameFind
name_quick tw6135381517318000843 for PySem.Manifest.find? by sameFind
name_quick tw12022618010286034681 for PySem.Manifest.find? by sameFind
name_quick tw11270796479367742343 for PySem.Manifest.find? by sameFind
name_quick tw1735497430108182060 for PySem.Manifest.find? by sameFind
name_quick tw16966814322356759819 for PySem.Manifest.find? by sameFind
name_quick tw15007238320947547705 for PySem.Manifest.find? by sameFind
name_quick tw10706342367453228570 for PySem.Manifest.find? by sameFind
name_quick tw11964429278604863157 for PySem.Manifest.find? by sameFind
name_quick tw8860024209350480642 for PySem.Manifest.find? by sameFind
name_quick tw6426273055680023932 for PySem.Manifest.find? by sameFind
name_quick tw17279654841073493023 for PySem.Manifest.find? by sameFind
name_quick tw6122645084068987007 for PySem.Manifest.find? by sameFind
name_quick tw4039474712603431140 for PySem.Manifest.find? by sameFind
name_quick tw11452132507678324671 for PySem.Manifest.find? by sameFind
name_quick tw43969757491396457 for PySem.Manifest.find? by sameFind
name_quick tw10887116778572429059 for PySem.Manifest.find? by sameFind
name_quick tw11333186260410459676 for PySem.Manifest.find? by sameFind
name_quick tw7299303143086499733 for PySem.Manifest.find? by sameFind
name_quick tw13640514254501968386 for PySem.Manifest.find? by sameFind
name_quick tw16984617044495170189 for PySem.Manifest.find? by sameFind
name_quick tw17274371674624000324 for PySem.Manifest.find? by sameFind
name_quick tw2862820112641550484 for PySem.Manifest.find? by sameFind
name_quick tw3856783459128436802 for PySem.Manifest.find? by sameFind
name_quick tw17532718790514356516 for PySem.Manifest.find? by sameFind
name_quick tw14553827428707814869 for PySem.Manifest.find? by sameFind
name_quick tw3619232141914619222 for PySem.Manifest.find? by sameFind
name_quick tw11277716924127702174 for PySem.Manifest.find? by sameFind
name_quick tw9501820088010722379 for PySem.Manifest.find? by sameFind
name_quick tw7721631327575515661 for PySem.Manifest.find? by sameFind
name_quick tw11790162104776037713 for PySem.Manifest.find? by sameFind
name_quick tw17730448691065144110 for PySem.Manifest.find? by sameFind
name_quick tw219737044198020058 for PySem.Manifest.find? by sameFind
name_quick tw13180171748994924942 for PySem.Manifest.find? by sameFind
name_quick tw15066959818950650227 for PySem.Manifest.find? by sameFind
name_quick tw5721027456603625697 for PySem.Manifest.find? by sameFind
name_quick tw14896874001708588922 for PySem.Manifest.find? by sameFind
name_quick tw4978915544186085027 for PySem.Manifest.find? by sameFind
name_quick tw2660918139993853925 for PySem.Manifest.find? by sameFind
name_quick tw4658958612460137192 for PySem.Manifest.find? by sameFind
name_quick tw151948405760981731 for PySem.Manifest.find? by sameFind
name_quick tw7035115661146626270 for PySem.Manifest.find? by sameFind
name_quick tw15475462885187679331 for PySem.Manifest.find? by sameFind
name_quick tw3976722010076183465 for PySem.Manifest.find? by sameFind
name_quick tw16531745337717519161 for PySem.Manifest.find? by sameFind
name_quick tw8989982439271903415 for PySem.Manifest.find? by sameFind
name_quick tw3424931102881643321 for PySem.Manifest.find? by sameFind
name_quick tw17537794083376710389 for PySem.Manifest.find? by sameFind
name_quick tw6380047634161181297 for PySem.Manifest.find? by sameFind
name_quick tw9800571698397750058 for PySem.Manifest.find? by sameFind
name_quick tw5396446701170858492 for PySem.Manifest.find? by sameFind
name_quick tw17164873540382356111 for PySem.Manifest.find? by sameFind
name_quick tw4224760802259116069 for PySem.Manifest.find? by sameFind
name_quick tw12172078356533094185 for PySem.Manifest.find? by sameFind
name_quick tw13981391230805400906 for PySem.Manifest.find? by sameFind
name_quick tw4921902886906138986 for PySem.Manifest.find? by sameFind
name_quick tw2039238271031011813 for PySem.Manifest.find? by sameFind
name_quick tw8098380416015320538 for PySem.Manifest.find? by sameFind
name_quick tw15663404670287596823 for PySem.Manifest.find? by sameFind
name_quick tw16697116713213952808 for PySem.Manifest.find? by sameFind
name_quick tw3820604794100220378 for PySem.Manifest.find? by sameFind
name_quick tw4275521005467322725 for PySem.Manifest.find? by sameFind
name_quick tw347637069881736656 for PySem.Manifest.find? by sameFind
name_quick tw9376109419431680627 for PySem.Manifest.find? by sameFind
name_quick tw3577408171920636059 for PySem.Manifest.find? by sameFind
name_quick tw4549333791460862111 for PySem.Manifest.find? by sameFind
name_quick tw3362959441861295915 for PySem.Manifest.find? by sameFind
name_quick tw18220123701641295943 for PySem.Manifest.find? by sameFind
name_quick tw2334299552400917057 for PySem.Manifest.find? by sameFind
name_quick tw12233582284571471492 for PySem.Manifest.find? by sameFind
name_quick tw7401281599722004195 for PySem.Manifest.find? by sameFind
name_quick tw1702518465993881591 for PySem.Manifest.find? by sameFind
name_quick tw18350330562280901221 for PySem.Manifest.find? by sameFind
name_quick tw5978237884098788730 for PySem.Manifest.find? by sameFind
name_quick tw3264259588550801142 for PySem.Manifest.find? by sameFind
name_quick tw10314498396905981064 for PySem.Manifest.find? by sameFind
name_quick tw17954471519018878134 for PySem.Manifest.find? by sameFind
name_quick tw6792406925840432001 for PySem.Manifest.find? by sameFind
name_quick tw12635297910168745909 for PySem.Manifest.find? by sameFind
name_quick tw9951705424602377420 for PySem.Manifest.find? by sameFind
name_quick tw900395245841561262 for PySem.Manifest.find? by sameFind
name_quick tw9458956999447867950 for PySem.Manifest.find? by sameFind
name_quick tw14023627001141898710 for PySem.Manifest.find? by sameFind
name_quick tw7275051467321613617 for PySem.Manifest.find? by sameFind
name_quick tw17000155066101142889 for PySem.Manifest.find? by sameFind
name_quick tw8642067239939848140 for PySem.Manifest.find? by sameFind
name_quick tw951843321253372498 for PySem.Manifest.find? by sameFind
name_quick tw2478078296215019888 for PySem.Manifest.find? by sameFind
name_quick tw11985326045990495214 for PySem.Manifest.find? by sameFind
name_quick tw932993149863042379 for PySem.Manifest.find? by sameFind
name_quick tw8753696776887207221 for PySem.Manifest.find? by sameFind
name_quick tw13615603153576403970 for PySem.Manifest.find? by sameFind
name_quick tw11566699232636054958 for PySem.Manifest.find? by sameFind
name_quick tw505943868828395459 for PySem.Manifest.find? by sameFind
name_quick tw2315820567201803617 for PySem.Manifest.find? by sameFind
name_quick tw15168306246750427876 for PySem.Manifest.find? by sameFind
name_quick tw1258717718454355964 for PySem.Manifest.find? by sameFind
name_quick tw7269565832213808900 for PySem.Manifest.find? by sameFind
name_quick tw9305782018832362445 for PySem.Manifest.find? by sameFind
name_quick tw12393455550290869266 for PySem.Manifest.find? by sameFind
name_quick tw1594192036040709277 for PySem.Manifest.find? by sameFind
name_quick tw18340240734955500558 for PySem.Manifest.find? by sameFind
name_quick tw16414604833108395602 for PySem.Manifest.find? by sameFind
name_quick tw14834023430324568649 for PySem.Manifest.find? by sameFind
name_quick tw1156252341971683116 for PySem.Manifest.find? by sameFind
name_quick tw4090926877573551719 for PySem.Manifest.find? by sameFind
name_quick tw13236226663087606529 for PySem.Manifest.find? by sameFind
name_quick tw10470071008263537045 for PySem.Manifest.find? by sameFind
name_quick tw16413264400604254196 for PySem.Manifest.find? by sameFind
name_quick tw10948738476641704880 for PySem.Manifest.find? by sameFind
name_quick tw8017206721242287953 for PySem.Manifest.find? by sameFind
name_quick tw18345786424863182364 for PySem.Manifest.find? by sameFind
name_quick tw14108194823987119177 for PySem.Manifest.find? by sameFind
name_quick tw9862997608875712007 for PySem.Manifest.find? by sameFind
name_quick tw10227693086864044499 for PySem.Manifest.find? by sameFind
name_quick tw1092655722715705105 for PySem.Manifest.find? by sameFind
name_quick tw1617757218408452269 for PySem.Manifest.find? by sameFind
name_quick tw7250012664060256230 for PySem.Manifest.find? by sameFind
name_quick tw5518745428033880147 for PySem.Manifest.find? by sameFind
name_quick tw10073347824450446311 for PySem.Manifest.find? by sameFind
name_quick tw12290603225136948437 for PySem.Manifest.find? by sameFind
name_quick tw2460228577881660442 for PySem.Manifest.find? by sameFind
name_quick tw11161088081135249708 for PySem.Manifest.find? by sameFind
name_quick tw3764465048917985505 for PySem.Manifest.find? by sameFind
name_quick tw16869277618539721502 for PySem.Manifest.find? by sameFind
name_quick tw8224813933742928703 for PySem.Manifest.find? by sameFind
name_quick tw6448080314894763839 for PySem.Manifest.find? by sameFind
name_quick tw2711585505577850959 for PySem.Manifest.find? by sameFind
name_quick tw15542503528162795033 for PySem.Manifest.find? by sameFind
name_quick tw16012088437097163121 for PySem.Manifest.find? by sameFind
name_quick tw5357591511691535388 for PySem.Manifest.find? by sameFind
name_quick tw470574548607681690 for PySem.Manifest.find? by sameFind
name_quick tw13317431791736044220 for PySem.Manifest.find? by sameFind
name_quick tw3698559305507148144 for PySem.Manifest.find? by sameFind
name_quick tw704327219915372674 for PySem.Manifest.find? by sameFind
name_quick tw15691176768076390528 for PySem.Manifest.find? by sameFind
name_quick tw14433975572909055671 for PySem.Manifest.find? by sameFind
name_quick tw4292500188555128830 for PySem.Manifest.find? by sameFind
name_quick tw6683783046931543321 for PySem.Manifest.find? by sameFind
name_quick tw11445135464325071761 for PySem.Manifest.find? by sameFind
name_quick tw9467589175468403638 for PySem.Manifest.find? by sameFind
name_quick tw2627984346626558326 for PySem.Manifest.find? by sameFind
name_quick tw1962928258387122110 for PySem.Manifest.find? by sameFind
set_option maxRecDepth 100000 in
set_option maxHeartbeats 8000000 in
open_top hd for PySem.Challenge.rw_to0077_01

section
theorem wtRX : True := by
  w_top off
  trivial
open PySem.Sre

noncomputable def nameCode : Array Nat := #[14, 10, 4, 1, 1, 22, 0, 31, 16, 127, 0, 13, 7, 22, 0, 31, 16, 127, 0, 1]
noncomputable def valueCode : Array Nat := #[14, 14, 4, 1, 1, 9, 4294966783, 0, 0, 2147483648, 0, 0, 0, 0, 0, 13, 11, 9, 4294966783, 0, 0, 2147483648, 0, 0, 0, 0, 0, 1]

/-- no sign of the text is one that the pattern looks for -/
noncomputable def Free (code text : Array Nat) : Prop := ∀ i, i < text.size → ∀ seen, ∃ seen', inSet code (text.getD i 0) code.size 5 true seen = .ok (false, seen')

theorem inSet_name (c : Nat) (h1 : 32 ≤ c) (h2 : c ≠ 127) (seen : Sre.Seen) : ∃ seen', inSet nameCode c nameCode.size 5 true seen = .ok (false, seen') := by
  have e : inSet nameCode c nameCode.size 5 true seen = (if (decide (0 ≤ c) && decide (c ≤ 31)) = true then .ok (true, seen.add 22) else if (c == 127) = true then .ok (true, (seen.add 22).add 16) else .ok (false, ((seen.add 22).add 16).add 0)) := rfl
  rw [e]
  have : (decide (0 ≤ c) && decide (c ≤ 31)) = false := by simp; omega
  rw [this]
  have : (c == 127) = false := by simpa using h2
  rw [this]
  exact ⟨_, rfl⟩
theorem inSet_value (c : Nat) (h : (c < 256 && (valueCode.getD (5 + (1 + c / 32)) 0).testBit (c % 32)) = false) (seen : Sre.Seen) : ∃ seen', inSet valueCode c valueCode.size 5 true seen = .ok (false, seen') := by
  have e : inSet valueCode c valueCode.size 5 true seen = (if (c < 256 && (valueCode.getD (5 + (1 + c / 32)) 0).testBit (c % 32)) = true then .ok (true, seen.add 9) else .ok (false, (seen.add 9).add 0)) := rfl
  rw [e, h]
  exact ⟨_, rfl⟩

theorem admitted_none (m : M) (hlim : m.lim = m.text.size) (hf : Free m.code m.text) : ∀ fuel s seen, ∃ seen', M.admitted m fuel s seen = .ok (none, seen')
  | 0, _, _ => ⟨_, rfl⟩
  | fuel + 1, s, seen => by
    unfold M.admitted
    by_cases h : s ≥ m.lim
    · rw [if_pos h]; exact ⟨_, rfl⟩
    · rw [if_neg h]
      obtain ⟨seen', e⟩ := hf s (by omega) seen
      rw [e]
      exact admitted_none m hlim hf fuel (s + 1) seen'

structure Lost (m : M) : Prop where
  answer : m.answer = some false
  frames : m.frames = []
  outcome : m.outcome = none
theorem from_lost (m : M) (hs : m.hasFirstSet = true) (hlim : m.lim = m.text.size) (hf : Free m.code m.text) (h2 : m.frames = []) (h3 : m.outcome = none) : Lost (m.attemptFrom 0 true) := by
  unfold M.attemptFrom
  rw [hs]
  simp only [Bool.not_true, Bool.false_eq_true, if_false]
  obtain ⟨seen', e'⟩ := admitted_none m hlim hf (m.lim + 1 - 0) 0 m.seen
  rw [e']
  exact ⟨rfl, h2, h3⟩
theorem search_lost {code text : Array Nat} (hc : code = nameCode ∨ code = valueCode) (hf : Free code text) : Lost (forSearch code text 0 0 text.size false) := by
  have key : (∀ m : M, m.code = code → m.hasFirstSet = true) → Lost (forSearch code text 0 0 text.size false) := by
    intro hfs
    unfold forSearch
    dsimp only
    split
    · exact ⟨rfl, rfl, rfl⟩
    · exact from_lost _ (hfs _ rfl) rfl hf rfl rfl
  rcases hc with rfl | rfl
  · exact key (fun m h => by unfold M.hasFirstSet; rw [h]; rfl)
  · exact key (fun m h => by unfold M.hasFirstSet; rw [h]; rfl)

theorem Lost.run {m : M} (h : Lost m) : m.runFor 4 = { m with outcome := some .failed } := by
  obtain ⟨code, text, lim, start, lastStart, wholeText, mustAdvance, pc, pos, handed, outermost, marks, lastmark, lastindex, loops, inner, frames, weight, answer, seen, outcome⟩ := m
  obtain ⟨h1, h2, h3⟩ := h
  dsimp only at h1 h2 h3
  subst h1 h2 h3
  rfl

section
variable {prog : Program} {w : World} {M₀ : Model} {A : Around} {E : Value → Shared → Prop} {s : Shared}
theorem rules_pass (has : Nat → Bool) (nm : Nat → String) {Q : PUnit → Shared → Prop} (h : Q ⟨⟩ s) : ∀ l : List Nat,
    wpAny M₀ A (forIn l PUnit.unit (fun i (_ : PUnit) => if has i = true then (do PySem.rule (nm i); pure (ForInStep.yield PUnit.unit)) else pure (ForInStep.yield PUnit.unit))) Q E s
  | [] => by rw [List.forIn_nil]; exact wpAny_pure h
  | i :: l => by
    rw [List.forIn_cons]
    refine wpAny_bind ?_
    split
    · exact wpAny_bind (wpAny_rule (wpAny_pure (rules_pass has nm h l)))
    · exact wpAny_pure (rules_pass has nm h l)

theorem run_lost {m : M} (hm : Lost m) {Q : Option M → Shared → Prop} (h : Q none s) : wpAny M₀ A (Builtin.Re.reRunToEnd m) Q E s := by
  unfold Builtin.Re.reRunToEnd
  refine wpAny_bind ?_
  have e : (2 : Nat) ^ 64 = (2 ^ 64 - 1) + 1 := rfl
  rw [e]
  unfold Builtin.Re.reDrive
  dsimp only
  rw [show Builtin.Re.reTurnSteps = 4 from rfl, hm.run]
  refine wpAny_pure ?_
  refine wpAny_bind (rules_pass (fun i => m.seen.has i) (fun i => names.getD i "") ?_ _)
  exact wpAny_pure h
end
end

section
theorem wtRX2 : True := by
  w_top off
  trivial
open PySem.Sre
theorem plainAttrs_pat : PlainAttrs "re.Pattern" :=
  ⟨⟨"object.__getattribute__", by rw [typeLookup_type, builtinLookup_eq_fast]; kernel_rfl, by rw [PySem.W.Fast.canonicalQ_eq]; decide +kernel⟩, by rw [typeLookup_type, builtinLookup_eq_fast]; kernel_rfl⟩
theorem slot_search : Slot "re.Pattern" "search" "re.Pattern.search" :=
  .of (owner := "re.Pattern") (n := "search") (by rw [typeLookup_type, builtinLookup_eq_fast]; kernel_rfl) (by decide +kernel) (by decide +kernel) (by decide +kernel)
    (by first | exact .inl (by decide +kernel) | exact .inr (by decide +kernel)) (by rw [isSubtype_type]; kernel_rfl)
theorem type_search : typeOf (.builtin "re.Pattern.search") = pure (.type "method_descriptor") := by show builtinType _ = _; rw [builtinType_eq_fast]; kernel_rfl
theorem entry_search : entryFor table "re.Pattern.search" = some Builtin.«re.Pattern.search» := entryFor_of_tree (by kernel_rfl)
theorem owner_pat : Manifest.owners.lookup (String.ofList ("re.Pattern".toList.reverse).reverse) = some Manifest.sig_re_Pattern := by kernel_rfl
theorem args_search (a b : Value) : argsOk "re.Pattern.search" ⟨[a, b], []⟩ := by
  unfold argsOk; rw [signature?_of (id := "re.Pattern.search") (n := "search".toList.reverse) (o := "re.Pattern".toList.reverse) (by kernel_rfl) owner_pat]; kernel_rfl

section
variable {prog : Program} {w : World} {A : Around} {E : Value → Shared → Prop} {s : Shared}
theorem getMethod_search {a : Addr} {o : Obj} {pl : Sem Bool} {Q : Value × List Value → Shared → Prop} (ho : s.heap.get? a = some o) (hc : o.cls = .type "re.Pattern") (hd : o.dict = none) (h : Q (.builtin "re.Pattern.search", [.ref a]) s) :
    wpAny (model prog w) A (getMethod (.ref a) (Str.ofString "search") pl) Q E s :=
  getMethod_builtin (T := "re.Pattern") ⟨o, ho, hc⟩ plainAttrs_pat slot_search type_search (fun b e => by cases e; exact ⟨o, ho, hd⟩) h

theorem named_two (v : Value) : Builtin.Re.reNamed "re.Pattern.search" "search" ["string", "pos", "endpos"] 1 [v] [] = pure [some v, none, none] := by rfl

theorem call_search {a c : Addr} {o oc : Obj} {vs items : Array Value} {ep : Nat} {code : Array Nat} {v : Str} {t : Tok} {Q : Value → Shared → Prop} (ho : s.heap.get? a = some o) (hcls : o.cls = .type "re.Pattern") (hd : o.data = .fields vs)
    (h5 : vs.getD 5 .none = .ref c) (h6 : Builtin.Re.reRawNat (vs.getD 6 .none) = 0) (h2 : Builtin.Re.reRawNat (vs.getD 2 .none) = 0) (hc : s.heap.get? c = some oc) (hcd : oc.data = .seq items ep)
    (hcode : (items.map Builtin.Re.reRawOf).map (·.toNat) = code) (hw : code = nameCode ∨ code = valueCode) (hsz : v.cps.size ≤ 2 ^ 62) (hf : Free code v.cps) (h : Q .none s) :
    wpAny (model prog w) A (call (.builtin "re.Pattern.search") [.ref a, .str v t]) Q E s := by
  refine wpAny_call_entry slot_search ⟨o, ho, hcls⟩ entry_search ?_ (args_search _ _)
  unfold Builtin.«re.Pattern.search» Builtin.Re.reTarget
  refine wpAny_bind ?_
  dsimp only
  rw [named_two]
  refine wpAny_bind (wpAny_pure ?_)
  dsimp only
  refine wpAny_bind (wpAny_pure ?_)
  refine wpAny_bind (wpAny_pure ?_)
  unfold fieldsOf
  refine wpAny_bind ?_
  refine wpAny_bind (wpAny_load ho ?_)
  rw [hd]
  refine wpAny_pure ?_
  unfold Builtin.Re.reTextOf asStr?
  refine wpAny_bind (wpAny_bind (wpAny_pure ?_))
  refine wpAny_pure ?_
  dsimp only
  rw [h6]
  rw [if_neg (by decide), if_neg (by decide)]
  unfold Builtin.Re.reNoCollectionInside
  rw [if_neg (by decide)]
  refine wpAny_bind (wpAny_pure ?_)
  refine wpAny_bind ?_
  unfold Builtin.Re.reRawItems
  rw [h5]
  unfold seqItems?
  refine wpAny_bind (wpAny_bind (wpAny_load hc ?_))
  rw [hcd]
  refine wpAny_pure (wpAny_pure ?_)
  dsimp only [Option.getD_some]
  refine wpAny_pure ?_
  dsimp only
  rw [hcode, h2]
  have e1 : min (Int.toNat 0) v.cps.size = 0 := by simp
  have e2 : min ((2 : Int) ^ 63 - 1).toNat v.cps.size = v.cps.size := by
    have : ((2 : Int) ^ 63 - 1).toNat = 9223372036854775807 := by decide
    rw [this]
    exact Nat.min_eq_right (by have : (2 : Nat) ^ 62 = 4611686018427387904 := by decide
                               omega)
  rw [e1, e2]
  unfold Builtin.Re.reAnswer
  refine wpAny_bind (run_lost (search_lost hw hf) ?_)
  dsimp only
  exact wpAny_pure ⟨_, rfl, h⟩

structure IsPat (h : Heap) (a : Addr) (code : Array Nat) : Prop where
  is : ∃ (o : Obj) (vs : Array Value) (c : Addr) (oc : Obj) (items : Array Value) (ep : Nat), h.get? a = some o ∧ o.cls = .type "re.Pattern" ∧ o.dict = none ∧ o.data = .fields vs ∧ vs.getD 5 .none = .ref c ∧ Builtin.Re.reRawNat (vs.getD 6 .none) = 0 ∧ Builtin.Re.reRawNat (vs.getD 2 .none) = 0 ∧ h.get? c = some oc ∧ oc.data = .seq items ep ∧ (items.map Builtin.Re.reRawOf).map (·.toNat) = code
theorem IsPat.keeps {h h' : Heap} {a : Addr} {code : Array Nat} (P : IsPat h a code) (k : ∀ b o, h.get? b = some o → h'.get? b = some o) : IsPat h' a code := by
  obtain ⟨o, vs, c, oc, items, ep, h1, h2, h3, h4, h5, h6, h7, h8, h9, h10⟩ := P.is
  exact ⟨o, vs, c, oc, items, ep, k _ _ h1, h2, h3, h4, h5, h6, h7, k _ _ h8, h9, h10⟩
theorem getMethod_pat {a : Addr} {code : Array Nat} {pl : Sem Bool} {Q : Value × List Value → Shared → Prop} (P : IsPat s.heap a code) (h : Q (.builtin "re.Pattern.search", [.ref a]) s) :
    wpAny (model prog w) A (getMethod (.ref a) (Str.ofString "search") pl) Q E s := by
  obtain ⟨o, vs, c, oc, items, ep, h1, h2, h3, h4, h5, h6, h7, h8, h9, h10⟩ := P.is
  exact getMethod_search h1 h2 h3 h
theorem search_pat {a : Addr} {code : Array Nat} {v : Str} {t : Tok} {Q : Value → Shared → Prop} (P : IsPat s.heap a code) (hw : code = nameCode ∨ code = valueCode) (hsz : v.cps.size ≤ 2 ^ 62) (hf : Free code v.cps) (h : Q .none s) :
    wpAny (model prog w) A (call (.builtin "re.Pattern.search") [.ref a, .str v t]) Q E s := by
  obtain ⟨o, vs, c, oc, items, ep, h1, h2, h3, h4, h5, h6, h7, h8, h9, h10⟩ := P.is
  exact call_search h1 h2 h4 h5 h6 h7 h8 h9 h10 hw hsz hf h
end
end

section
theorem wtB0 : True := by
  w_top off
  trivial
/-- a contract: what a call of the def at f with these arguments hands back, from a ledger -/
noncomputable abbrev Spec (w : World) (p : Program) (loose : List Str) (mean : ExcName → Option Value) (mg mb : Str → Option Value) (dn un0 : Nat) (f : Value) (pos : List Value) (kw : List (Str × Value)) (news : List (Addr × Obj)) (Ret : Value → List (Addr × Obj) → Prop) : Prop :=
  ∀ (dp un : Nat) (gd : Option (List Code)) (cn : Str) (cs : Scope) (a : Addr) (ccd : Value) (cl : List (Str × Addr)) (outer : List Env) (A₀ : Around) (base h₀ : Heap) (L : Addr) (m : Str → Option Value) (s : Shared) (Q E : Value → Shared → Prop),
    Below A₀ base outer h₀ → Fr h₀ L s.heap m → (hd.heap_39 w.params).In h₀ → News h₀ L s.heap news → Top p loose mean mg mb h₀ → cs.kind = .function → dp + dn < recursionLimit → un + un0 < cLine →
    (∀ v news' h' tk', Ret v news' → Fr h₀ L h' m → News h₀ L h' news' → Q v { s with heap := h', toks := tk' }) →
      wpAny (model PySem.Challenge.rw_to0077_01.row.prog w) (ktrTop dp un gd cn cs L a ccd cl outer) (call f pos kw) Q E s
noncomputable abbrev SpecD (w : World) (p : Program) (loose : List Str) (mean : ExcName → Option Value) (mg mb : Str → Option Value) (dn un0 : Nat) (f : Value) (pos : List Value) (kw : List (Str × Value)) (news : List (Addr × Obj)) (Ret : Value → List (Addr × Obj) → Prop) : Prop :=
  ∀ (dp un : Nat) (gd : Option (List Code)) (cn : Str) (cs : Scope) (a : Addr) (ccd : Value) (cl : List (Str × Addr)) (outer : List Env) (A₀ : Around) (base h₀ : Heap) (L : Addr) (m : Str → Option Value) (s : Shared) (Q E : Value → Shared → Prop),
    Below A₀ base outer h₀ → Fr h₀ L s.heap m → (hd.heap_39 w.params).In h₀ → News h₀ L s.heap news → Top p loose mean mg mb h₀ → cs.kind = .function → dp + dn < recursionLimit → un + un0 < cLine →
    (∀ v news' h' tk' dr', Ret v news' → Fr h₀ L h' m → News h₀ L h' news' → Q v { s with heap := h', toks := tk', drawn := dr' }) →
      wpAny (model PySem.Challenge.rw_to0077_01.row.prog w) (ktrTop dp un gd cn cs L a ccd cl outer) (call f pos kw) Q E s
noncomputable abbrev SpecN (w : World) (p : Program) (loose : List Str) (mean : ExcName → Option Value) (mg mb : Str → Option Value) (dn un0 : Nat) (f : Value) (pos : List Value) (kw : List (Str × Value)) (news : List (Addr × Obj)) (Ret : Value → List (Addr × Obj) → Prop) : Prop :=
  ∀ (dp un : Nat) (gd : Option (List Code)) (cn : Str) (cs : Scope) (a : Addr) (ccd : Value) (cl : List (Str × Addr)) (outer : List Env) (A₀ : Around) (base h₀ : Heap) (L : Addr) (m : Str → Option Value) (s : Shared) (Q E : Value → Shared → Prop),
    CodeHd base 66 62 → CodeHd base 73 69 → Below A₀ base outer h₀ → Fr h₀ L s.heap m → (hd.heap_39 w.params).In h₀ → News h₀ L s.heap ((69, tabObj #[]) :: (62, tabObj #[]) :: news) → Top p loose mean mg mb h₀ → cs.kind = .function → dp + dn < recursionLimit → un + un0 < cLine →
    (∀ v news' h' tk', Ret v news' → Fr h₀ L h' m → News h₀ L h' news' → Q v { s with heap := h', toks := tk' }) →
      wpAny (model PySem.Challenge.rw_to0077_01.row.prog w) (ktrTop dp un gd cn cs L a ccd cl outer) (call f pos kw) Q E s
section
variable {w : World} {p : Program} {loose : List Str} {mean : ExcName → Option Value} {mg mb : Str → Option Value} {dn un0 : Nat} {f : Value} {pos : List Value} {kw : List (Str × Value)} {news : List (Addr × Obj)} {Ret : Value → List (Addr × Obj) → Prop}
  {dp un : Nat} {gd : Option (List Code)} {cn : Str} {cs : Scope} {a : Addr} {ccd : Value} {cl : List (Str × Addr)} {outer : List Env} {A₀ : Around} {base h₀ : Heap} {L : Addr} {m : Str → Option Value} {s : Shared} {Q E : Value → Shared → Prop}
theorem use (B : Below A₀ base outer h₀ := by k_asm) (F : Fr h₀ L s.heap m := by k_asm) (X : (hd.heap_39 w.params).In h₀ := by k_asm) (N : News h₀ L s.heap news := by k_asm) (T : Top p loose mean mg mb h₀ := by k_asm)
    (hk : cs.kind = .function := by exact rfl) (hd : dp + dn < recursionLimit := by ktr_room) (hu : un + un0 < cLine := by ktr_units)
    (S : Spec w p loose mean mg mb dn un0 f pos kw news Ret)
    (k : ∀ v news' h' tk', Ret v news' → Fr h₀ L h' m → News h₀ L h' news' → Q v { s with heap := h', toks := tk' }) :
    wpAny (model PySem.Challenge.rw_to0077_01.row.prog w) (ktrTop dp un gd cn cs L a ccd cl outer) (call f pos kw) Q E s :=
  S dp un gd cn cs a ccd cl outer A₀ base h₀ L m s Q E B F X N T hk hd hu k
/-- a contract whose call hands back a plain value and leaves the ledger as it is -/
theorem useV {g : Tok → Value} (B : Below A₀ base outer h₀ := by k_asm) (F : Fr h₀ L s.heap m := by k_asm) (X : (hd.heap_39 w.params).In h₀ := by k_asm) (N : News h₀ L s.heap news := by k_asm) (T : Top p loose mean mg mb h₀ := by k_asm)
    (hk : cs.kind = .function := by exact rfl) (hd : dp + dn < recursionLimit := by ktr_room) (hu : un + un0 < cLine := by ktr_units)
    (S : Spec w p loose mean mg mb dn un0 f pos kw news (fun r news' => (∃ t, r = g t) ∧ news' = news))
    (k : ∀ t h' tk', Fr h₀ L h' m → News h₀ L h' news → Q (g t) { s with heap := h', toks := tk' }) :
    wpAny (model PySem.Challenge.rw_to0077_01.row.prog w) (ktrTop dp un gd cn cs L a ccd cl outer) (call f pos kw) Q E s :=
  S dp un gd cn cs a ccd cl outer A₀ base h₀ L m s Q E B F X N T hk hd hu fun _ _ h' tk' R F' N' =>
    Exists.elim R.1 fun t e => Eq.subst (motive := fun v => Q v { s with heap := h', toks := tk' }) e.symm (k t h' tk' F' (Eq.subst (motive := fun n => News h₀ L h' n) R.2 N'))
theorem useD (B : Below A₀ base outer h₀ := by k_asm) (F : Fr h₀ L s.heap m := by k_asm) (X : (hd.heap_39 w.params).In h₀ := by k_asm) (N : News h₀ L s.heap news := by k_asm) (T : Top p loose mean mg mb h₀ := by k_asm)
    (hk : cs.kind = .function := by exact rfl) (hd : dp + dn < recursionLimit := by ktr_room) (hu : un + un0 < cLine := by ktr_units)
    (S : SpecD w p loose mean mg mb dn un0 f pos kw news Ret)
    (k : ∀ v news' h' tk' dr', Ret v news' → Fr h₀ L h' m → News h₀ L h' news' → Q v { s with heap := h', toks := tk', drawn := dr' }) :
    wpAny (model PySem.Challenge.rw_to0077_01.row.prog w) (ktrTop dp un gd cn cs L a ccd cl outer) (call f pos kw) Q E s :=
  S dp un gd cn cs a ccd cl outer A₀ base h₀ L m s Q E B F X N T hk hd hu k
theorem useN (C1 : CodeHd base 66 62 := by first | assumption | exact CodeHd.keeps (by assumption) (Below.stays (by assumption))) (C2 : CodeHd base 73 69 := by first | assumption | exact CodeHd.keeps (by assumption) (Below.stays (by assumption)))
    (B : Below A₀ base outer h₀ := by k_asm) (F : Fr h₀ L s.heap m := by k_asm) (X : (hd.heap_39 w.params).In h₀ := by k_asm) (N : News h₀ L s.heap ((69, tabObj #[]) :: (62, tabObj #[]) :: news) := by k_asm) (T : Top p loose mean mg mb h₀ := by k_asm)
    (hk : cs.kind = .function := by exact rfl) (hd : dp + dn < recursionLimit := by ktr_room) (hu : un + un0 < cLine := by ktr_units)
    (S : SpecN w p loose mean mg mb dn un0 f pos kw news Ret)
    (k : ∀ v news' h' tk', Ret v news' → Fr h₀ L h' m → News h₀ L h' news' → Q v { s with heap := h', toks := tk' }) :
    wpAny (model PySem.Challenge.rw_to0077_01.row.prog w) (ktrTop dp un gd cn cs L a ccd cl outer) (call f pos kw) Q E s :=
  S dp un gd cn cs a ccd cl outer A₀ base h₀ L m s Q E C1 C2 B F X N T hk hd hu k
end
theorem allLt_hd {d a : Nat} {o : Obj} {r : List (Addr × Obj)} (h : AllLt d ((a, o) :: r)) : @LT.lt Nat _ a d := h.1
theorem allLt_tl {d : Nat} {p : Addr × Obj} {r : List (Addr × Obj)} (h : AllLt d (p :: r)) : AllLt d r := h.2
theorem allLt_mem {d : Addr} : ∀ {l : List (Addr × Obj)}, AllLt d l → ∀ p ∈ l, p.1 < d
  | [], _, _, h => nomatch h
  | q :: r, x, p, h => by
    rcases List.mem_cons.mp h with rfl | h
    · exact x.1
    · exact allLt_mem x.2 p h
/-- the count of the objects made so far, by a name of its own -/
theorem genTok {M : Model} {A : Around} {α : Type} {t : Sem α} {Q : α → Shared → Prop} {E : Value → Shared → Prop} {h : Heap} {g : Array GenState} {d : Drawn} {k : Nat} {o : OsState} (H : ∀ k, wpAny M A t Q E ⟨h, g, d, k, o⟩) : wpAny M A t Q E ⟨h, g, d, k, o⟩ := H k
structure Halt (P : Prop) : Prop where
  out : P
theorem hlt {P : Prop} (h : Halt P) : P := h.out
theorem hltI {P : Prop} (h : P) : Halt P := ⟨h⟩
theorem hltQ {prog : Program} {w : World} {A : Around} {α : Type} {t : Sem α} {Q : α → Shared → Prop} {E : Value → Shared → Prop} {s : Shared} (h : wpAny (model prog w) A t (fun v s' => Halt (Q v s')) E s) : wpAny (model prog w) A t Q E s :=
  wpAny_mono h (fun _ _ h => h.out) (fun _ _ e => e)
theorem stopCall {M : Model} {A : Around} {Q E : Value → Shared → Prop} {s : Shared} {n : Nat} {pos : List Value} {kw : List (Str × Value)} (l : List Nat) (h9 : l.contains n = true) (H : Halt (wpAny M A (call (.ref n) pos kw) Q E s)) : wpAny M A (call (.ref n) pos kw) Q E s := H.out
theorem rm1 {d a b R : Nat} (h : d + a < R) (k : b ≤ a) : d + b < R := Nat.lt_of_le_of_lt (Nat.add_le_add_left k d) h
theorem rm2 {d a b c R : Nat} (h : d + a < R) (k : b + c ≤ a) : d + b + c < R := Nat.add_assoc d b c ▸ rm1 h k
theorem ex1 {α0 : Type} {p : α0 → Prop} {G : Prop} (h : ∃ x0, p x0) (k : ∀ x0, p x0 → G) : G := by obtain ⟨x0, h⟩ := h; exact k x0 h
theorem ex2 {α0 : Type} {α1 : Type} {p : α0 → α1 → Prop} {G : Prop} (h : ∃ x0 x1, p x0 x1) (k : ∀ x0 x1, p x0 x1 → G) : G := by obtain ⟨x0, x1, h⟩ := h; exact k x0 x1 h
theorem ex3 {α0 : Type} {α1 : Type} {α2 : Type} {p : α0 → α1 → α2 → Prop} {G : Prop} (h : ∃ x0 x1 x2, p x0 x1 x2) (k : ∀ x0 x1 x2, p x0 x1 x2 → G) : G := by obtain ⟨x0, x1, x2, h⟩ := h; exact k x0 x1 x2 h
theorem ex4 {α0 : Type} {α1 : Type} {α2 : Type} {α3 : Type} {p : α0 → α1 → α2 → α3 → Prop} {G : Prop} (h : ∃ x0 x1 x2 x3, p x0 x1 x2 x3) (k : ∀ x0 x1 x2 x3, p x0 x1 x2 x3 → G) : G := by obtain ⟨x0, x1, x2, x3, h⟩ := h; exact k x0 x1 x2 x3 h
theorem ex5 {α0 : Type} {α1 : Type} {α2 : Type} {α3 : Type} {α4 : Type} {p : α0 → α1 → α2 → α3 → α4 → Prop} {G : Prop} (h : ∃ x0 x1 x2 x3 x4, p x0 x1 x2 x3 x4) (k : ∀ x0 x1 x2 x3 x4, p x0 x1 x2 x3 x4 → G) : G := by obtain ⟨x0, x1, x2, x3, x4, h⟩ := h; exact k x0 x1 x2 x3 x4 h
theorem ex6 {α0 : Type} {α1 : Type} {α2 : Type} {α3 : Type} {α4 : Type} {α5 : Type} {p : α0 → α1 → α2 → α3 → α4 → α5 → Prop} {G : Prop} (h : ∃ x0 x1 x2 x3 x4 x5, p x0 x1 x2 x3 x4 x5) (k : ∀ x0 x1 x2 x3 x4 x5, p x0 x1 x2 x3 x4 x5 → G) : G := by obtain ⟨x0, x1, x2, x3, x4, x5, h⟩ := h; exact k x0 x1 x2 x3 x4 x5 h
theorem ex9 {α0 : Type} {α1 : Type} {α2 : Type} {α3 : Type} {α4 : Type} {α5 : Type} {α6 : Type} {α7 : Type} {α8 : Type} {p : α0 → α1 → α2 → α3 → α4 → α5 → α6 → α7 → α8 → Prop} {G : Prop} (h : ∃ x0 x1 x2 x3 x4 x5 x6 x7 x8, p x0 x1 x2 x3 x4 x5 x6 x7 x8) (k : ∀ x0 x1 x2 x3 x4 x5 x6 x7 x8, p x0 x1 x2 x3 x4 x5 x6 x7 x8 → G) : G := by obtain ⟨x0, x1, x2, x3, x4, x5, x6, x7, x8, h⟩ := h; exact k x0 x1 x2 x3 x4 x5 x6 x7 x8 h
theorem ex10 {α0 : Type} {α1 : Type} {α2 : Type} {α3 : Type} {α4 : Type} {α5 : Type} {α6 : Type} {α7 : Type} {α8 : Type} {α9 : Type} {p : α0 → α1 → α2 → α3 → α4 → α5 → α6 → α7 → α8 → α9 → Prop} {G : Prop} (h : ∃ x0 x1 x2 x3 x4 x5 x6 x7 x8 x9, p x0 x1 x2 x3 x4 x5 x6 x7 x8 x9) (k : ∀ x0 x1 x2 x3 x4 x5 x6 x7 x8 x9, p x0 x1 x2 x3 x4 x5 x6 x7 x8 x9 → G) : G := by obtain ⟨x0, x1, x2, x3, x4, x5, x6, x7, x8, x9, h⟩ := h; exact k x0 x1 x2 x3 x4 x5 x6 x7 x8 x9 h
theorem an2 {p0 p1 G : Prop} (h : p0 ∧ p1) (k : p0 → p1 → G) : G := by obtain ⟨h0, h1⟩ := h; exact k h0 h1
theorem an3 {p0 p1 p2 G : Prop} (h : p0 ∧ p1 ∧ p2) (k : p0 → p1 → p2 → G) : G := by obtain ⟨h0, h1, h2⟩ := h; exact k h0 h1 h2
theorem an4 {p0 p1 p2 p3 G : Prop} (h : p0 ∧ p1 ∧ p2 ∧ p3) (k : p0 → p1 → p2 → p3 → G) : G := by obtain ⟨h0, h1, h2, h3⟩ := h; exact k h0 h1 h2 h3
theorem an5 {p0 p1 p2 p3 p4 G : Prop} (h : p0 ∧ p1 ∧ p2 ∧ p3 ∧ p4) (k : p0 → p1 → p2 → p3 → p4 → G) : G := by obtain ⟨h0, h1, h2, h3, h4⟩ := h; exact k h0 h1 h2 h3 h4
theorem an6 {p0 p1 p2 p3 p4 p5 G : Prop} (h : p0 ∧ p1 ∧ p2 ∧ p3 ∧ p4 ∧ p5) (k : p0 → p1 → p2 → p3 → p4 → p5 → G) : G := by obtain ⟨h0, h1, h2, h3, h4, h5⟩ := h; exact k h0 h1 h2 h3 h4 h5
theorem an7 {p0 p1 p2 p3 p4 p5 p6 G : Prop} (h : p0 ∧ p1 ∧ p2 ∧ p3 ∧ p4 ∧ p5 ∧ p6) (k : p0 → p1 → p2 → p3 → p4 → p5 → p6 → G) : G := by obtain ⟨h0, h1, h2, h3, h4, h5, h6⟩ := h; exact k h0 h1 h2 h3 h4 h5 h6
theorem an8 {p0 p1 p2 p3 p4 p5 p6 p7 G : Prop} (h : p0 ∧ p1 ∧ p2 ∧ p3 ∧ p4 ∧ p5 ∧ p6 ∧ p7) (k : p0 → p1 → p2 → p3 → p4 → p5 → p6 → p7 → G) : G := by obtain ⟨h0, h1, h2, h3, h4, h5, h6, h7⟩ := h; exact k h0 h1 h2 h3 h4 h5 h6 h7
theorem an9 {p0 p1 p2 p3 p4 p5 p6 p7 p8 G : Prop} (h : p0 ∧ p1 ∧ p2 ∧ p3 ∧ p4 ∧ p5 ∧ p6 ∧ p7 ∧ p8) (k : p0 → p1 → p2 → p3 → p4 → p5 → p6 → p7 → p8 → G) : G := by obtain ⟨h0, h1, h2, h3, h4, h5, h6, h7, h8⟩ := h; exact k h0 h1 h2 h3 h4 h5 h6 h7 h8
theorem an18 {p0 p1 p2 p3 p4 p5 p6 p7 p8 p9 p10 p11 p12 p13 p14 p15 p16 p17 G : Prop} (h : p0 ∧ p1 ∧ p2 ∧ p3 ∧ p4 ∧ p5 ∧ p6 ∧ p7 ∧ p8 ∧ p9 ∧ p10 ∧ p11 ∧ p12 ∧ p13 ∧ p14 ∧ p15 ∧ p16 ∧ p17) (k : p0 → p1 → p2 → p3 → p4 → p5 → p6 → p7 → p8 → p9 → p10 → p11 → p12 → p13 → p14 → p15 → p16 → p17 → G) : G := by obtain ⟨h0, h1, h2, h3, h4, h5, h6, h7, h8, h9, h10, h11, h12, h13, h14, h15, h16, h17⟩ := h; exact k h0 h1 h2 h3 h4 h5 h6 h7 h8 h9 h10 h11 h12 h13 h14 h15 h16 h17
end

section
theorem wtLP : True := by
  w_top off
  trivial
section
variable {prog : Program} {w : World} {A : Around} {E : Value → Shared → Prop} {s : Shared} {env : Env} {h₀ : Heap} {target : Expr} {body : List Stmt} {Q : Flow → Shared → Prop}

/-- a turn's end: the iterator stands, the rest of the ledger is what the state says -/
noncomputable def LEnd {σ : Type} (mp : σ → Str → Option Value) (led : σ → List (Addr × Obj)) (P : σ → Prop) (h₀ : Heap) (L I : Addr) (it : Obj) (s₁ s₂ : Shared) : Prop :=
  ∃ h' tk m' n' c', s₂ = { s₁ with heap := h', toks := tk } ∧ Fr h₀ L h' m' ∧ News h₀ L h' n' ∧ (I, it) ∈ n' ∧ (∀ p ∈ led c', p ∈ n') ∧ (∀ p ∈ led c', p.1 ≠ I) ∧ (∀ y, m' y = mp c' y) ∧ P c'
noncomputable def LPost {σ : Type} (mp : σ → Str → Option Value) (led : σ → List (Addr × Obj)) (P : σ → Prop) (h₀ : Heap) (L I : Addr) (it : Obj) (s₁ : Shared) (Q : Flow → Shared → Prop) (f : Flow) (s₂ : Shared) : Prop :=
  match f with
  | .ret v => Q (.ret v) s₂
  | .brk => Q .next s₂
  | _ => LEnd mp led P h₀ L I it s₁ s₂
theorem LEnd.intro {σ : Type} {mp : σ → Str → Option Value} {led : σ → List (Addr × Obj)} {P : σ → Prop} {L I : Addr} {it : Obj} {s₁ : Shared} {h' : Heap} {tk : Nat} {m' : Str → Option Value} {n' : List (Addr × Obj)} (c' : σ)
    (F : Fr h₀ L h' m') (N : News h₀ L h' n') (hI : (I, it) ∈ n') (hs : ∀ p ∈ led c', p ∈ n') (ho : ∀ p ∈ led c', p.1 ≠ I) (hm : ∀ y, m' y = mp c' y) (hp : P c') : LEnd mp led P h₀ L I it s₁ { s₁ with heap := h', toks := tk } :=
  ⟨h', tk, m', n', c', rfl, F, N, hI, hs, ho, hm, hp⟩

theorem iter_listJ {σ : Type} (mp : σ → Str → Option Value) (led : σ → List (Addr × Obj)) (P : Nat → σ → Prop) {ax : Addr} {lo : Obj} {vs : List Value} {n : Nat} {m₀ : Str → Option Value} {news : List (Addr × Obj)} (c₀ : σ)
    (hh : A.handled = none) (F : Fr h₀ env.locals s.heap m₀) (N : News h₀ env.locals s.heap news) (hm : (ax, lo) ∈ led c₀) (hc : lo.cls = .type "list") (hd : lo.data = .seq vs.toArray n)
    (hm₀ : ∀ y, m₀ y = mp c₀ y) (hled : ∀ p ∈ led c₀, p ∈ news) (h0 : P 0 c₀) (hkeep : ∀ i c, P i c → (ax, lo) ∈ led c)
    (turn : ∀ i v (c : σ) I it h tk, vs[i]? = some v → P i c → it.cls = .type "list_iterator" → (∀ p ∈ led c₀, p.1 < I) → (∀ p ∈ led c, p.1 ≠ I) → Fr h₀ env.locals h (mp c) → News h₀ env.locals h ((I, it) :: led c) →
      wpAny (model prog w) A (assign target env v) (fun _ s₂ => wpAny (model prog w) A (execs body env) (LPost mp led (P (i + 1)) h₀ env.locals I it { s with heap := h, toks := tk } Q) E s₂) E { s with heap := h, toks := tk })
    (done : ∀ (c : σ) h tk, P vs.length c → Fr h₀ env.locals h (mp c) → News h₀ env.locals h (led c) → Q .next { s with heap := h, toks := tk }) :
    wpAny (model prog w) A (pyIter (.ref ax)) (fun it s₂ => TurnsAt prog w A h₀ env target body Q E it s₂) E s := by
  have em₀ : m₀ = mp c₀ := funext hm₀
  subst em₀
  refine iter_listTurns hh F (fun p hp => N p (hled p hp)) hm hc hd (fun I hI => ?_)
  have key : ∀ k i (c : σ), i + k = vs.length → P i c → (∀ p ∈ led c, p.1 ≠ I) → ItemsRest prog w A E h₀ env target body Q s [(I, "list_iterator")] [(ax, lo)] ((vs.drop i).map .val) (mp c) (led c) := by
    intro k
    induction k with
    | zero =>
      intro i c hi hP hoff
      have : vs.drop i = [] := List.drop_eq_nil_of_le (by omega)
      rw [this]
      refine ItemsRest.zero fun h tk F₁ N₁ => ?_
      have e : i = vs.length := by omega
      subst e
      exact done c h tk hP F₁ N₁
    | succ k ih =>
      intro i c hi hP hoff
      have hlt : i < vs.length := by omega
      rw [List.drop_eq_getElem_cons hlt, List.map_cons]
      refine ItemsRest.val fun h tk F₁ => ?_
      refine AllObj.cons fun it hit => AllObj.nil fun N₁ => ?_
      have N₂ : News h₀ env.locals h ((I, it) :: led c) := N₁
      refine wpAny_mono (turn i vs[i] c I it h tk (by simp [hlt]) hP hit hI hoff F₁ N₂) (fun _ s₂ h₂ => wpAny_mono h₂ (fun f s₃ h₃ => ?_) fun _ _ e => e) fun _ _ e => e
      have fin : LEnd mp led (P (i + 1)) h₀ env.locals I it { s with heap := h, toks := tk } s₃ → UnrEndW h₀ env.locals { s with heap := h, toks := tk } [(I, it)] (fun m' n' => SubL [(ax, lo)] n' ∧ ItemsRest prog w A E h₀ env target body Q s [(I, "list_iterator")] [(ax, lo)] ((vs.drop (i + 1)).map .val) m' n') s₃ := by
        rintro ⟨h', tk', m', n', c', rfl, F', N', hI', hs, ho, hm', hP'⟩
        refine ⟨h', tk', m', led c', rfl, F', ?_, ?_, ⟨hkeep _ _ hP', trivial⟩, ?_⟩
        · intro p hp
          rcases List.mem_cons.mp hp with rfl | hp
          · exact N' _ hI'
          · exact N' _ (hs p hp)
        · intro p hp q hq
          rw [List.mem_singleton.mp hq]
          exact ho p hp
        · have em : m' = mp c' := funext hm'
          rw [em]
          exact ih (i + 1) c' (by omega) hP' ho
      cases f with
      | ret v => exact h₃
      | brk => exact h₃
      | next => exact fin h₃
      | cont => exact fin h₃
  have z := key vs.length 0 c₀ (by omega) h0 (fun p hp => Nat.ne_of_lt (hI p hp))
  rw [List.drop_zero] at z
  exact z

/-- the names that a loop stores are forgotten, the others stand -/
noncomputable def offs : List Str → (Str → Option Value) → (Str → Option Value) → Str → Option Value
  | [], _, m => m
  | z :: r, u, m => fun y => if y = z then u y else offs r u m y
theorem offs_self (m : Str → Option Value) : ∀ (l : List Str) (y : Str), offs l m m y = m y
  | [], _ => rfl
  | z :: r, y => by
    show (if y = z then m y else offs r m m y) = m y
    by_cases h : y = z
    · rw [if_pos h]
    · rw [if_neg h]; exact offs_self m r y
theorem offs_eq {m m' : Str → Option Value} : ∀ {l : List Str}, (∀ y, (∀ z ∈ l, y ≠ z) → m' y = m y) → ∀ y, m' y = offs l m' m y
  | [], h, y => h y fun _ hz => nomatch hz
  | z :: r, h, y => by
    show m' y = if y = z then m' y else offs r m' m y
    by_cases e : y = z
    · rw [if_pos e]
    · rw [if_neg e]
      by_cases h2 : ∀ z ∈ r, y ≠ z
      · have key : ∀ (l : List Str), (∀ z ∈ l, y ≠ z) → offs l m' m y = m y := by
          intro l
          induction l with
          | nil => intro _; rfl
          | cons a l ih =>
            intro hl
            show (if y = a then m' y else offs l m' m y) = m y
            rw [if_neg (hl a (.head _))]
            exact ih fun z hz => hl z (.tail _ hz)
        rw [key r h2]
        exact h y fun z' hz => by
          rcases List.mem_cons.mp hz with rfl | hz
          · exact e
          · exact h2 z' hz
      · have key : ∀ (l : List Str), (¬ ∀ z ∈ l, y ≠ z) → offs l m' m y = m' y := by
          intro l
          induction l with
          | nil => intro hl; exact absurd (fun _ hz => nomatch hz) hl
          | cons a l ih =>
            intro hl
            show (if y = a then m' y else offs l m' m y) = m' y
            by_cases ha : y = a
            · rw [if_pos ha]
            · rw [if_neg ha]
              exact ih fun hall => hl fun z hz => by
                rcases List.mem_cons.mp hz with rfl | hz
                · exact ha
                · exact hall z hz
        exact (key r h2).symm

theorem iter_list1 {σ : Type} (stored : List Str) (led : σ → List (Addr × Obj)) (P : Nat → σ → Prop) {ax : Addr} {lo : Obj} {vs : List Value} {n : Nat} {m₀ : Str → Option Value} {news : List (Addr × Obj)} (c₀ : σ)
    (hh : A.handled = none) (F : Fr h₀ env.locals s.heap m₀) (N : News h₀ env.locals s.heap news) (hm : (ax, lo) ∈ led c₀) (hc : lo.cls = .type "list") (hd : lo.data = .seq vs.toArray n)
    (hled : ∀ p ∈ led c₀, p ∈ news) (h0 : P 0 c₀) (hkeep : ∀ i c, P i c → (ax, lo) ∈ led c)
    (turn : ∀ i v (c : σ) (u : Str → Option Value) I it h tk, vs[i]? = some v → P i c → it.cls = .type "list_iterator" → (∀ p ∈ led c₀, p.1 < I) → (∀ p ∈ led c, p.1 ≠ I) → Fr h₀ env.locals h (offs stored u m₀) → News h₀ env.locals h ((I, it) :: led c) →
      wpAny (model prog w) A (assign target env v) (fun _ s₂ => wpAny (model prog w) A (execs body env) (LPost (fun c : σ × (Str → Option Value) => offs stored c.2 m₀) (fun c => led c.1) (fun c => P (i + 1) c.1) h₀ env.locals I it { s with heap := h, toks := tk } Q) E s₂) E { s with heap := h, toks := tk })
    (done : ∀ (c : σ) (u : Str → Option Value) h tk, P vs.length c → Fr h₀ env.locals h (offs stored u m₀) → News h₀ env.locals h (led c) → Q .next { s with heap := h, toks := tk }) :
    wpAny (model prog w) A (pyIter (.ref ax)) (fun it s₂ => TurnsAt prog w A h₀ env target body Q E it s₂) E s :=
  iter_listJ (fun c : σ × (Str → Option Value) => offs stored c.2 m₀) (fun c => led c.1) (fun i c => P i c.1) (c₀, m₀) hh F N hm hc hd (fun y => (offs_self m₀ stored y).symm) hled h0 (fun i c => hkeep i c.1)
    (fun i v c I it h tk hv hP hit hI ho F₁ N₁ => turn i v c.1 c.2 I it h tk hv hP hit hI ho F₁ N₁) (fun c h tk hP F₁ N₁ => done c.1 c.2 h tk hP F₁ N₁)
end
end

section
theorem wtLC : True := by
  w_top off
  trivial
open LCg LCt LCp
/-- an element's end -/
noncomputable def CEnd (h₀ : Heap) (L : Addr) (m : Str → Option Value) (s₁ : Shared) (I : Addr) (oI : Obj) (C : Addr) (oC : Obj) (D : Addr) (oD : Obj) (J : Value → List (Addr × Obj) → Prop) (y : Value) (s₂ : Shared) : Prop :=
  ∃ h' tk all nw', s₂ = { s₁ with heap := h', toks := tk } ∧ Fr h₀ L h' m ∧ News h₀ L h' all ∧ (∀ p ∈ (I, oI) :: (C, oC) :: (D, oD) :: nw', p ∈ all) ∧ (∀ p ∈ nw', p.1 ≠ I ∧ p.1 ≠ C ∧ p.1 ≠ D) ∧ J y nw'
theorem CEnd.intro {h₀ : Heap} {L : Addr} {m : Str → Option Value} {s₁ : Shared} {I C D : Addr} {oI oC oD : Obj} {J : Value → List (Addr × Obj) → Prop} {y : Value} {h' : Heap} {tk : Nat} {all : List (Addr × Obj)} (nw' : List (Addr × Obj))
    (F : Fr h₀ L h' m) (N : News h₀ L h' all) (hs : ∀ p ∈ (I, oI) :: (C, oC) :: (D, oD) :: nw', p ∈ all) (ho : ∀ p ∈ nw', p.1 ≠ I ∧ p.1 ≠ C ∧ p.1 ≠ D) (hj : J y nw') : CEnd h₀ L m s₁ I oI C oC D oD J y { s₁ with heap := h', toks := tk } :=
  ⟨h', tk, all, nw', rfl, F, N, hs, ho, hj⟩
theorem CEnd.to {h₀ : Heap} {L : Addr} {m : Str → Option Value} {s₁ s₂ : Shared} {I C D : Addr} {oI oC oD : Obj} {J : Value → List (Addr × Obj) → Prop} {S : List (Addr × Obj) → Prop} {rest : Value → List (Addr × Obj) → Prop} {y : Value}
    (h : CEnd h₀ L m s₁ I oI C oC D oD J y s₂) (hj : ∀ nw, J y nw → S nw ∧ rest y nw) : CompEnd h₀ L m s₁ I oI C oC D oD S rest y s₂ := by
  obtain ⟨h', tk, all, nw', rfl, F, N, hs, ho, hJ⟩ := h
  exact CompEnd.intro F N nw' hs (Off3.of ho) (hj _ hJ).1 (hj _ hJ).2
section
variable {prog : Program} {w : World} {A : Around} {E : Value → Shared → Prop} {s : Shared} {h₀ : Heap} {L : Addr} {m : Str → Option Value} {env : Env}
theorem restU {elt : Expr} {x : Str} {scope : Scope} {cl : List (Str × Addr)} {S : List (Addr × Obj) → Prop} {P : Nat → Value → Prop} {Fin : List Value → List (Addr × Obj) → Prop} (J : Nat → List Value → List (Addr × Obj) → Prop) {n : Nat} {news : List (Addr × Obj)}
    (h0 : J 0 [] news) (hS : ∀ i ys nw, J i ys nw → S nw) (fin : ∀ ys nw, J n ys nw → Fin ys nw)
    (turn : ∀ i ys nw v I oI C oC D m₂ h tk (E' : Value → Shared → Prop), i < n → J i ys nw → P i v → NsObj oC m₂ → m₂ x = some v → (∀ p ∈ nw, p.1 ≠ I ∧ p.1 ≠ C ∧ p.1 ≠ D) → (@Ne Nat I C) → (@Ne Nat I D) → (@Ne Nat C D) → Fr h₀ L h m → News h₀ L h ((I, oI) :: (C, oC) :: (D, lst ys) :: nw) →
      wpAny (model prog w) A (eval elt (compEnvC scope cl C env)) (CEnd h₀ L m { s with heap := h, toks := tk } I oI C oC D (lst ys) (fun y nw' => J (i + 1) (ys ++ [y]) nw')) E' { s with heap := h, toks := tk }) :
    CompRest prog w A h₀ L m env elt x scope cl s S P Fin n 0 [] news := by
  have key : ∀ k i ys nw, i + k = n → J i ys nw → CompRest prog w A h₀ L m env elt x scope cl s S P Fin k i ys nw := by
    intro k
    induction k with
    | zero => intro i ys nw hi hJ; have : i = n := by omega
              subst this; exact fin ys nw hJ
    | succ k ih =>
      intro i ys nw hi hJ
      refine CompRest.succ fun v I oI C oC D m₂ h tk E' hP hns hx F N hoff hne => ?_
      exact wpAny_mono (turn i ys nw v I oI C oC D m₂ h tk E' (by omega) hJ hP hns hx hoff.mem hne.1 hne.2.1 hne.2.2 F N) (fun y s' hc => hc.to fun nw' hj => ⟨hS _ _ _ hj, ih (i + 1) _ nw' (by omega) hj⟩) fun _ _ e => e
  exact key n 0 [] news (by omega) h0
theorem restT {ct elt : Expr} {x : Str} {scope : Scope} {cl : List (Str × Addr)} {S : List (Addr × Obj) → Prop} {P : Nat → Value → Prop} {Fin : List Value → List (Addr × Obj) → Prop} (J : Nat → List Value → List (Addr × Obj) → Prop) {n : Nat} {news : List (Addr × Obj)}
    (h0 : J 0 [] news) (hS : ∀ i ys nw, J i ys nw → S nw) (fin : ∀ ys nw, J n ys nw → Fin ys nw)
    (turn : ∀ i ys nw v I oI C oC D m₂ h tk (E' : Value → Shared → Prop), i < n → J i ys nw → P i v → NsObj oC m₂ → m₂ x = some v → (∀ p ∈ nw, p.1 ≠ I ∧ p.1 ≠ C ∧ p.1 ≠ D) → (@Ne Nat I C) → (@Ne Nat I D) → (@Ne Nat C D) → Fr h₀ L h m → News h₀ L h ((I, oI) :: (C, oC) :: (D, lst ys) :: nw) →
      wpAny (model prog w) A (isTrue ct (compEnvC scope cl C env) (eval ct (compEnvC scope cl C env))) (fun ok s' => if ok = true then
        wpAny (model prog w) A (eval elt (compEnvC scope cl C env)) (CEnd h₀ L m { s with heap := h, toks := tk } I oI C oC D (lst ys) (fun y nw' => J (i + 1) (ys ++ [y]) nw')) E' s'
        else CEnd h₀ L m { s with heap := h, toks := tk } I oI C oC D (lst ys) (fun _ nw' => J (i + 1) ys nw') Value.none s') E' { s with heap := h, toks := tk }) :
    CompRestT prog w A h₀ L m env ct elt x scope cl s S P Fin n 0 [] news := by
  have key : ∀ k i ys nw, i + k = n → J i ys nw → CompRestT prog w A h₀ L m env ct elt x scope cl s S P Fin k i ys nw := by
    intro k
    induction k with
    | zero => intro i ys nw hi hJ; have : i = n := by omega
              subst this; exact fin ys nw hJ
    | succ k ih =>
      intro i ys nw hi hJ
      refine CompRestT.succ fun v I oI C oC D m₂ h tk E' hP hns hx F N hoff hne => ?_
      refine wpAny_mono (turn i ys nw v I oI C oC D m₂ h tk E' (by omega) hJ hP hns hx hoff.mem hne.1 hne.2.1 hne.2.2 F N) (fun ok s' hc => ?_) fun _ _ e => e
      cases ok with
      | true =>
        simp only [if_true] at hc ⊢
        exact wpAny_mono hc (fun y s' hc => hc.to fun nw' hj => ⟨hS _ _ _ hj, ih (i + 1) _ nw' (by omega) hj⟩) fun _ _ e => e
      | false =>
        simp only [Bool.false_eq_true, if_false] at hc ⊢
        exact hc.to fun nw' hj => ⟨hS _ _ _ hj, ih (i + 1) _ nw' (by omega) hj⟩
  exact key n 0 [] news (by omega) h0
/-- the element leaves the ledger as it was -/
theorem restUc {elt : Expr} {x : Str} {scope : Scope} {cl : List (Str × Addr)} {S : List (Addr × Obj) → Prop} {P : Nat → Value → Prop} {Fin : List Value → List (Addr × Obj) → Prop} (J : Nat → List Value → Prop) {n : Nat} {news : List (Addr × Obj)}
    (h0 : J 0 []) (hS : S news) (fin : ∀ ys, J n ys → Fin ys news)
    (turn : ∀ i ys v I oI C oC D m₂ h tk (E' : Value → Shared → Prop), i < n → J i ys → P i v → NsObj oC m₂ → m₂ x = some v → (∀ p ∈ news, p.1 ≠ I ∧ p.1 ≠ C ∧ p.1 ≠ D) → (@Ne Nat I C) → (@Ne Nat I D) → (@Ne Nat C D) → Fr h₀ L h m → News h₀ L h ((I, oI) :: (C, oC) :: (D, lst ys) :: news) →
      wpAny (model prog w) A (eval elt (compEnvC scope cl C env)) (CEnd h₀ L m { s with heap := h, toks := tk } I oI C oC D (lst ys) (fun y nw' => nw' = news ∧ J (i + 1) (ys ++ [y]))) E' { s with heap := h, toks := tk }) :
    CompRest prog w A h₀ L m env elt x scope cl s S P Fin n 0 [] news :=
  restU (fun i ys nw => nw = news ∧ J i ys) ⟨rfl, h0⟩ (fun _ _ _ h => h.1 ▸ hS) (fun ys nw h => h.1 ▸ fin ys h.2) (fun i ys nw v I oI C oC D m₂ h tk E' hi hJ hP hns hx ho h1 h2 h3 F N => by
    obtain ⟨rfl, hJ⟩ := hJ
    exact turn i ys v I oI C oC D m₂ h tk E' hi hJ hP hns hx ho h1 h2 h3 F N)
theorem restTc {ct elt : Expr} {x : Str} {scope : Scope} {cl : List (Str × Addr)} {S : List (Addr × Obj) → Prop} {P : Nat → Value → Prop} {Fin : List Value → List (Addr × Obj) → Prop} (J : Nat → List Value → Prop) {n : Nat} {news : List (Addr × Obj)}
    (h0 : J 0 []) (hS : S news) (fin : ∀ ys, J n ys → Fin ys news)
    (turn : ∀ i ys v I oI C oC D m₂ h tk (E' : Value → Shared → Prop), i < n → J i ys → P i v → NsObj oC m₂ → m₂ x = some v → (∀ p ∈ news, p.1 ≠ I ∧ p.1 ≠ C ∧ p.1 ≠ D) → (@Ne Nat I C) → (@Ne Nat I D) → (@Ne Nat C D) → Fr h₀ L h m → News h₀ L h ((I, oI) :: (C, oC) :: (D, lst ys) :: news) →
      wpAny (model prog w) A (isTrue ct (compEnvC scope cl C env) (eval ct (compEnvC scope cl C env))) (fun ok s' => if ok = true then
        wpAny (model prog w) A (eval elt (compEnvC scope cl C env)) (CEnd h₀ L m { s with heap := h, toks := tk } I oI C oC D (lst ys) (fun y nw' => nw' = news ∧ J (i + 1) (ys ++ [y]))) E' s'
        else CEnd h₀ L m { s with heap := h, toks := tk } I oI C oC D (lst ys) (fun _ nw' => nw' = news ∧ J (i + 1) ys) Value.none s') E' { s with heap := h, toks := tk }) :
    CompRestT prog w A h₀ L m env ct elt x scope cl s S P Fin n 0 [] news :=
  restT (fun i ys nw => nw = news ∧ J i ys) ⟨rfl, h0⟩ (fun _ _ _ h => h.1 ▸ hS) (fun ys nw h => h.1 ▸ fin ys h.2) (fun i ys nw v I oI C oC D m₂ h tk E' hi hJ hP hns hx ho h1 h2 h3 F N => by
    obtain ⟨rfl, hJ⟩ := hJ
    exact turn i ys v I oI C oC D m₂ h tk E' hi hJ hP hns hx ho h1 h2 h3 F N)
end
end

section
theorem wtSL : True := by
  w_top off
  trivial
section
variable {prog : Program} {w : World} {A : Around} {E : Value → Shared → Prop} {s : Shared} {h₀ : Heap} {L : Addr} {m : Str → Option Value} {news : List (Addr × Obj)} {g : Obj → List (Addr × Obj)}
theorem whole_eq {α : Type} (xs ys : Array α) : xs.extract 0 (Int.toNat 0) ++ ys ++ xs.extract (max 0 (xs.size : Int)).toNat = ys := by
  rw [Int.max_eq_right (Int.natCast_nonneg _), Int.toNat_natCast]
  simp
theorem wif_neg {M : Model} {A : Around} {α : Type} {c : Prop} [Decidable c] {a b : Sem α} {Q : α → Shared → Prop} {E : Value → Shared → Prop} {s : Shared} (hc : ¬ c) (h : wpAny M A b Q E s) : wpAny M A (if c then a else b) Q E s := by rw [if_neg hc]; exact h
theorem wif_pos {M : Model} {A : Around} {α : Type} {c : Prop} [Decidable c] {a b : Sem α} {Q : α → Shared → Prop} {E : Value → Shared → Prop} {s : Shared} (hc : c) (h : wpAny M A a Q E s) : wpAny M A (if c then a else b) Q E s := by rw [if_pos hc]; exact h
theorem setItem_whole {l sl D : Addr} {items ys : Array Value} {n : Nat} {Q : Unit → Shared → Prop} (ho : s.heap.get? l = some (listOf items n)) (hs : s.heap.IsSliceOf sl .none .none .none)
    (hD : s.heap.IsList D ys) (hne : l ≠ D) (hsz : items.size + ys.size ≤ sizeLine) (h : ∀ h' n', h'.get? l = some (listOf ys n') → Heap.SameBut l s.heap h' → Q () { s with heap := h' }) : wpAny (model prog w) A (setItem (.ref l) (.ref sl) (.ref D)) Q E s := by
  have hl : s.heap.IsList l items := ⟨_, ho, rfl, n, rfl⟩
  obtain ⟨os, hos, hcs, hds⟩ := id hs
  obtain ⟨oD, hoD, hcD, nD, hdD⟩ := id hD
  have hTs : s.TypeIs (.ref sl) "slice" := ⟨os, hos, hcs⟩
  have hTD : s.TypeIs (.ref D) "list" := ⟨oD, hoD, hcD⟩
  have hsz1 : items.size ≤ sizeLine := Nat.le_trans (Nat.le_add_right _ _) hsz
  unfold setItem
  try with_reducible refine wpAny_holding ?_
  first | refine wpAny_bind (wpAny_pure ?_) | skip
  refine wpAny_bind (wpAny_sequenceKey hl.typeIs (by decide) ?_)
  refine wpAny_bind (wpAny_callSpecial?_slot (name := Str.ofString "__setitem__") hl.typeIs F.slot_list_setitem
    (wpAny_call_entry F.slot_list_setitem hl.typeIs F.entry_list_setitem ?_ (F.args_list_setitem_3 _ _ _)))
  show wpAny _ _ (Builtin.List.listSubscript? (.ref sl) >>= _) _ _ s
  refine wpAny_bind ?_
  unfold Builtin.List.listSubscript?
  refine wpAny_bind (wpAny_specialOf hTs slice_no_index ?_)
  simp only [Option.isNone_none, if_true]
  refine wpAny_pure ?_
  show wpAny _ _ (typeOf (.ref sl) >>= _) _ _ s
  refine wpAny_bind (wpAny_typeOf hTs ?_)
  refine wif_neg (by decide) ?_
  rw [listSliceParts_eq]
  refine wpAny_bind (wpAny_bind (wpAny_field hos hds (x := .none) rfl (wpAny_bind (wpAny_listPart .none ?_))))
  refine wif_neg Bool.false_ne_true ?_
  refine wpAny_bind (wpAny_field hos hds (x := .none) rfl (wpAny_bind (wpAny_listPart .none ?_)))
  refine wpAny_bind (wpAny_field hos hds (x := .none) rfl (wpAny_bind (wpAny_listPart .none (wpAny_pure ?_))))
  have hsame : ¬ Builtin.List.listSameRef (.ref l) (.ref D) = true := fun e => hne (eq_of_beq e)
  refine wif_neg hsame ?_
  refine wpAny_bind ?_
  unfold Builtin.List.listAllItems
  refine wpAny_bind (wpAny_typeOf hTD ?_)
  refine wif_pos (by decide) ?_
  unfold Builtin.List.listItems
  refine wpAny_bind (wpAny_seqItems hoD hdD (wpAny_pure ?_))
  refine wpAny_bind (wpAny_bind (wpAny_seqItems ho rfl (wpAny_pure ?_)))
  refine wpAny_bind (wpAny_of_eq (sliceIndices_raw none none none items.size (by simp)) ?_)
  have eb : sliceBounds none none none items.size = (0, (items.size : Int), 1) := by simp [sliceBounds]
  rw [eb]
  dsimp only
  refine wif_pos (by decide) ?_
  refine wpAny_bind (wpAny_rule ?_)
  have hlong : ¬ Builtin.List.listTooLong (items.size + ys.size) = true := fun e => Nat.not_lt_of_le hsz (of_decide_eq_true e)
  refine wif_neg hlong ?_
  have ef : (fun xs : Array Value => xs.extract 0 (Int.toNat 0) ++ ys ++ xs.extract (max 0 (items.size : Int)).toNat) items = ys := whole_eq items ys
  refine wpAny_bind ?_
  unfold Builtin.List.listUpdate
  dsimp only
  refine wpAny_updateSeq ho rfl ?_ hsz1 (by show ((fun xs : Array Value => xs.extract 0 (Int.toNat 0) ++ ys ++ xs.extract (max 0 (items.size : Int)).toNat) items).size ≤ _; rw [ef]; exact Nat.le_succ_of_le (Nat.le_trans (Nat.le_add_left _ _) hsz))
  refine wpAny_bind (wpAny_letGo ?_)
  refine wpAny_pure ⟨_, rfl, wpAny_pure ?_⟩
  refine h _ (if (ys.size == items.size) = true then n else n + 1) ?_ (Heap.SameBut.update ..)
  rw [Heap.get?_update_self _ ho rfl]
  show some (listOf ((fun xs : Array Value => xs.extract 0 (Int.toNat 0) ++ ys ++ xs.extract (max 0 (items.size : Int)).toNat) items) (if (((fun xs : Array Value => xs.extract 0 (Int.toNat 0) ++ ys ++ xs.extract (max 0 (items.size : Int)).toNat) items).size == items.size) = true then n else n + 1)) = _
  rw [ef]

theorem setSlice_K {l sl D : Addr} {items ys : Array Value} {n k : Nat} {Q : Unit → Shared → Prop} (F : Fr h₀ L s.heap m) (N : News h₀ L s.heap news) (U : UpdF l (listOf items n) news g) (hD : (D, listOf ys k) ∈ news) (hsl : (sl, ({ cls := .type "slice", data := .fields #[.none, .none, .none] } : Obj)) ∈ news)
    (hne : l ≠ D) (hsz : items.size + ys.size ≤ sizeLine) (h : ∀ h' n', Fr h₀ L h' m → News h₀ L h' (g (listOf ys n')) → Q () { s with heap := h' }) : wpAny (model prog w) A (setItem (.ref l) (.ref sl) (.ref D)) Q E s := by
  obtain ⟨pre, post, rfl, hg, a, b⟩ := U.split
  have z := N (l, listOf items n) (List.mem_append.mpr (.inr (.head _)))
  refine setItem_whole z.1 ⟨_, (N _ hsl).1, rfl, rfl⟩ ⟨_, (N _ hD).1, rfl, _, rfl⟩ hne hsz fun h' n' e hs => h h' n' (F.change hs z.2.1 z.2.2) ?_
  rw [hg]
  exact news_set N a b hs e
theorem slice_N {env : Env} {p : Pos} {Q : Value → Shared → Prop} (F : Fr h₀ L s.heap m) (N : News h₀ L s.heap news)
    (h : ∀ sl h', Fr h₀ L h' m → News h₀ L h' ((sl, ({ cls := .type "slice", data := .fields #[.none, .none, .none] } : Obj)) :: news) → (∀ p ∈ news, p.1 < sl) → Q (.ref sl) { s with heap := h' }) :
    wpAny (model prog w) A (eval (.Slice none none none p) env) Q E s := by
  refine wpAny_Slice ?_
  rw [evalPart_none]
  exact wpAny_pure (wpAny_pure (wpAny_pure (h _ _ (F.push _) (N.push F _) fun p hp => Heap.lt_size (N p hp).1)))
end
end

section
theorem wtDI : True := by
  w_top off
  trivial
open PySem PySem.W PyProof.Rows PySem.Calls
section
variable {M : Model} {A : Around} {E : Value → Shared → Prop} {s : Shared} {K : Frag} {x C L f : Addr} {h₀ : Heap} {m : Str → Option Value} {ox : Obj} {od : Option Obj} {i v : Value}
theorem delItem_own {Q : Unit → Shared → Prop} (F : Fr h₀ L s.heap m) (X₀ : K.In h₀) (I : InstAt s.heap x ox C od) (hq : noSeq K C = true) (hs : findIn K (.ref C) "__delitem__" = some (some (.ref f))) (hf : isFn K (.ref f) = true)
    (h : wpAny M A (call (.ref f) [.ref x, i]) (fun _ s' => Q () s') E s) : wpAny M A (delItem (.ref x) i) Q E s := by
  have X := X₀.keeps F.keep
  unfold delItem sequenceKey
  refine wpAny_holding (wpAny_bind (wpAny_bind (I.type.here ?_)))
  refine wpAny_bind ((anyM_none X hq).here ?_)
  rw [if_pos (show (!false) = true from rfl)]
  exact wpAny_pure (wpAny_bind (special_fn X I hs (beq_iff_eq.mp hf) (wpAny_mono h (fun _ _ z => wpAny_pure z) fun _ _ z => z)))
end
end

section
theorem wtLS : True := by
  w_top off
  trivial
open LCg LCt LCp
section
variable {prog : Program} {w : World} {A : Around} {E : Value → Shared → Prop} {s : Shared} {h₀ : Heap} {L : Addr} {m : Str → Option Value} {env : Env}
/-- the source is a text -/
noncomputable def SrcS (prog : Program) (w : World) (A : Around) (h₀ : Heap) (L : Addr) (m : Str → Option Value) (env : Env) (elt : Expr) (x : Str) (scope : Scope) (cl : List (Str × Addr)) (Fin : Shared → List Value → List (Addr × Obj) → Prop) (xv : Value) (s₁ : Shared) : Prop :=
  ∃ y t news, xv = .str y t ∧ A.handled = none ∧ Fr h₀ L s₁.heap m ∧ News h₀ L s₁.heap news ∧ y.cps.size ≤ sizeLine ∧
    ∀ g, CompRest prog w A h₀ L m env elt x scope cl { s₁ with heap := g } (fun _ => True) (SignAt y) (Fin { s₁ with heap := g }) y.cps.size 0 [] news
theorem SrcS.intro {elt : Expr} {x : Str} {scope : Scope} {cl : List (Str × Addr)} {Fin : Shared → List Value → List (Addr × Obj) → Prop} {y : Str} {t : Tok} {news : List (Addr × Obj)} {s₁ : Shared}
    (hh : A.handled = none) (F : Fr h₀ L s₁.heap m) (N : News h₀ L s₁.heap news) (hsz : y.cps.size ≤ sizeLine)
    (h : ∀ g, CompRest prog w A h₀ L m env elt x scope cl { s₁ with heap := g } (fun _ => True) (SignAt y) (Fin { s₁ with heap := g }) y.cps.size 0 [] news) :
    SrcS prog w A h₀ L m env elt x scope cl Fin (.str y t) s₁ := ⟨y, t, news, rfl, hh, F, N, hsz, h⟩
theorem ListComp_S {elt iter : Expr} {x : Str} {px : Pos} {scope : Scope} {cl : List (Str × Addr)} {pos : Pos} {Q : Value → Shared → Prop} (F₀ : Fr h₀ L s.heap m)
    (hclos : closureFor scope env = pure cl) (hcell : ∀ y ∈ scope.names, y.2 ≠ .cell) (hkind : scope.kind = .function)
    (hnames : ∀ y ∈ scope.names, y.2 = .local → scope.names.lookup y.1 = some .local) (hx : scope.names.lookup x = some .local)
    (h : wpAny (model prog w) A (eval iter env) (SrcS prog w A h₀ L m env elt x scope cl (fun s₂ => FinE h₀ L m s₂ Q)) E s)
    (hs : ∀ x, foldedSetIterable iter env x = pure x := by intro _; rfl) :
    wpAny (model prog w) A (eval (.ListComp elt [⟨.Name x px, iter, [], 0⟩] scope pos) env) Q E s := by
  have _ := F₀
  rw [eval_ListComp]
  refine wpAny_comprehension_free (use := none) rfl hs hclos hkind hnames (wpAny_mono h (fun xv s₁ h₁ => ?_) fun _ _ e => e)
  obtain ⟨y, t, news, rfl, hh, F, N, hsz, R⟩ := h₁
  cases ha : y.cps.all (· < 128)
  · refine wpAny_pyIter_wide ha ?_
    refine block_U (Walks.strWide hh s₁.heap.objs.size y t) hsz (fun i h st => by obtain ⟨o, e, _⟩ := st; exact ⟨o, e⟩) (fun i h h' o nw st e e' _ _ _ => (Walks.strWide (prog := prog) (w := w) hh s₁.heap.objs.size y t).frame i h h' st fun b hb o' eo => ?_) hcell hkind hx ⟨_, Heap.get?_push_size _ rfl, rfl, rfl⟩ (fun b hb => ?_)
      (F.keeps fun _ _ e => Heap.get?_push_of_some _ e) (N.grown fun _ _ e => Heap.get?_push_of_some _ e) (Nat.ne_of_lt F.ns.lt) (next_is_new F) (fun p hp => Nat.ne_of_lt (Heap.lt_size (N p hp).1)) trivial (R _) ?_
    · rw [List.mem_singleton.mp hb] at eo ⊢
      rw [e] at eo
      rw [e', eo]
    · rw [List.mem_singleton.mp hb]
      show s₁.heap.objs.size < (s₁.heap.push _).objs.size
      rw [Heap.size_push]; exact Nat.lt_succ_self _
    · intro D C h tk m' ys news' F' N' o1 hn hC₀ hD₀ hCL hDL hCD offC fin
      refine ⟨m', hn, fun h'' hs'' => fin D h'' tk (F'.change hs'' hCL hC₀) (fun p hp => ?_) o1⟩
      refine ⟨hs''.extBut _ _ ?_ (N' p hp).1, (N' p hp).2⟩
      rcases List.mem_cons.mp hp with rfl | hp
      · exact Ne.symm hCD
      · exact offC p hp
  · refine wpAny_pyIter_ascii ha ?_
    refine block_U (Walks.strAscii hh s₁.heap.objs.size y t) hsz (fun i h st => by obtain ⟨o, e, _⟩ := st; exact ⟨o, e⟩) (fun i h h' o nw st e e' _ _ _ => (Walks.strAscii (prog := prog) (w := w) hh s₁.heap.objs.size y t).frame i h h' st fun b hb o' eo => ?_) hcell hkind hx ⟨_, Heap.get?_push_size _ rfl, rfl, rfl⟩ (fun b hb => ?_)
      (F.keeps fun _ _ e => Heap.get?_push_of_some _ e) (N.grown fun _ _ e => Heap.get?_push_of_some _ e) (Nat.ne_of_lt F.ns.lt) (next_is_new F) (fun p hp => Nat.ne_of_lt (Heap.lt_size (N p hp).1)) trivial (R _) ?_
    · rw [List.mem_singleton.mp hb] at eo ⊢
      rw [e] at eo
      rw [e', eo]
    · rw [List.mem_singleton.mp hb]
      show s₁.heap.objs.size < (s₁.heap.push _).objs.size
      rw [Heap.size_push]; exact Nat.lt_succ_self _
    · intro D C h tk m' ys news' F' N' o1 hn hC₀ hD₀ hCL hDL hCD offC fin
      refine ⟨m', hn, fun h'' hs'' => fin D h'' tk (F'.change hs'' hCL hC₀) (fun p hp => ?_) o1⟩
      refine ⟨hs''.extBut _ _ ?_ (N' p hp).1, (N' p hp).2⟩
      rcases List.mem_cons.mp hp with rfl | hp
      · exact Ne.symm hCD
      · exact offC p hp
end
end

section
theorem wtLR : True := by
  w_top off
  trivial
section
variable {prog : Program} {w : World} {A : Around} {E : Value → Shared → Prop} {s : Shared} {env : Env} {h₀ : Heap} {target : Expr} {body : List Stmt} {Q : Flow → Shared → Prop}
theorem items_J {σ : Type} (mp : σ → Str → Option Value) (led : σ → List (Addr × Obj)) (P : Nat → σ → Prop) {I : Addr} {T : String} {keep : List (Addr × Obj)} {xs : List Itm}
    (hkeep : ∀ i c, P i c → SubL keep (led c))
    (turn : ∀ i a v (c : σ) it h tk, xs[i]? = some a → a.Is v h → P i c → it.cls = .type T → (∀ p ∈ led c, p.1 ≠ I) → Fr h₀ env.locals h (mp c) → News h₀ env.locals h ((I, it) :: led c) →
      wpAny (model prog w) A (assign target env v) (fun _ s₂ => wpAny (model prog w) A (execs body env) (LPost mp led (P (i + 1)) h₀ env.locals I it { s with heap := h, toks := tk } Q) E s₂) E { s with heap := h, toks := tk })
    (done : ∀ (c : σ) h tk, P xs.length c → Fr h₀ env.locals h (mp c) → News h₀ env.locals h (led c) → Q .next { s with heap := h, toks := tk }) :
    ∀ k i (c : σ), i + k = xs.length → P i c → (∀ p ∈ led c, p.1 ≠ I) → ItemsRest prog w A E h₀ env target body Q s [(I, T)] keep (xs.drop i) (mp c) (led c) := by
  intro k
  induction k with
  | zero =>
    intro i c hi hP hoff
    have : xs.drop i = [] := List.drop_eq_nil_of_le (by omega)
    rw [this]
    refine ItemsRest.zero fun h tk F₁ N₁ => ?_
    have e : i = xs.length := by omega
    subst e
    exact done c h tk hP F₁ N₁
  | succ k ih =>
    intro i c hi hP hoff
    have hlt : i < xs.length := by omega
    rw [List.drop_eq_getElem_cons hlt]
    intro v h tk hv F₁
    refine AllObj.cons fun it hit => AllObj.nil fun N₁ => ?_
    have N₂ : News h₀ env.locals h ((I, it) :: led c) := N₁
    refine wpAny_mono (turn i xs[i] v c it h tk (by simp [hlt]) hv hP hit hoff F₁ N₂) (fun _ s₂ h₂ => wpAny_mono h₂ (fun f s₃ h₃ => ?_) fun _ _ e => e) fun _ _ e => e
    have fin : LEnd mp led (P (i + 1)) h₀ env.locals I it { s with heap := h, toks := tk } s₃ → UnrEndW h₀ env.locals { s with heap := h, toks := tk } [(I, it)] (fun m' n' => SubL keep n' ∧ ItemsRest prog w A E h₀ env target body Q s [(I, T)] keep (xs.drop (i + 1)) m' n') s₃ := by
      rintro ⟨h', tk', m', n', c', rfl, F', N', hI', hs, ho, hm', hP'⟩
      refine ⟨h', tk', m', led c', rfl, F', ?_, ?_, hkeep _ _ hP', ?_⟩
      · intro p hp
        rcases List.mem_cons.mp hp with rfl | hp
        · exact N' _ hI'
        · exact N' _ (hs p hp)
      · intro p hp q hq
        rw [List.mem_singleton.mp hq]
        exact ho p hp
      · have em : m' = mp c' := funext hm'
        rw [em]
        exact ih (i + 1) c' (by omega) hP' ho
    cases f with
    | ret v => exact h₃
    | brk => exact h₃
    | next => exact fin h₃
    | cont => exact fin h₃

theorem iter_tupJ {σ : Type} (mp : σ → Str → Option Value) (led : σ → List (Addr × Obj)) (P : Nat → σ → Prop) {ax : Addr} {lo : Obj} {vs : List Value} {n : Nat} {m₀ : Str → Option Value} {news : List (Addr × Obj)} (c₀ : σ)
    (hh : A.handled = none) (F : Fr h₀ env.locals s.heap m₀) (N : News h₀ env.locals s.heap news) (hm : (ax, lo) ∈ led c₀) (hc : lo.cls = .type "tuple") (hd : lo.data = .seq vs.toArray n)
    (hm₀ : ∀ y, m₀ y = mp c₀ y) (hled : ∀ p ∈ led c₀, p ∈ news) (h0 : P 0 c₀) (hkeep : ∀ i c, P i c → (ax, lo) ∈ led c)
    (turn : ∀ i v (c : σ) I it h tk, vs[i]? = some v → P i c → it.cls = .type "tuple_iterator" → (∀ p ∈ led c₀, p.1 < I) → (∀ p ∈ led c, p.1 ≠ I) → Fr h₀ env.locals h (mp c) → News h₀ env.locals h ((I, it) :: led c) →
      wpAny (model prog w) A (assign target env v) (fun _ s₂ => wpAny (model prog w) A (execs body env) (LPost mp led (P (i + 1)) h₀ env.locals I it { s with heap := h, toks := tk } Q) E s₂) E { s with heap := h, toks := tk })
    (done : ∀ (c : σ) h tk, P vs.length c → Fr h₀ env.locals h (mp c) → News h₀ env.locals h (led c) → Q .next { s with heap := h, toks := tk }) :
    wpAny (model prog w) A (pyIter (.ref ax)) (fun it s₂ => TurnsAt prog w A h₀ env target body Q E it s₂) E s := by
  have em₀ : m₀ = mp c₀ := funext hm₀
  subst em₀
  refine iter_tupTurns hh F (fun p hp => N p (hled p hp)) hm hc hd (fun I hI => ?_)
  have z := items_J (target := target) (body := body) (E := E) (Q := Q) (prog := prog) (w := w) (A := A) (s := s) (T := "tuple_iterator") (keep := [(ax, lo)]) (xs := vs.map .val) mp led P (I := I) (fun i c h => ⟨hkeep i c h, trivial⟩) (fun i a v c it h tk ha hv hP hit ho F₁ N₁ => by
    rw [List.getElem?_map] at ha
    cases hq : vs[i]? with
    | none => rw [hq] at ha; cases ha
    | some u =>
      rw [hq] at ha
      cases ha
      have e : v = u := hv
      subst e
      exact turn i v c I it h tk hq hP hit hI ho F₁ N₁) (fun c h tk hP F₁ N₁ => done c h tk (by rwa [List.length_map] at hP) F₁ N₁) (vs.map Itm.val).length 0 c₀ (by omega) h0 (fun p hp => Nat.ne_of_lt (hI p hp))
  rw [List.drop_zero] at z
  exact z

theorem iter_rangeJ {σ : Type} (mp : σ → Str → Option Value) (led : σ → List (Addr × Obj)) (P : Nat → σ → Prop) {r : Addr} {a b : Int} {t u v' : Tok} {n : Nat} {x : Str} {px : Pos} {m₀ : Str → Option Value} {news : List (Addr × Obj)} (c₀ : σ)
    (hh : A.handled = none) (hr : IsRange s.heap r a b 1 t u v') (hsm : Builtin.Range.small a b 1 = true) (hn : Builtin.Range.rangeSize a b 1 = ((n : Nat) : Int)) (F : Fr h₀ env.locals s.heap m₀) (N : News h₀ env.locals s.heap news)
    (hm₀ : ∀ y, m₀ y = mp c₀ y) (hled : ∀ p ∈ led c₀, p ∈ news) (h0 : P 0 c₀)
    (turn : ∀ i tv (c : σ) I it h tk, i < n → P i c → it.cls = .type "range_iterator" → (∀ p ∈ led c₀, p.1 < I) → (∀ p ∈ led c, p.1 ≠ I) → Fr h₀ env.locals h (mp c) → News h₀ env.locals h ((I, it) :: led c) →
      wpAny (model prog w) A (assign (.Name x px) env (.int (a + (i : Int)) tv)) (fun _ s₂ => wpAny (model prog w) A (execs body env) (LPost mp led (P (i + 1)) h₀ env.locals I it { s with heap := h, toks := tk } Q) E s₂) E { s with heap := h, toks := tk })
    (done : ∀ (c : σ) h tk, P n c → Fr h₀ env.locals h (mp c) → News h₀ env.locals h (led c) → Q .next { s with heap := h, toks := tk }) :
    wpAny (model prog w) A (pyIter (.ref r)) (fun it s₂ => TurnsAt prog w A h₀ env (.Name x px) body Q E it s₂) E s := by
  have em₀ : m₀ = mp c₀ := funext hm₀
  subst em₀
  refine wpAny_pyIter_range hr hsm ?_
  have hI : ∀ p ∈ led c₀, p.1 < s.heap.objs.size := fun p hp => Heap.lt_size (N p (hled p hp)).1
  have z := items_J (target := .Name x px) (body := body) (E := E) (Q := Q) (prog := prog) (w := w) (A := A) (s := s) (T := "range_iterator") (keep := []) (xs := (List.range n).map fun i => Itm.tok fun t => .int (a + ((i : Nat) : Int)) t) mp led P (I := s.heap.objs.size) (fun i c h => trivial) (fun i aa v c it h tk ha hv hP hit ho F₁ N₁ => by
    rw [List.getElem?_map] at ha
    cases hq : (List.range n)[i]? with
    | none => rw [hq] at ha; cases ha
    | some j =>
      rw [hq] at ha
      cases ha
      obtain ⟨tv, e⟩ := hv
      subst e
      have hlt : i < n := by
        have := (List.getElem?_eq_some_iff.mp hq).1
        simpa using this
      have hj : j = i := by
        rw [List.getElem?_range hlt] at hq
        exact (Option.some.inj hq).symm
      subst hj
      exact turn j tv c s.heap.objs.size it h tk hlt hP hit hI ho F₁ N₁) (fun c h tk hP F₁ N₁ => done c h tk (by simpa using hP) F₁ N₁) ((List.range n).map fun i => Itm.tok fun t => Value.int (a + ((i : Nat) : Int)) t).length 0 c₀ (by omega) h0 (fun p hp => Nat.ne_of_lt (hI p hp))
  rw [List.drop_zero] at z
  have W := (Walks.range (prog := prog) (w := w) hh s.heap.objs.size a 1 n).bound
  refine ktu_core (tk0 := s.toks) (keep := []) (ws := [(s.heap.objs.size, "range_iterator")]) (KTurns.ofWalks W fun i v s' Q' E' st q => wpAny_pure q) (by simp) (fun i v h hp => ?_) (fun i h st => ?_) (fun b hb => ?_) (fun b hb => by simpa using hb) (fun b hb => by left; simpa using hb) ?_ (fun p hp hI' => ?_) ?_ (F.push _) (fun p hp => ⟨Heap.get?_push_of_some _ (N p (hled p hp)).1, (N p (hled p hp)).2⟩) trivial z
  · obtain ⟨hlt, t', e⟩ := hp
    exact ⟨Itm.tok fun t => .int (a + ((i : Nat) : Int)) t, by rw [List.getElem?_map, List.getElem?_range hlt]; rfl, (show ∃ t, v = Value.int (a + ((i : Nat) : Int)) t from ⟨t', by rw [e, Int.mul_one]⟩)⟩
  · exact ⟨[(s.heap.objs.size, _)], ⟨⟨rfl, rfl⟩, trivial⟩, fun p hp => by rw [List.mem_singleton.mp hp]; exact st⟩
  · have hb' : b = s.heap.objs.size := by simpa using hb
    rw [hb']
    exact ⟨List.mem_cons_self .., next_is_new F⟩
  · intro hI'
    exact absurd F.ns.lt ((List.mem_singleton.mp hI') ▸ Nat.lt_irrefl _)
  · exact absurd (Heap.lt_size (N p (hled p hp)).1) ((List.mem_singleton.mp hI') ▸ Nat.lt_irrefl _)
  · show IsRangeIter _ _ _ _ _
    rw [hn]
    simpa using Heap.get?_push_size _ rfl

theorem iter_tup2 {σ : Type} (stored : List Str) (uf : σ → Str → Option Value) (led : σ → List (Addr × Obj)) (P : Nat → σ → Prop) {ax : Addr} {lo : Obj} {vs : List Value} {n : Nat} {m₀ : Str → Option Value} {news : List (Addr × Obj)} (c₀ : σ)
    (hh : A.handled = none) (F : Fr h₀ env.locals s.heap m₀) (N : News h₀ env.locals s.heap news) (hm : (ax, lo) ∈ led c₀) (hc : lo.cls = .type "tuple") (hd : lo.data = .seq vs.toArray n)
    (hm₀ : ∀ y, m₀ y = offs stored (uf c₀) m₀ y) (hled : ∀ p ∈ led c₀, p ∈ news) (h0 : P 0 c₀) (hkeep : ∀ i c, P i c → (ax, lo) ∈ led c)
    (turn : ∀ i v (c : σ) I it h tk, vs[i]? = some v → P i c → it.cls = .type "tuple_iterator" → (∀ p ∈ led c₀, p.1 < I) → (∀ p ∈ led c, p.1 ≠ I) → Fr h₀ env.locals h (offs stored (uf c) m₀) → News h₀ env.locals h ((I, it) :: led c) →
      wpAny (model prog w) A (assign target env v) (fun _ s₂ => wpAny (model prog w) A (execs body env) (LPost (fun c => offs stored (uf c) m₀) led (P (i + 1)) h₀ env.locals I it { s with heap := h, toks := tk } Q) E s₂) E { s with heap := h, toks := tk })
    (done : ∀ (c : σ) h tk, P vs.length c → Fr h₀ env.locals h (offs stored (uf c) m₀) → News h₀ env.locals h (led c) → Q .next { s with heap := h, toks := tk }) :
    wpAny (model prog w) A (pyIter (.ref ax)) (fun it s₂ => TurnsAt prog w A h₀ env target body Q E it s₂) E s :=
  iter_tupJ (fun c => offs stored (uf c) m₀) led P c₀ hh F N hm hc hd hm₀ hled h0 hkeep turn done
/-- a name that holds what it holds needs no forgetting -/
theorem offs_at {m : Str → Option Value} {u : Str → Option Value} : ∀ {l : List Str}, (∀ z ∈ l, m z = u z) → ∀ y, m y = offs l u m y
  | [], _, _ => rfl
  | z :: r, h, y => by
    show m y = if y = z then u y else offs r u m y
    by_cases e : y = z
    · rw [if_pos e, e]; exact h z (.head _)
    · rw [if_neg e]; exact offs_at (fun z' hz => h z' (.tail _ hz)) y
theorem offs_upd {m m' u : Str → Option Value} : ∀ {l : List Str}, (∀ z ∈ l, m' z = u z) → (∀ y, (∀ z ∈ l, y ≠ z) → m' y = m y) → ∀ y, m' y = offs l u m y
  | [], _, h, y => h y fun _ hz => nomatch hz
  | z :: r, h1, h2, y => by
    show m' y = if y = z then u y else offs r u m y
    by_cases e : y = z
    · rw [if_pos e, e]; exact h1 z (.head _)
    · rw [if_neg e]
      have key : ∀ (l : List Str), (∀ z ∈ l, m' z = u z) → (∀ q, (∀ z ∈ l, y ≠ z) → q = y → m' y = m y) → m' y = offs l u m y := by
        intro l
        induction l with
        | nil => intro _ h; exact h y (fun _ hz => nomatch hz) rfl
        | cons a l ih =>
          intro ha hb
          show m' y = if y = a then u y else offs l u m y
          by_cases e2 : y = a
          · rw [if_pos e2, e2]; exact ha a (.head _)
          · rw [if_neg e2]
            exact ih (fun z hz => ha z (.tail _ hz)) fun q hq he => hb q (fun z hz => by
              rcases List.mem_cons.mp hz with rfl | hz
              · exact e2
              · exact hq z hz) he
      exact key r (fun z hz => h1 z (.tail _ hz)) fun q hq _ => h2 y fun z hz => by
        rcases List.mem_cons.mp hz with rfl | hz
        · exact e
        · exact hq z hz
theorem iter_range1 {σ : Type} (stored : List Str) (led : σ → List (Addr × Obj)) (P : Nat → σ → Prop) {r : Addr} {a b : Int} {t u v' : Tok} {n : Nat} {x : Str} {px : Pos} {m₀ : Str → Option Value} {news : List (Addr × Obj)} (c₀ : σ)
    (hh : A.handled = none) (hr : IsRange s.heap r a b 1 t u v') (hsm : Builtin.Range.small a b 1 = true) (hn : Builtin.Range.rangeSize a b 1 = ((n : Nat) : Int)) (F : Fr h₀ env.locals s.heap m₀) (N : News h₀ env.locals s.heap news)
    (hled : ∀ p ∈ led c₀, p ∈ news) (h0 : P 0 c₀)
    (turn : ∀ i tv (c : σ) (u : Str → Option Value) I it h tk, i < n → P i c → it.cls = .type "range_iterator" → (∀ p ∈ led c₀, p.1 < I) → (∀ p ∈ led c, p.1 ≠ I) → Fr h₀ env.locals h (offs stored u m₀) → News h₀ env.locals h ((I, it) :: led c) →
      wpAny (model prog w) A (assign (.Name x px) env (.int (a + (i : Int)) tv)) (fun _ s₂ => wpAny (model prog w) A (execs body env) (LPost (fun c : σ × (Str → Option Value) => offs stored c.2 m₀) (fun c => led c.1) (fun c => P (i + 1) c.1) h₀ env.locals I it { s with heap := h, toks := tk } Q) E s₂) E { s with heap := h, toks := tk })
    (done : ∀ (c : σ) (u : Str → Option Value) h tk, P n c → Fr h₀ env.locals h (offs stored u m₀) → News h₀ env.locals h (led c) → Q .next { s with heap := h, toks := tk }) :
    wpAny (model prog w) A (pyIter (.ref r)) (fun it s₂ => TurnsAt prog w A h₀ env (.Name x px) body Q E it s₂) E s :=
  iter_rangeJ (fun c : σ × (Str → Option Value) => offs stored c.2 m₀) (fun c => led c.1) (fun i c => P i c.1) (c₀, m₀) hh hr hsm hn F N (fun y => (offs_self m₀ stored y).symm) hled h0
    (fun i tv c I it h tk hi hP hit hI ho F₁ N₁ => turn i tv c.1 c.2 I it h tk hi hP hit hI ho F₁ N₁) (fun c h tk hP F₁ N₁ => done c.1 c.2 h tk hP F₁ N₁)
end
end

section
theorem wtLW : True := by
  w_top off
  trivial
/-- a while-turn's end -/
noncomputable def WEnd {σ : Type} (mp : σ → Str → Option Value) (led : σ → List (Addr × Obj)) (P : Nat → σ → Prop) (n : Nat) (h₀ : Heap) (L : Addr) (s : Shared) (f : Flow) (s₃ : Shared) : Prop :=
  f = .next ∧ ∃ h' tk m' n' c' k, s₃ = { s with heap := h', toks := tk } ∧ Fr h₀ L h' m' ∧ News h₀ L h' n' ∧ (∀ p ∈ led c', p ∈ n') ∧ (∀ y, m' y = mp c' y) ∧ k < n ∧ P k c'
theorem WEnd.intro {σ : Type} {mp : σ → Str → Option Value} {led : σ → List (Addr × Obj)} {P : Nat → σ → Prop} {n : Nat} {h₀ : Heap} {L : Addr} {s : Shared} {h' : Heap} {tk : Nat} {m' : Str → Option Value} {n' : List (Addr × Obj)} (c' : σ) (k : Nat)
    (F : Fr h₀ L h' m') (N : News h₀ L h' n') (hs : ∀ p ∈ led c', p ∈ n') (hm : ∀ y, m' y = mp c' y) (hk : k < n) (hp : P k c') : WEnd mp led P n h₀ L s .next { s with heap := h', toks := tk } :=
  ⟨rfl, h', tk, m', n', c', k, rfl, F, N, hs, hm, hk, hp⟩
section
variable {prog : Program} {w : World} {A : Around} {E : Value → Shared → Prop} {Q : Flow → Shared → Prop} {s : Shared} {env : Env} {h₀ : Heap} {L : Addr}
theorem While_J {σ : Type} {test : Expr} {body : List Stmt} {pos : Pos} {m₀ : Str → Option Value} {news : List (Addr × Obj)} (stored : List Str) (uf : σ → Str → Option Value) (led : σ → List (Addr × Obj)) (P : Nat → σ → Prop) (n₀ : Nat) (c₀ : σ)
    (F : Fr h₀ L s.heap m₀) (N : News h₀ L s.heap news) (hm₀ : ∀ y, m₀ y = offs stored (uf c₀) m₀ y) (hled : ∀ p ∈ led c₀, p ∈ news) (h0 : P n₀ c₀)
    (turn : ∀ n c h tk, P n c → Fr h₀ L h (offs stored (uf c) m₀) → News h₀ L h (led c) →
      wpAny (model prog w) A (isTrue test env (eval test env)) (fun b s₂ =>
        if b = true then wpAny (model prog w) A (execs body env) (WEnd (fun c => offs stored (uf c) m₀) led P n h₀ L s) E s₂ else Q .next s₂) E { s with heap := h, toks := tk })
    (hE : PassesOwn (model prog w) A env E := by passes_own) :
    wpAny (model prog w) A (exec (.While test body [] pos) env) Q E s := by
  have em₀ : m₀ = offs stored (uf c₀) m₀ := funext hm₀
  refine While_inv (L := L) (fun n m nw => ∃ c, m = offs stored (uf c) m₀ ∧ nw = led c ∧ P n c) F (fun p hp => N p (hled p hp)) ⟨c₀, em₀, rfl, h0⟩ ?_ hE
  rintro n m₁ news₁ h₁ tk₁ F₁ N₁ ⟨c, rfl, rfl, hP⟩
  refine wpAny_mono (turn n c h₁ tk₁ hP F₁ N₁) (fun b s₂ h₂ => ?_) fun _ _ e => e
  cases b with
  | false => exact h₂
  | true =>
    simp only [if_true] at h₂ ⊢
    refine wpAny_mono h₂ (fun f s₃ h₃ => ?_) fun _ _ e => e
    obtain ⟨rfl, h', tk, m', n', c', k, rfl, F', N', hs, hm, hk, hp⟩ := h₃
    have em : m' = offs stored (uf c') m₀ := funext hm
    exact WhileStep.intro (m₂ := m') (news₂ := led c') F' (fun p hp => N' p (hs p hp)) hk ⟨c', em, rfl, hp⟩
end
/-- plain: the turning's steps -/
noncomputable def itr (f : Nat → Nat) : Nat → Nat → Nat
  | 0, s => s
  | k + 1, s => f (itr f k s)
noncomputable def orbit (f : Nat → Nat) (s : Nat) : Nat → List Nat
  | 0 => []
  | k + 1 => orbit f s k ++ [itr f k s]
noncomputable def runR (f : Nat → Nat) (per : Nat → Nat) : Nat → (Nat → Bool) × List (List Nat)
  | 0 => (fun _ => false, [])
  | i + 1 => if (runR f per i).1 i = true then runR f per i else (fun z => (runR f per i).1 z || (orbit f i (per i)).contains z, (runR f per i).2 ++ [orbit f i (per i)])
/-- the register turned: size n, wires xs -/
noncomputable def nxt (n : Nat) (xs : List Int) (s : Nat) : Nat := s / 2 + ((s + (xs.getD (s / 2) 0).toNat) % 2) * 2 ^ (n - 1)
noncomputable def cnt (N : Nat) (S : Int → Bool) : Nat := ((List.range N).filter (fun z : Nat => S (z : Int))).length
theorem cnt_le (N : Nat) (S : Int → Bool) : cnt N S ≤ N := by
  have := List.length_filter_le (fun z : Nat => S (z : Int)) (List.range N)
  simpa [cnt] using this
theorem cnt_succ (S : Int → Bool) (N : Nat) : cnt (N + 1) S = cnt N S + (if S (N : Int) = true then 1 else 0) := by
  unfold cnt
  rw [List.range_succ, List.filter_append, List.length_append]
  cases h : S (N : Int)
  · rw [List.filter_cons_of_neg (by rw [h]; exact Bool.false_ne_true)]; rfl
  · rw [List.filter_cons_of_pos (by exact h)]; rfl
theorem cnt_ins (S : Int → Bool) (s : Nat) (N : Nat) : (cnt N fun z => S z || decide (z = (s : Int))) = cnt N S + (if s < N ∧ S s = false then 1 else 0) := by
  induction N with
  | zero => rw [if_neg (fun h => Nat.not_lt_zero _ h.1)]; rfl
  | succ N ih =>
    rw [cnt_succ, cnt_succ, ih]
    by_cases e : N = s
    · subst e
      rw [if_neg (fun h => Nat.lt_irrefl _ h.1), decide_eq_true rfl, Bool.or_true, if_pos rfl]
      cases hS : S (N : Int)
      · rw [if_neg Bool.false_ne_true, if_pos ⟨Nat.lt_succ_self N, rfl⟩]
      · rw [if_pos rfl, if_neg (fun h => Bool.false_ne_true h.2.symm)]
    · rw [decide_eq_false (p := (N : Int) = (s : Int)) (fun h => e (Int.ofNat.inj h)), Bool.or_false, Nat.add_right_comm]
      congr 2
      exact propext ⟨fun h => ⟨Nat.lt_succ_of_lt h.1, h.2⟩, fun h => ⟨Nat.lt_of_le_of_ne (Nat.le_of_lt_succ h.1) (fun x => e x.symm), h.2⟩⟩
end

section
theorem wtLN : True := by
  w_top off
  trivial
theorem bitXor_self (i : Nat) : Builtin.bitXor (i : Int) (i : Int) = 0 := PyProof.Rows.bitXor_self _
theorem bitXor_zero_eq : ∀ i : Nat, i < 64 → ∀ j : Nat, j < 64 → Builtin.bitXor (i : Int) (j : Int) = 0 → i = j := by decide +kernel
theorem contains_snoc (l : List Nat) (a z : Nat) : (l ++ [a]).contains z = (l.contains z || decide ((z : Int) = (a : Int))) := by
  rw [List.contains_eq_mem, List.contains_eq_mem]
  simp only [List.mem_append, List.mem_singleton, Bool.decide_or]
  congr 1
  exact decide_eq_decide.mpr (by omega)
theorem cnt_if (S : Int → Bool) (s N : Nat) (h : s < N) : (if S (s : Int) = true then cnt N S else cnt N S + 1) = cnt N (fun z => S z || decide (z = (s : Int))) := by
  rw [cnt_ins]
  cases e : S (s : Int) <;> simp [h]
theorem nxt_int (n : Nat) (e : Int) (he : e.toNat = n - 1) {xs : List Int} (hx : ∀ k ∈ xs, k = 0 ∨ k = 1) (s : Nat) :
    ((nxt n xs s : Nat) : Int) = (s : Int).fdiv 2 + ((s : Int) + xs.getD ((s : Int).fdiv 2).toNat 0).fmod 2 * 2 ^ e.toNat := by
  have e1 : (s : Int).fdiv 2 = ((s / 2 : Nat) : Int) := by rw [Int.fdiv_eq_ediv_of_nonneg _ (by decide)]; omega
  rw [e1, Int.toNat_natCast, he]
  have h01 : xs.getD (s / 2) 0 = 0 ∨ xs.getD (s / 2) 0 = 1 := by
    rw [List.getD_eq_getElem?_getD]
    cases h : xs[s / 2]? with
    | none => exact .inl rfl
    | some v => exact hx v (List.mem_of_getElem? h)
  unfold nxt
  generalize xs.getD (s / 2) 0 = v at h01
  have e2 : ((s : Int) + v).fmod 2 = (((s + v.toNat) % 2 : Nat) : Int) := by
    rw [Int.fmod_eq_emod_of_nonneg _ (by decide)]
    rcases h01 with rfl | rfl <;> simp
  rw [e2]
  simp
end

section
theorem wtPL : True := by
  w_top off
  trivial
/-- plain: orbits, periods, rings -/
structure PermOn (f : Nat → Nat) (N : Nat) : Prop where
  lt : ∀ s, s < N → f s < N
  inj : ∀ s t, s < N → t < N → f s = f t → s = t
theorem itr_ltP {f : Nat → Nat} {N s : Nat} (h : PermOn f N) (hs : s < N) : ∀ k, itr f k s < N
  | 0 => hs
  | k + 1 => h.lt _ (itr_ltP h hs k)
theorem itr_add (f : Nat → Nat) (m s : Nat) : ∀ k, itr f (k + m) s = itr f k (itr f m s)
  | 0 => by rw [Nat.zero_add]; rfl
  | k + 1 => by
    rw [Nat.succ_add]
    show f (itr f (k + m) s) = f (itr f k (itr f m s))
    rw [itr_add f m s k]
theorem itr_mul {f : Nat → Nat} {p s : Nat} (h : itr f p s = s) : ∀ q, itr f (q * p) s = s
  | 0 => by rw [Nat.zero_mul]; rfl
  | q + 1 => by rw [Nat.succ_mul, itr_add, h, itr_mul h q]
theorem itr_back {f : Nat → Nat} {p s : Nat} (hp : 0 < p) (h : itr f p s = s) (k : Nat) : ∃ m, itr f m (itr f k s) = s :=
  ⟨k * p - k, by rw [← itr_add, Nat.sub_add_cancel (Nat.le_mul_of_pos_right k hp), itr_mul h]⟩
theorem itr_cancel {f : Nat → Nat} {N : Nat} (h : PermOn f N) : ∀ (j : Nat) {a b : Nat}, a < N → b < N → itr f j a = itr f j b → a = b
  | 0, _, _, _, _, e => e
  | j + 1, _, _, ha, hb, e => itr_cancel h j ha hb (h.inj _ _ (itr_ltP h ha j) (itr_ltP h hb j) e)
theorem mem_orbit {f : Nat → Nat} {s z : Nat} : ∀ {k : Nat}, z ∈ orbit f s k ↔ ∃ j, j < k ∧ z = itr f j s
  | 0 => ⟨fun h => (nomatch h), fun ⟨_, h, _⟩ => absurd h (Nat.not_lt_zero _)⟩
  | k + 1 => by
    show z ∈ orbit f s k ++ [itr f k s] ↔ _
    rw [List.mem_append, List.mem_singleton, mem_orbit]
    constructor
    · rintro (⟨j, h, e⟩ | e)
      · exact ⟨j, Nat.lt_succ_of_lt h, e⟩
      · exact ⟨k, Nat.lt_succ_self k, e⟩
    · rintro ⟨j, h, e⟩
      by_cases hj : j = k
      · subst hj; exact .inr e
      · exact .inl ⟨j, Nat.lt_of_le_of_ne (Nat.le_of_lt_succ h) hj, e⟩
theorem orbit_length (f : Nat → Nat) (s : Nat) : ∀ k, (orbit f s k).length = k
  | 0 => rfl
  | k + 1 => by
    show (orbit f s k ++ [itr f k s]).length = _
    rw [List.length_append, orbit_length f s k]; rfl
theorem orbit_nodup {f : Nat → Nat} {N s : Nat} (h : PermOn f N) (hs : s < N) {k : Nat} : (∀ j, 0 < j → j < k → itr f j s ≠ s) → (orbit f s k).Nodup := by
  induction k with
  | zero => exact fun _ => List.nodup_nil
  | succ k ih =>
    intro hk
    show (orbit f s k ++ [itr f k s]).Nodup
    rw [List.nodup_append]
    refine ⟨ih fun j h1 h2 => hk j h1 (Nat.lt_succ_of_lt h2), List.pairwise_singleton _ _, ?_⟩
    intro a ha b hb e
    rw [List.mem_singleton] at hb
    obtain ⟨j, hj, rfl⟩ := mem_orbit.mp ha
    subst hb
    refine hk (k - j) (Nat.sub_pos_of_lt hj) (Nat.lt_succ_of_le (Nat.sub_le k j)) ?_
    have e2 : itr f k s = itr f j (itr f (k - j) s) := by rw [← itr_add, Nat.add_sub_cancel' (Nat.le_of_lt hj)]
    rw [e2] at e
    exact (itr_cancel h j hs (itr_ltP h hs _) e).symm
theorem pigeon (N : Nat) : ∀ l : List Nat, l.Nodup → (∀ z ∈ l, z < N) → l.length ≤ N := by
  induction N with
  | zero => exact fun l _ h => (match l, h with | [], _ => Nat.le_refl _ | z :: _, h => absurd (h z (.head _)) (Nat.not_lt_zero _))
  | succ N ih =>
    intro l hn h
    have h1 := ih (l.erase N) (hn.erase N) (fun z hz => Nat.lt_of_le_of_ne (Nat.le_of_lt_succ (h z (List.mem_of_mem_erase hz))) fun e => by subst e; exact (hn.not_mem_erase) hz)
    rw [List.length_erase] at h1
    split at h1
    · exact Nat.le_succ_of_pred_le h1
    · exact Nat.le_succ_of_le h1
theorem least (P : Nat → Prop) (N : Nat) : (∃ j, 0 < j ∧ j ≤ N ∧ P j) → ∃ p, 0 < p ∧ p ≤ N ∧ P p ∧ ∀ j, 0 < j → j < p → ¬ P j := by
  induction N with
  | zero => exact fun ⟨_, h1, h2, _⟩ => absurd h1 (Nat.not_lt_of_le h2)
  | succ N ih =>
    intro ⟨j, h1, h2, h3⟩
    by_cases h : ∃ j, 0 < j ∧ j ≤ N ∧ P j
    · obtain ⟨p, a, b, c⟩ := ih h
      exact ⟨p, a, Nat.le_succ_of_le b, c⟩
    · exact ⟨j, h1, h2, h3, fun i hi hj hP => h ⟨i, hi, Nat.le_of_lt_succ (Nat.lt_of_lt_of_le hj h2), hP⟩⟩
theorem per_one {f : Nat → Nat} {N s : Nat} (h : PermOn f N) (hs : s < N) : ∃ p, 0 < p ∧ p ≤ N ∧ itr f p s = s ∧ ∀ j, 0 < j → j < p → itr f j s ≠ s := by
  refine least (fun p => itr f p s = s) N ?_
  by_cases hh : ∃ j, 0 < j ∧ j ≤ N ∧ itr f j s = s
  · exact hh
  · have h1 : (orbit f s (N + 1)).Nodup := orbit_nodup h hs fun j a b c => hh ⟨j, a, Nat.le_of_lt_succ b, c⟩
    have h2 := pigeon N _ h1 (fun z hz => by obtain ⟨j, _, rfl⟩ := mem_orbit.mp hz; exact itr_ltP h hs j)
    rw [orbit_length] at h2
    exact absurd h2 (Nat.not_succ_le_self N)
noncomputable def PerOk (f : Nat → Nat) (N : Nat) (per : Nat → Nat) : Prop := ∀ s, s < N → 0 < per s ∧ per s ≤ N ∧ itr f (per s) s = s ∧ ∀ j, 0 < j → j < per s → itr f j s ≠ s
theorem per_ex {f : Nat → Nat} {N : Nat} (h : PermOn f N) : ∃ per, PerOk f N per := by
  have : ∀ s, ∃ p, s < N → 0 < p ∧ p ≤ N ∧ itr f p s = s ∧ ∀ j, 0 < j → j < p → itr f j s ≠ s := fun s => by
    by_cases hs : s < N
    · obtain ⟨p, hp⟩ := per_one h hs
      exact ⟨p, fun _ => hp⟩
    · exact ⟨0, fun h => absurd h hs⟩
  obtain ⟨g, hg⟩ := Classical.axiomOfChoice this
  exact ⟨g, hg⟩
structure RunOk (f : Nat → Nat) (per : Nat → Nat) (N i : Nat) : Prop where
  met : ∀ z, (runR f per i).1 z = true ↔ z ∈ (runR f per i).2.flatten
  nod : (runR f per i).2.flatten.Nodup
  clo : ∀ z ∈ (runR f per i).2.flatten, f z ∈ (runR f per i).2.flatten
  all : ∀ j, j < i → j ∈ (runR f per i).2.flatten
  lt : ∀ z ∈ (runR f per i).2.flatten, z < N
  orb : ∀ r ∈ (runR f per i).2, ∃ j, j < i ∧ j < N ∧ r = orbit f j (per j)
theorem RunOk.itr {f : Nat → Nat} {per : Nat → Nat} {N i : Nat} (h : RunOk f per N i) {z : Nat} (hz : z ∈ (runR f per i).2.flatten) : ∀ k, itr f k z ∈ (runR f per i).2.flatten
  | 0 => hz
  | k + 1 => h.clo _ (h.itr hz k)
theorem runOk {f : Nat → Nat} {per : Nat → Nat} {N : Nat} (h : PermOn f N) (hp : PerOk f N per) (i : Nat) : i ≤ N → RunOk f per N i := by
  induction i with
  | zero => exact fun _ => ⟨fun z => ⟨fun h => (by cases h), fun h => (by cases h)⟩, .nil, fun _ h => (by cases h), fun j hj => absurd hj (Nat.not_lt_zero _), fun _ h => (by cases h), fun _ h => (by cases h)⟩
  | succ i I =>
    intro hi
    have I := I (Nat.le_of_succ_le hi)
    have hiN : i < N := hi
    obtain ⟨p1, p2, p3, p4⟩ := hp i hiN
    by_cases hm : (runR f per i).1 i = true
    · have e : runR f per (i + 1) = runR f per i := by show (if (runR f per i).1 i = true then _ else _) = _; rw [if_pos hm]
      refine ⟨by rw [e]; exact I.met, by rw [e]; exact I.nod, by rw [e]; exact I.clo, ?_, by rw [e]; exact I.lt, ?_⟩
      · intro j hj
        rw [e]
        by_cases hji : j = i
        · subst hji; exact (I.met _).mp hm
        · exact I.all j (Nat.lt_of_le_of_ne (Nat.le_of_lt_succ hj) hji)
      · intro r hr
        rw [e] at hr
        obtain ⟨j, a, b, c⟩ := I.orb r hr
        exact ⟨j, Nat.lt_succ_of_lt a, b, c⟩
    · have e : runR f per (i + 1) = (fun z => (runR f per i).1 z || (orbit f i (per i)).contains z, (runR f per i).2 ++ [orbit f i (per i)]) := by show (if (runR f per i).1 i = true then _ else _) = _; rw [if_neg hm]
      have ef : (runR f per (i + 1)).2.flatten = (runR f per i).2.flatten ++ orbit f i (per i) := by rw [e]; simp
      have hni : i ∉ (runR f per i).2.flatten := fun hh => hm ((I.met _).mpr hh)
      have e1 : (runR f per (i + 1)).1 = (fun z => (runR f per i).1 z || (orbit f i (per i)).contains z) := by rw [e]
      have e2 : (runR f per (i + 1)).2 = (runR f per i).2 ++ [orbit f i (per i)] := by rw [e]
      refine ⟨?_, ?_, ?_, ?_, ?_, ?_⟩
      · intro z
        rw [ef, e1, List.mem_append, ← I.met z]
        simp only [Bool.or_eq_true, List.contains_iff_mem]
      · rw [ef, List.nodup_append]
        refine ⟨I.nod, orbit_nodup h hiN p4, ?_⟩
        intro a ha b hb hab
        subst hab
        obtain ⟨j, hj, rfl⟩ := mem_orbit.mp hb
        have := I.itr ha (per i - j)
        rw [← itr_add, Nat.sub_add_cancel (Nat.le_of_lt hj), p3] at this
        exact hni this
      · intro z hz
        rw [ef, List.mem_append] at hz ⊢
        rcases hz with hz | hz
        · exact .inl (I.clo z hz)
        · right
          obtain ⟨j, hj, rfl⟩ := mem_orbit.mp hz
          by_cases hjp : j + 1 = per i
          · refine mem_orbit.mpr ⟨0, p1, ?_⟩
            show Mine.itr f (j + 1) i = i
            rw [hjp]; exact p3
          · exact mem_orbit.mpr ⟨j + 1, Nat.lt_of_le_of_ne hj hjp, rfl⟩
      · intro j hj
        rw [ef, List.mem_append]
        by_cases hji : j = i
        · subst hji; exact .inr (mem_orbit.mpr ⟨0, p1, rfl⟩)
        · exact .inl (I.all j (Nat.lt_of_le_of_ne (Nat.le_of_lt_succ hj) hji))
      · intro z hz
        rw [ef, List.mem_append] at hz
        rcases hz with hz | hz
        · exact I.lt z hz
        · obtain ⟨j, hj, rfl⟩ := mem_orbit.mp hz
          exact itr_ltP h hiN j
      · intro r hr
        rw [e2, List.mem_append, List.mem_singleton] at hr
        rcases hr with hr | hr
        · obtain ⟨j, a, b, c⟩ := I.orb r hr
          exact ⟨j, Nat.lt_succ_of_lt a, b, c⟩
        · exact ⟨i, Nat.lt_succ_self _, hiN, hr⟩
/-- the rings hold every state once -/
theorem rings_count {f : Nat → Nat} {per : Nat → Nat} {N : Nat} (h : PermOn f N) (hp : PerOk f N per) (q : Nat → Bool) :
    ((runR f per N).2.map (fun r => r.countP q)).sum = (List.range N).countP q := by
  have I := runOk h hp N (Nat.le_refl _)
  have hperm : (runR f per N).2.flatten.Perm (List.range N) := by
    rw [List.perm_ext_iff_of_nodup I.nod List.nodup_range]
    intro a
    rw [List.mem_range]
    exact ⟨I.lt a, I.all a⟩
  rw [← hperm.countP_eq, List.countP_flatten]
/-- a cycle's least -/
noncomputable def Least (f : Nat → Nat) (s : Nat) : Prop := ∀ k, s ≤ itr f k s
open Classical in
noncomputable def cmin (f : Nat → Nat) (N : Nat) : Nat := (List.range N).countP (fun s => decide (Least f s))
open Classical in
theorem cmin_runR {f : Nat → Nat} {per : Nat → Nat} {N : Nat} (h : PermOn f N) (hp : PerOk f N per) (i : Nat) : i ≤ N → (runR f per i).2.length = cmin f i := by
  induction i with
  | zero => exact fun _ => rfl
  | succ i ih =>
    intro hi
    have I := runOk h hp i (Nat.le_of_succ_le hi)
    obtain ⟨p1, p2, p3, p4⟩ := hp i hi
    have ih := ih (Nat.le_of_succ_le hi)
    have key : (runR f per i).1 i = true ↔ ¬ Least f i := by
      rw [I.met]
      constructor
      · intro hm hl
        obtain ⟨r, hr, hir⟩ := List.mem_flatten.mp hm
        obtain ⟨j, hj, hjN, rfl⟩ := I.orb r hr
        obtain ⟨k, _, hk⟩ := mem_orbit.mp hir
        obtain ⟨q1, _, q3, _⟩ := hp j hjN
        obtain ⟨m, hm⟩ := itr_back q1 q3 k
        rw [← hk] at hm
        exact absurd hj (Nat.not_lt_of_le (hm ▸ hl m))
      · intro hl
        have : ∃ k, itr f k i < i := by
          by_cases hh : ∃ k, itr f k i < i
          · exact hh
          · exact absurd (fun k => Nat.le_of_not_lt fun hk => hh ⟨k, hk⟩) hl
        obtain ⟨k, hk⟩ := this
        obtain ⟨m, hm⟩ := itr_back p1 p3 k
        have := I.itr (I.all _ hk) m
        rw [hm] at this
        exact this
    unfold cmin at ih ⊢
    rw [List.range_succ, List.countP_append, ← ih]
    by_cases hm : (runR f per i).1 i = true
    · have e : runR f per (i + 1) = runR f per i := by show (if (runR f per i).1 i = true then _ else _) = _; rw [if_pos hm]
      rw [e]
      simp [key.mp hm]
    · have e2 : (runR f per (i + 1)).2 = (runR f per i).2 ++ [orbit f i (per i)] := by
        show (if (runR f per i).1 i = true then _ else _ : (Nat → Bool) × List (List Nat)).2 = _
        rw [if_neg hm]
      have hl : Least f i := by
        by_cases hl : Least f i
        · exact hl
        · exact absurd (key.mpr hl) hm
      rw [e2]
      simp [hl]
/-- a place taken out of a turning -/
noncomputable def rem (f : Nat → Nat) (N s : Nat) : Nat := if f s = N then f N else f s
theorem rem_perm {f : Nat → Nat} {N : Nat} (h : PermOn f (N + 1)) : PermOn (rem f N) N := by
  constructor
  · intro s hs
    unfold rem
    split
    · rename_i e
      exact Nat.lt_of_le_of_ne (Nat.le_of_lt_succ (h.lt N (Nat.lt_succ_self N))) fun e2 => Nat.ne_of_lt hs (h.inj s N (Nat.lt_succ_of_lt hs) (Nat.lt_succ_self N) (e.trans e2.symm))
    · rename_i e
      exact Nat.lt_of_le_of_ne (Nat.le_of_lt_succ (h.lt s (Nat.lt_succ_of_lt hs))) e
  · intro s t hs ht
    unfold rem
    split <;> split <;> intro e
    · rename_i e1 e2
      exact h.inj s t (Nat.lt_succ_of_lt hs) (Nat.lt_succ_of_lt ht) (e1.trans e2.symm)
    · exact absurd (h.inj N t (Nat.lt_succ_self N) (Nat.lt_succ_of_lt ht) e) (Nat.ne_of_gt ht)
    · exact absurd (h.inj s N (Nat.lt_succ_of_lt hs) (Nat.lt_succ_self N) e) (Nat.ne_of_lt hs)
    · exact h.inj s t (Nat.lt_succ_of_lt hs) (Nat.lt_succ_of_lt ht) e
theorem rem_itr {f : Nat → Nat} {N s : Nat} : ∀ k, ∃ m, itr (rem f N) k s = itr f m s
  | 0 => ⟨0, rfl⟩
  | k + 1 => by
    obtain ⟨m, hm⟩ := rem_itr (f := f) (N := N) (s := s) k
    show ∃ m, rem f N (itr (rem f N) k s) = _
    rw [hm]
    unfold rem
    split
    · rename_i e
      exact ⟨m + 2, by show _ = f (f (itr f m s)); rw [e]⟩
    · exact ⟨m + 1, rfl⟩
theorem itr_rem {f : Nat → Nat} {N s : Nat} (hs : s < N) : ∀ k, (itr f k s = N ∧ (f N = N ∨ ∃ m, f N = itr (rem f N) m s)) ∨ ∃ m, itr f k s = itr (rem f N) m s
  | 0 => .inr ⟨0, rfl⟩
  | k + 1 => by
    show (f (itr f k s) = N ∧ _) ∨ ∃ m, f (itr f k s) = _
    rcases itr_rem (f := f) hs k with ⟨e, h | ⟨m, h⟩⟩ | ⟨m, h⟩
    · rw [e]; exact .inl ⟨h, .inl h⟩
    · rw [e]; exact .inr ⟨m, h⟩
    · rw [h]
      by_cases e : f (itr (rem f N) m s) = N
      · exact .inl ⟨e, .inr ⟨m + 1, (if_pos e : rem f N (itr (rem f N) m s) = f N).symm⟩⟩
      · exact .inr ⟨m + 1, (if_neg e : rem f N (itr (rem f N) m s) = _).symm⟩
theorem least_rem {f : Nat → Nat} {N s : Nat} (hs : s < N) : Least f s ↔ Least (rem f N) s := by
  constructor
  · intro h k
    obtain ⟨m, hm⟩ := rem_itr (f := f) (N := N) (s := s) k
    rw [hm]; exact h m
  · intro h k
    rcases itr_rem (f := f) hs k with ⟨e, _⟩ | ⟨m, e⟩
    · rw [e]; omega
    · rw [e]; exact h m
theorem least_top {f : Nat → Nat} {N : Nat} (h : PermOn f (N + 1)) : Least f N ↔ f N = N := by
  constructor
  · intro hl
    exact Nat.le_antisymm (Nat.le_of_lt_succ (h.lt N (Nat.lt_succ_self N))) (hl 1)
  · intro e k
    have : itr f k N = N := by
      have := itr_mul (f := f) (p := 1) (s := N) e k
      rwa [Nat.mul_one] at this
    exact Nat.le_of_eq this.symm
open Classical in
theorem cmin_succ {f : Nat → Nat} {N : Nat} (h : PermOn f (N + 1)) : cmin f (N + 1) = cmin (rem f N) N + (if f N = N then 1 else 0) := by
  unfold cmin
  rw [List.range_succ, List.countP_append]
  congr 1
  · apply List.countP_congr
    intro s hs
    rw [List.mem_range] at hs
    simp only [decide_eq_true_eq]
    exact least_rem hs
  · have := least_top h
    by_cases e : f N = N
    · simp [e, this.mpr e]
    · have hn : ¬ Least f N := fun hl => e (this.mp hl)
      simp [e, hn]
theorem itr_congr {f g : Nat → Nat} {N s : Nat} (h : PermOn f N) (hs : s < N) (e : ∀ z, z < N → f z = g z) : ∀ k, itr f k s = itr g k s
  | 0 => rfl
  | k + 1 => by
    show f (itr f k s) = g (itr g k s)
    rw [← itr_congr h hs e k]; exact e _ (itr_ltP h hs k)
open Classical in
theorem cmin_congr {f g : Nat → Nat} {N : Nat} (h : PermOn f N) (e : ∀ z, z < N → f z = g z) : cmin f N = cmin g N := by
  unfold cmin
  apply List.countP_congr
  intro s hs
  rw [List.mem_range] at hs
  simp only [decide_eq_true_eq]
  unfold Least
  constructor
  · intro hl k; rw [← itr_congr h hs e k]; exact hl k
  · intro hl k; rw [itr_congr h hs e k]; exact hl k
structure Swapped (f g : Nat → Nat) (a b N : Nat) : Prop where
  ab : g a = f b
  ba : g b = f a
  els : ∀ s, s < N → s ≠ a → s ≠ b → g s = f s
theorem Swapped.symm {f g : Nat → Nat} {a b N : Nat} (h : Swapped f g a b N) : Swapped g f a b N := ⟨h.ba.symm, h.ab.symm, fun s h1 h2 h3 => (h.els s h1 h2 h3).symm⟩
theorem Swapped.flip {f g : Nat → Nat} {a b N : Nat} (h : Swapped f g a b N) : Swapped f g b a N := ⟨h.ba, h.ab, fun s h1 h2 h3 => h.els s h1 h3 h2⟩
theorem odd_l (x : Nat) : (x + 1 + (x + 0)) % 2 = 1 := by omega
theorem odd_r (x : Nat) : (x + 0 + (x + 1)) % 2 = 1 := by omega
theorem odd_b {x y : Nat} (z : Nat) (h : (x + y) % 2 = 1) : (x + z + (y + z)) % 2 = 1 := by omega
theorem swap_par (N : Nat) : ∀ (f g : Nat → Nat) (a b : Nat), PermOn f N → PermOn g N → a < b → b < N → Swapped f g a b N → (cmin f N + cmin g N) % 2 = 1 := by
  induction N with
  | zero => exact fun _ _ _ _ _ _ _ hb _ => absurd hb (Nat.not_lt_zero _)
  | succ N IH =>
    intro f g a b hf hg hab hb hs
    rw [cmin_succ hf, cmin_succ hg]
    by_cases hbN : b = N
    · subst hbN
      have h1 := hs.ab
      have h2 := hs.ba
      have ha := Nat.lt_succ_of_lt hab
      have hn := Nat.ne_of_lt hab
      by_cases c1 : f b = b
      · -- b alone in f
        have fz : ∀ z, z < b → f z ≠ b := fun z hz e => Nat.ne_of_lt hz (hf.inj z b (Nat.lt_succ_of_lt hz) hb (e.trans c1.symm))
        have gb : g b ≠ b := h2 ▸ fz a hab
        have e : cmin (rem f b) b = cmin (rem g b) b := by
          refine cmin_congr (rem_perm hf) fun z hz => ?_
          have f1 := fz z hz
          unfold rem
          by_cases hza : z = a
          · subst hza
            rw [if_neg f1, h1, if_pos c1, h2]
          · rw [hs.els z (Nat.lt_succ_of_lt hz) hza (Nat.ne_of_lt hz), if_neg f1, if_neg f1]
        rw [e, if_pos c1, if_neg gb]; exact odd_l _
      · by_cases c2 : f a = b
        · have gb : g b = b := h2.trans c2
          have e : cmin (rem f b) b = cmin (rem g b) b := by
            refine cmin_congr (rem_perm hf) fun z hz => ?_
            have gz : g z ≠ b := fun e => Nat.ne_of_lt hz (hg.inj z b (Nat.lt_succ_of_lt hz) hb (e.trans gb.symm))
            unfold rem
            by_cases hza : z = a
            · subst hza
              rw [if_neg gz, if_pos c2, h1]
            · have f1 : f z ≠ b := fun e => hza (hf.inj z a (Nat.lt_succ_of_lt hz) ha (e.trans c2.symm))
              rw [if_neg gz, hs.els z (Nat.lt_succ_of_lt hz) hza (Nat.ne_of_lt hz), if_neg f1]
          rw [e, if_neg c1, if_pos gb]; exact odd_r _
        · have gb : g b ≠ b := h2 ▸ c2
          -- the one that goes to b
          obtain ⟨c, hc1, hc2⟩ : ∃ c, c < b + 1 ∧ f c = b := by
            obtain ⟨p, p1, _, p3, _⟩ := per_one hf hb
            cases p with
            | zero => exact absurd p1 (Nat.lt_irrefl _)
            | succ q => exact ⟨itr f q b, itr_ltP hf hb q, p3⟩
          have hca : c ≠ a := fun e => c2 (e ▸ hc2)
          have hcb : c ≠ b := fun e => c1 (e ▸ hc2 : f b = b)
          have hcl : c < b := Nat.lt_of_le_of_ne (Nat.le_of_lt_succ hc1) hcb
          have gc : g c = b := (hs.els c hc1 hca hcb).trans hc2
          have ga : g a ≠ b := h1 ▸ c1
          have sw : Swapped (rem f b) (rem g b) a c b := by
            refine ⟨?_, ?_, fun z hz hza hzc => ?_⟩ <;> unfold rem
            · rw [if_neg ga, if_pos hc2, h1]
            · rw [if_pos gc, if_neg c2, h2]
            · have f1 : f z ≠ b := fun e => hzc (hf.inj z c (Nat.lt_succ_of_lt hz) hc1 (e.trans hc2.symm))
              rw [hs.els z (Nat.lt_succ_of_lt hz) hza (Nat.ne_of_lt hz), if_neg f1, if_neg f1]
          have ih : (cmin (rem f b) b + cmin (rem g b) b) % 2 = 1 := by
            rcases Nat.lt_or_gt_of_ne hca with h | h
            · exact IH _ _ c a (rem_perm hf) (rem_perm hg) h hab sw.flip
            · exact IH _ _ a c (rem_perm hf) (rem_perm hg) h hcl sw
          rw [if_neg c1, if_neg gb]; exact ih
    · have hbl : b < N := Nat.lt_of_le_of_ne (Nat.le_of_lt_succ hb) hbN
      have gN : g N = f N := hs.els N (Nat.lt_succ_self _) (Nat.ne_of_gt (Nat.lt_trans hab hbl)) (Nat.ne_of_gt hbl)
      have sw : Swapped (rem f N) (rem g N) a b N := by
        refine ⟨?_, ?_, fun z hz hza hzb => ?_⟩ <;> unfold rem
        · rw [hs.ab, gN]
        · rw [hs.ba, gN]
        · rw [hs.els z (Nat.lt_succ_of_lt hz) hza hzb, gN]
      have ih := IH _ _ a b (rem_perm hf) (rem_perm hg) hab hbl sw
      rw [gN]; exact odd_b _ ih
theorem bit_le {a b M : Nat} (h : a < M) (hb : b < 2) : a + b * M < 2 * M := by
  rcases Nat.lt_succ_iff_lt_or_eq.mp hb with h1 | h1
  · rw [Nat.lt_one_iff.mp h1, Nat.zero_mul, Nat.two_mul]; exact Nat.lt_of_lt_of_le h (Nat.le_add_left _ _)
  · rw [h1, Nat.one_mul, Nat.two_mul]; exact Nat.add_lt_add_right h _
theorem bit_eq {a b x y M : Nat} (h : a < M) (hb : b < M) (e : a + x * M = b + y * M) : a = b ∧ x = y := by
  have hM : 0 < M := Nat.lt_of_le_of_lt (Nat.zero_le _) h
  have m : (a + x * M) % M = (b + y * M) % M := congrArg (· % M) e
  have d : (a + x * M) / M = (b + y * M) / M := congrArg (· / M) e
  rw [Nat.add_mul_mod_self_right, Nat.add_mul_mod_self_right, Nat.mod_eq_of_lt h, Nat.mod_eq_of_lt hb] at m
  rw [Nat.add_mul_div_right _ _ hM, Nat.add_mul_div_right _ _ hM, Nat.div_eq_of_lt h, Nat.div_eq_of_lt hb, Nat.zero_add, Nat.zero_add] at d
  exact ⟨m, d⟩
theorem half_eq {s t v : Nat} (h : s / 2 = t / 2) (e : (s + v) % 2 = (t + v) % 2) : s = t := by omega
theorem nxt_perm (n : Nat) (xs : List Int) : PermOn (nxt n xs) (2 * 2 ^ (n - 1)) := by
  constructor
  · exact fun s hs => bit_le (Nat.div_lt_of_lt_mul hs) (Nat.mod_lt _ (by decide))
  · intro s t hs ht e
    obtain ⟨h, e2⟩ := bit_eq (Nat.div_lt_of_lt_mul hs) (Nat.div_lt_of_lt_mul ht) e
    rw [h] at e2
    exact half_eq h e2
theorem nxt_perm5 (xs : List Int) : PermOn (nxt 5 xs) 32 := nxt_perm 5 xs
theorem nxt_perm6 (xs : List Int) : PermOn (nxt 6 xs) 64 := nxt_perm 6 xs
theorem nxt_form (n : Nat) (xs : List Int) (s : Nat) : ∃ b, b < 2 ∧ nxt n xs s = s / 2 + b * 2 ^ (n - 1) := ⟨_, Nat.mod_lt _ (by decide), rfl⟩
theorem least_per {f : Nat → Nat} {p s : Nat} (hp : 0 < p) (h : itr f p s = s) : Least f s ↔ ∀ k, k < p → s ≤ itr f k s := by
  constructor
  · exact fun hl k _ => hl k
  · intro hl k
    have e : itr f k s = itr f (k % p) s := by
      have : k = k % p + k / p * p := by rw [Nat.mul_comm]; exact (Nat.mod_add_div k p).symm
      conv => lhs; rw [this]
      rw [itr_add, itr_mul h]
    rw [e]; exact hl _ (Nat.mod_lt _ hp)
open Classical in
theorem cmin_per {f : Nat → Nat} {p N : Nat} (hp : 0 < p) (h : ∀ s, s < N → itr f p s = s) : cmin f N = (List.range N).countP (fun s => (List.range p).all fun k => decide (s ≤ itr f k s)) := by
  unfold cmin
  apply List.countP_congr
  intro s hs
  rw [List.mem_range] at hs
  rw [decide_eq_true_eq, least_per hp (h s hs), List.all_eq_true]
  simp only [List.mem_range, decide_eq_true_eq]
theorem cmin5 : cmin (nxt 5 []) 32 = 8 := by
  rw [cmin_per (p := 5) (by decide) (by decide +kernel)]
  decide +kernel
theorem cmin6 : cmin (nxt 6 []) 64 = 14 := by
  rw [cmin_per (p := 6) (by decide) (by decide +kernel)]
  decide +kernel
theorem getD_take (xs : List Int) (j k : Nat) : (xs.take j).getD k 0 = if k < j then xs.getD k 0 else 0 := by
  rw [List.getD_eq_getElem?_getD, List.getElem?_take]
  split
  · rw [List.getD_eq_getElem?_getD]
  · rfl
theorem take_succ_one (xs : List Int) (j : Nat) (hj : j < xs.length) : (xs.take (j + 1)).countP (· == 1) = (xs.take j).countP (· == 1) + (if xs.getD j 0 = 1 then 1 else 0) := by
  rw [List.take_add_one, List.countP_append, List.getD_eq_getElem?_getD, List.getElem?_eq_getElem hj]
  simp [List.countP_cons]
theorem nxt_at {n j r v : Nat} {ys : List Int} (hr : r < 2) (hv : (ys.getD j 0).toNat = v) : nxt n ys (2 * j + r) = j + ((r + v) % 2) * 2 ^ (n - 1) := by
  have e1 : (2 * j + r) / 2 = j := by rw [Nat.mul_add_div (by decide), Nat.div_eq_of_lt hr]; rfl
  unfold nxt
  rw [e1, hv, Nat.add_assoc, Nat.mul_add_mod]
theorem half_ne {s j : Nat} (h1 : s ≠ 2 * j) (h2 : s ≠ 2 * j + 1) : s / 2 ≠ j := by omega
theorem odd_even (x : Nat) : (x + x) % 2 = 0 := by rw [← Nat.two_mul, Nat.mul_mod_right]
theorem odd_1 {a b c : Nat} (h : (a + b) % 2 = 0) (e : (c + a) % 2 = 1) : (c + (b + 1)) % 2 = 0 := by omega
theorem odd_0 {a b c : Nat} (h : (a + b) % 2 = 0) (e : (c + a) % 2 = 0) : (c + (b + 0)) % 2 = 0 := by omega
theorem wires_step (n N : Nat) (hN : ∀ xs : List Int, PermOn (nxt n xs) N) (xs : List Int) (h01 : ∀ k ∈ xs, k = 0 ∨ k = 1) (j : Nat) (hj : j < xs.length) (hjN : 2 * j + 1 < N) :
    (cmin (nxt n (xs.take (j + 1))) N + cmin (nxt n (xs.take j)) N) % 2 = if xs.getD j 0 = 1 then 1 else 0 := by
  have hz : xs.getD j 0 = 0 ∨ xs.getD j 0 = 1 := by
    rw [List.getD_eq_getElem?_getD, List.getElem?_eq_getElem hj]
    exact h01 _ (List.getElem_mem hj)
  have gt : ∀ k, k ≠ j → (xs.take (j + 1)).getD k 0 = (xs.take j).getD k 0 := fun k hk => by
    rw [getD_take, getD_take]
    by_cases h : k < j
    · rw [if_pos h, if_pos (Nat.lt_succ_of_lt h)]
    · rw [if_neg h, if_neg fun h2 => h (Nat.lt_of_le_of_ne (Nat.le_of_lt_succ h2) hk)]
  have hel : ∀ s, (xs.take (j + 1)).getD (s / 2) 0 = (xs.take j).getD (s / 2) 0 → nxt n (xs.take (j + 1)) s = nxt n (xs.take j) s := fun s e => by
    unfold nxt; rw [e]
  have g1 : (xs.take (j + 1)).getD j 0 = xs.getD j 0 := by rw [getD_take, if_pos (Nat.lt_succ_self _)]
  have g0 : (xs.take j).getD j 0 = 0 := by rw [getD_take, if_neg (Nat.lt_irrefl _)]
  rcases hz with hz | hz
  · rw [cmin_congr (hN _) (g := nxt n (xs.take j)) fun s _ => hel s (if h : s / 2 = j then (by rw [h, g1, hz, g0]) else gt _ h), hz, if_neg (by decide)]
    exact odd_even _
  · rw [hz, if_pos rfl]
    have t1 : ((xs.take (j + 1)).getD j 0).toNat = 1 := by rw [g1, hz]; rfl
    have t0 : ((xs.take j).getD j 0).toNat = 0 := by rw [g0]; rfl
    rw [Nat.add_comm]
    exact swap_par N _ _ (2 * j) (2 * j + 1) (hN _) (hN _) (Nat.lt_succ_self _) hjN ⟨(nxt_at (r := 0) (by decide) t1).trans (nxt_at (r := 1) (by decide) t0).symm,
      (nxt_at (r := 1) (by decide) t1).trans (nxt_at (r := 0) (by decide) t0).symm, fun s _ h1 h2 => hel s (gt _ (half_ne h1 h2))⟩
theorem wires_par (n N : Nat) (hN : ∀ xs : List Int, PermOn (nxt n xs) N) (hb : cmin (nxt n []) N % 2 = 0) (xs : List Int) (h01 : ∀ k ∈ xs, k = 0 ∨ k = 1) (hl : 2 * xs.length = N) (j : Nat) : j ≤ xs.length → (cmin (nxt n (xs.take j)) N + (xs.take j).countP (· == 1)) % 2 = 0 := by
  induction j with
  | zero => intro _; rw [List.take_zero]; exact hb
  | succ j ih =>
    intro hj
    have ih := ih (Nat.le_of_succ_le hj)
    have st := wires_step n N hN xs h01 j hj (hl ▸ Nat.mul_le_mul_left 2 hj)
    rw [take_succ_one xs j hj]
    split at st
    · rename_i h; rw [if_pos h]; exact odd_1 ih st
    · rename_i h; rw [if_neg h]; exact odd_0 ih st
/-- the parity: rings and wires -/
theorem par5 (xs : List Int) (h01 : ∀ k ∈ xs, k = 0 ∨ k = 1) (hl : xs.length = 16) {per : Nat → Nat} (hp : PerOk (nxt 5 xs) 32 per) : ((runR (nxt 5 xs) per 32).2.length + xs.countP (· == 1)) % 2 = 0 := by
  have h := wires_par 5 32 nxt_perm5 (by rw [cmin5]) xs h01 (by rw [hl]) xs.length (Nat.le_refl _)
  rw [List.take_length] at h
  rw [cmin_runR (nxt_perm5 xs) hp 32 (Nat.le_refl _)]; exact h
theorem par6 (xs : List Int) (h01 : ∀ k ∈ xs, k = 0 ∨ k = 1) (hl : xs.length = 32) {per : Nat → Nat} (hp : PerOk (nxt 6 xs) 64 per) : ((runR (nxt 6 xs) per 64).2.length + xs.countP (· == 1)) % 2 = 0 := by
  have h := wires_par 6 64 nxt_perm6 (by rw [cmin6]) xs h01 (by rw [hl]) xs.length (Nat.le_refl _)
  rw [List.take_length] at h
  rw [cmin_runR (nxt_perm6 xs) hp 64 (Nat.le_refl _)]; exact h
/-- costs of the letters: A 1, a 0, b 2; ranks -/
noncomputable def c5 : List Int := [2, 2, 1, 1, 1, 1, 1, 1, 0, 0, 1, 1, 0, 0, 1, 1, 0, 2, 2, 2, 0, 2, 1, 1, 0, 0, 0, 2, 0, 0, 0, 2]
noncomputable def r5 : List Nat := [0, 0, 10, 8, 2, 9, 5, 7, 1, 0, 3, 8, 2, 4, 5, 6, 0, 0, 0, 0, 2, 0, 5, 7, 1, 0, 3, 0, 2, 4, 5, 0]
noncomputable def c6 : List Int := [2, 2, 1, 1, 1, 1, 1, 1, 0, 2, 1, 1, 1, 1, 1, 1, 0, 0, 0, 2, 0, 2, 1, 1, 0, 0, 0, 2, 0, 0, 1, 1, 0, 2, 2, 2, 0, 2, 1, 1, 0, 0, 0, 2, 0, 0, 1, 1, 0, 0, 0, 2, 0, 0, 0, 2, 0, 0, 0, 0, 0, 0, 0, 2]
noncomputable def r6 : List Nat := [0, 0, 20, 18, 3, 19, 11, 17, 2, 0, 7, 18, 6, 10, 14, 16, 1, 0, 4, 0, 6, 0, 11, 17, 2, 5, 9, 0, 6, 13, 14, 15, 0, 0, 0, 0, 3, 0, 11, 17, 2, 5, 7, 0, 6, 10, 14, 16, 1, 0, 4, 0, 6, 8, 11, 0, 2, 5, 9, 12, 6, 13, 14, 0]
theorem rk5 : ∀ s, s < 32 → ∀ b, b < 2 → c5.getD s 0 ≠ 2 → c5.getD (s / 2 + b * 2 ^ (5 - 1)) 0 ≠ 2 → r5.getD s 0 < r5.getD (s / 2 + b * 2 ^ (5 - 1)) 0 := by decide +kernel
theorem rk6 : ∀ s, s < 64 → ∀ b, b < 2 → c6.getD s 0 ≠ 2 → c6.getD (s / 2 + b * 2 ^ (6 - 1)) 0 ≠ 2 → r6.getD s 0 < r6.getD (s / 2 + b * 2 ^ (6 - 1)) 0 := by decide +kernel
theorem na5 : ∀ s, s < 32 → ∀ b, b < 2 → c5.getD s 0 = 1 → c5.getD (s / 2 + b * 2 ^ (5 - 1)) 0 ≠ 0 := by decide +kernel
theorem na6 : ∀ s, s < 64 → ∀ b, b < 2 → c6.getD s 0 = 1 → c6.getD (s / 2 + b * 2 ^ (6 - 1)) 0 ≠ 0 := by decide +kernel
theorem has2 {f per : Nat → Nat} {N : Nat} {c : Nat → Int} {rk : Nat → Nat} (hf : PermOn f N) (hp : PerOk f N per) (hr : ∀ s, s < N → c s ≠ 2 → c (f s) ≠ 2 → rk s < rk (f s)) {i : Nat} (hi : i < N) : (2 : Int) ∈ (orbit f i (per i)).map c := by
  obtain ⟨p1, p2, p3, p4⟩ := hp i hi
  by_cases h : ∃ k, k < per i ∧ c (itr f k i) = 2
  · obtain ⟨k, h1, h2⟩ := h
    exact List.mem_map.mpr ⟨_, mem_orbit.mpr ⟨k, h1, rfl⟩, h2⟩
  · exfalso
    have hn : ∀ k, k ≤ per i → c (itr f k i) ≠ 2 := by
      intro k hk e
      by_cases hkp : k = per i
      · subst hkp
        rw [p3] at e
        exact h ⟨0, p1, e⟩
      · exact h ⟨k, Nat.lt_of_le_of_ne hk hkp, e⟩
    have : ∀ k, k ≤ per i → rk i + k ≤ rk (itr f k i) := by
      intro k
      induction k with
      | zero => exact fun _ => Nat.le_refl _
      | succ k ih =>
        intro hk
        have a := ih (Nat.le_of_succ_le hk)
        have b := hr _ (itr_ltP hf hi k) (hn k (Nat.le_of_succ_le hk)) (hn (k + 1) hk)
        show rk i + (k + 1) ≤ rk (f (itr f k i))
        exact Nat.lt_of_le_of_lt a b
    have := this (per i) (Nat.le_refl _)
    rw [p3] at this
    exact absurd this (Nat.not_le_of_lt (Nat.lt_add_of_pos_right p1))
theorem orbit_get {f : Nat → Nat} {s : Nat} : ∀ {p k : Nat}, k < p → (orbit f s p)[k]? = some (itr f k s)
  | 0, _, h => absurd h (Nat.not_lt_zero _)
  | p + 1, k, h => by
    show (orbit f s p ++ [itr f p s])[k]? = _
    by_cases hk : k < p
    · rw [List.getElem?_append_left (by rw [orbit_length]; exact hk), orbit_get hk]
    · have : k = p := Nat.le_antisymm (Nat.le_of_lt_succ h) (Nat.le_of_not_lt hk)
      subst this
      rw [List.getElem?_append_right (by rw [orbit_length]; exact Nat.le_refl _), orbit_length, Nat.sub_self]; rfl
theorem noAa {f per : Nat → Nat} {N : Nat} {c : Nat → Int} (hf : PermOn f N) (hp : PerOk f N per) (hr : ∀ s, s < N → c s = 1 → c (f s) ≠ 0) {i : Nat} (hi : i < N) {k : Nat} (hk : k < per i)
    (h1 : ((orbit f i (per i)).map c).getD (if k = 0 then per i - 1 else k - 1) 0 = 1) (h2 : ((orbit f i (per i)).map c).getD k 0 = 0) : False := by
  obtain ⟨p1, p2, p3, p4⟩ := hp i hi
  have g : ∀ {j}, j < per i → ((orbit f i (per i)).map c).getD j 0 = c (itr f j i) := by
    intro j hj
    rw [List.getD_eq_getElem?_getD, List.getElem?_map, orbit_get hj]; rfl
  rw [g hk] at h2
  by_cases hk0 : k = 0
  · subst hk0
    rw [if_pos rfl, g (Nat.sub_lt p1 Nat.one_pos)] at h1
    have := hr _ (itr_ltP hf hi _) h1
    have e : f (itr f (per i - 1) i) = i := by
      have : itr f (per i - 1 + 1) i = i := by rw [Nat.sub_add_cancel p1]; exact p3
      exact this
    rw [e] at this
    exact this h2
  · cases k with
    | zero => exact absurd rfl hk0
    | succ q =>
      rw [if_neg hk0, Nat.add_sub_cancel, g (Nat.lt_of_succ_lt hk)] at h1
      exact hr _ (itr_ltP hf hi q) h1 h2
end

section
theorem wtCS : True := by
  w_top off
  trivial
theorem wpAny_choose {M : Model} {A : Around} {E : Value → Shared → Prop} {s : Shared} {src : Source} {n : Nat} {Q : Nat → Shared → Prop} (hn : n ≠ 0) (h : ∀ i, i < n → Q i { s with drawn := s.drawn.bump src }) :
    wpAny M A (choose src n) Q E s := fun _ _ _ => ⟨hn, h _ (Nat.mod_lt _ (Nat.pos_of_ne_zero hn))⟩
section
variable {prog : Program} {w : World} {A : Around} {E : Value → Shared → Prop} {s : Shared}
theorem wpAny_byText {Q : Bool → Shared → Prop} (h : Q (w.params.followText "set-order") s) : wpAny (model prog w) A setsByText Q E s := by
  unfold setsByText
  exact wpAny_bind (wpAny_askSetting (wpAny_pure h))
theorem popPlace_some {t : SetTable} {n : Nat} (hf : t.fits n = true) (hn : 0 < n) : ∃ i, t.popPlace = some i ∧ i < n := by
  have hp : t.place.size = n := by
    simp only [SetTable.fits, Bool.and_eq_true, beq_iff_eq] at hf; exact hf.1
  unfold SetTable.popPlace
  rw [if_neg (by rw [Array.isEmpty_iff_size_eq_zero]; omega)]
  refine ⟨_, rfl, ?_⟩
  split <;> omega
theorem pop_raw {a : Addr} {o : Obj} {es : Array (Int × Value)} {ep : Nat} {t : SetTable} {Q : Option Value → Shared → Prop} (ho : s.heap.get? a = some o) (hd : o.data = .set es ep t) (hf : t.fits es.size = true)
    (hne : 0 < es.size) (hz : es.size < scanBound) (hled : w.params.followText "set-order" = false → t.led = true)
    (h : ∀ i x dr, es[i]? = some x → Q (some x.2) { s with heap := s.heap.update a (Obj.putSet (SetTable.eraseAt es i) (t.popped i)), drawn := dr }) :
    wpAny (model prog w) A (setPop a) Q E s := by
  obtain ⟨i0, hi0, hi0l⟩ := popPlace_some hf hne
  have tail : ∀ (i : Nat) (s' : Shared), i < es.size → s'.heap = s.heap → (∃ dr, s' = { s with drawn := dr }) → wpAny (model prog w) A (do
      let some (_, x) := es[i]? | unsupported "internal:set.pop"
      storeSet a (SetTable.eraseAt es i) (t.popped i)
      return some x) Q E s' := by
    intro i s' hi hs' hs''
    obtain ⟨dr, rfl⟩ := hs''
    have he : es[i]? = some es[i] := Array.getElem?_eq_getElem hi
    rw [he]
    dsimp only
    have hle : (SetTable.eraseAt es i).size ≤ sizeLine := by
      have : (SetTable.eraseAt es i).size ≤ es.size := by
        unfold SetTable.eraseAt; simp only [Array.size_append, Array.size_extract]; omega
      exact Nat.le_trans this (fits_of_scanBound hz)
    refine wpAny_bind (wpAny_storeSet_of (s := { s with drawn := dr }) ho hd ?_ hle)
    exact wpAny_pure (h i _ dr he)
  unfold setPop
  refine wpAny_bind (wpAny_setState_of ho hd hf ?_)
  dsimp only
  rw [hi0]
  dsimp only
  refine wpAny_bind (wpAny_byText ?_)
  cases hb : w.params.followText "set-order" with
  | true =>
    rw [Bool.true_or, if_pos rfl]
    refine wpAny_bind (wpAny_choose (by omega) fun i hi => ?_)
    exact tail i _ hi rfl ⟨_, rfl⟩
  | false =>
    rw [Bool.false_or]
    have hl := hled hb
    split
    · refine wpAny_bind (wpAny_choose (by omega) fun i hi => ?_)
      exact tail i _ hi rfl ⟨_, rfl⟩
    · refine wpAny_bind ?_
      show wpAny (model prog w) A (if (!t.led && decide (es.size > 1)) = true then unsupported "set:maker-not-led" else pure PUnit.unit) _ E s
      rw [hl, if_neg (by simp)]
      exact wpAny_pure (wpAny_bind (wpAny_pure (tail i0 _ hi0l rfl ⟨s.drawn, rfl⟩)))

noncomputable def ledOf (w : World) : Bool := !(w.params.followText "set-order")
noncomputable def newSetObj (w : World) : Obj := { cls := .type "set", dict := none, data := .set #[] 0 (.fresh 0 0 (ledOf w)) }
theorem newSet_led {Q : Value → Shared → Prop} (h : Q (.ref s.heap.objs.size) { s with heap := s.heap.push (newSetObj w) }) : wpAny (model prog w) A (newSet (.type "set")) Q E s := by
  unfold newSet
  refine wpAny_bind (wpAny_byText ?_)
  dsimp only
  simp only [newObj]
  exact wpAny_bind (wpAny_alloc (wpAny_pure h))
theorem code_new_led {Q₁ : Value → Shared → Prop} (h : Q₁ (.ref s.heap.objs.size) { s with heap := s.heap.push (newSetObj w) }) :
    codeAny (model prog w) A (.call (.builtin "set.__new__") ⟨[.type "set"], []⟩) (wants Q₁ E) s := by
  refine codeAny_of_tree ?_
  show wpAny _ A.in1 (do checkBuiltinCall "set.__new__" ⟨[.type "set"], []⟩; again (.builtin "set.__new__" ⟨[.type "set"], []⟩)) _ _ s
  refine wpAny_bind (wpAny_of_eq F.newCall_set_0 (wpAny_pure ⟨plainId_quiet F.plain_set_new _, codeAny_builtin F.entry_set_new ?_⟩))
  rw [Around.under_plainId F.plain_set_new _]
  unfold Builtin.«set.__new__» Builtin.Frozenset.newClass
  have hsub := sub_set_self
  obtain ⟨hp, g, d, tk, os⟩ := s
  dsimp only
  wp_walk
  refine wpAny_askSetting (wpAny_pure ?_)
  dsimp only
  simp only [newObj]
  refine wpAny_bind (wpAny_alloc (wpAny_pure ?_))
  exact wpAny_pure h
set_option maxHeartbeats 1000000 in
theorem call_set_led {Q : Value → Shared → Prop} (h : Q (.ref s.heap.objs.size) { s with heap := s.heap.push (newSetObj w) }) : wpAny (model prog w) A (call (.type "set") []) Q E s := by
  obtain ⟨c, tl, hmro⟩ := F.called_set.mro
  have hmade := F.called_set.made
  have hsub := F.called_set.sub
  refine wpAny_call (codeAny_of_tree ?_)
  show wpAny _ _ (callAny (.type "set") _) _ _ _
  refine wpAny_pure ⟨Code.quiet_builtin _ (by decide +kernel), codeAny_builtin F.entry_type_call ?_⟩
  rw [Around.under_plain (weight_type_call_type "set" [] []) rfl]
  have h1 := F.called_set.notType
  have h2 := F.called_set.canCreate
  have hct := F.typeCall_set_0
  repeat (any_goals (first | assumption | (with_reducible first | refine wpAny_pure ?_ | refine wpAny_bind ?_ | refine wpAny_typeOf (by assumption) ?_ | refine wpAny_of_eq (by assumption) ?_ | refine wpAny_specialOf (by assumption) (by assumption) ?_ | refine wpAny_isInstance (by assumption) (by assumption) ?_ | refine wpAny_call ?_ | refine wpAny_holding ?_) | ((with_reducible apply wpAny_ite_false); focus (rfl; done)) | ((with_reducible apply wpAny_ite_true); focus (rfl; done)) | wp_delta | wp_step))
  refine codeAny_mono (code_new_led (E := E) (Q₁ := fun obj s₁ => obj = .ref s.heap.objs.size ∧ s₁ = { s with heap := s.heap.push (newSetObj w) }) ⟨rfl, rfl⟩) fun r s₁ hr => ?_
  cases r with
  | error e => exact hr
  | ok fl =>
    cases fl with
    | ret obj =>
      obtain ⟨rfl, rfl⟩ := hr
      have hS : (s.heap.push (newSetObj w)).get? s.heap.objs.size = some (newSetObj w) := Heap.get?_push_size _ rfl
      have hT : Shared.TypeIs { s with heap := s.heap.push (newSetObj w) } (.ref s.heap.objs.size) "set" := ⟨_, hS, rfl⟩
      have hli := F.called_set.init.lookup
      have hbi := F.called_set.init.bind (.ref s.heap.objs.size)
      repeat (any_goals (first | assumption | (with_reducible first | refine wpAny_pure ?_ | refine wpAny_bind ?_ | refine wpAny_typeOf (by assumption) ?_ | refine wpAny_of_eq (by assumption) ?_ | refine wpAny_specialOf (by assumption) (by assumption) ?_ | refine wpAny_isInstance (by assumption) (by assumption) ?_ | refine wpAny_call ?_ | refine wpAny_holding ?_) | ((with_reducible apply wpAny_ite_false); focus (rfl; done)) | ((with_reducible apply wpAny_ite_true); focus (rfl; done)) | wp_delta | wp_step))
      refine codeAny_mono (codeAny_call_builtin (R := wants (fun r s₂ => r = .none ∧ Q (.ref s.heap.objs.size) s₂) E) F.called_set.init.plain F.entry_set_init (check_set_init hT ?_)) fun r₂ s₂ hr₂ => ?_
      · unfold Builtin.«set.__init__» noKeywords
        repeat (first | (with_reducible first | refine wpAny_pure ?_ | refine wpAny_bind ?_ | refine wpAny_typeOf (by assumption) ?_) | ((with_reducible apply wpAny_ite_false); focus (rfl; done)) | ((with_reducible apply wpAny_ite_true); focus (rfl; done)) | ((with_reducible apply wpAny_load'); focus (heap_get; done)) | wp_delta | wp_step)
        exact ⟨rfl, h⟩
      · cases r₂ with
        | error e => exact hr₂
        | ok fl₂ =>
          cases fl₂ with
          | ret r =>
            obtain ⟨rfl, hq⟩ := hr₂
            repeat (any_goals (first | assumption | (with_reducible first | refine wpAny_pure ?_ | refine wpAny_bind ?_ | refine wpAny_typeOf (by assumption) ?_ | refine wpAny_of_eq (by assumption) ?_ | refine wpAny_specialOf (by assumption) (by assumption) ?_ | refine wpAny_isInstance (by assumption) (by assumption) ?_ | refine wpAny_call ?_ | refine wpAny_holding ?_) | ((with_reducible apply wpAny_ite_false); focus (rfl; done)) | ((with_reducible apply wpAny_ite_true); focus (rfl; done)) | wp_delta | wp_step))
          | _ => exact hr₂.elim
    | _ => exact hr.elim

/-- what an int that is not in the set does to the elements and the table -/
noncomputable def addTo (t : SetTable) (es : Array (Int × Value)) (h : Int) (x : Value) : Array (Int × Value) × SetTable :=
  let L := layNew t es h x
  if !L.2.2.1 && L.2.1.tooFull then ((relayAll L.2.1 L.1 (SetTable.grown L.1.size)).1, (relayAll L.2.1 L.1 (SetTable.grown L.1.size)).2.1) else (L.1, L.2.1)

theorem add_raw {a : Addr} {o : Obj} {es : Array (Int × Value)} {ep : Nat} {t : SetTable} {k : Int} {tk : Tok} {Q : Bool → Shared → Prop} (ho : s.heap.get? a = some o) (hex : o.ExactSet) (hd : o.data = .set es ep t)
    (hel : ElemsOf (PySem.intKind prog w) es.toList) (hf : t.fits es.size = true) (hz : es.size + 1 < scanBound)
    (hin : (∃ e ∈ es.toList, (PySem.intKind prog w).is k e.2 = true) → Q false s)
    (hout : (¬ ∃ e ∈ es.toList, (PySem.intKind prog w).is k e.2 = true) → ∀ h' ep', Heap.SameBut a s.heap h' → h'.get? a = some { o with data := .set (addTo t es (hashInt k) (.int k tk)).1 ep' (addTo t es (hashInt k) (.int k tk)).2 } → Q true { s with heap := h' }) :
    wpAny (model prog w) A (setAddHashed a (.int k tk) (hashInt k)) Q E s := by
  have hkey : (PySem.intKind prog w).is k (.int k tk) = true := intKind_is _ _ _ _
  unfold setAddHashed setAddHashedIn
  refine wpAny_holding (wpAny_bind (wpAny_setState_of ho hd hf ?_))
  dsimp only
  rw [byScan_of (knd := PySem.intKind prog w) rfl (by omega) hel]
  simp only [↓reduceIte]
  unfold setAddByScan
  refine wpAny_bind ?_
  refine wpAny_bind (wpAny_rule ?_)
  refine wpAny_bind (wpAny_setScan_of (knd := PySem.intKind prog w) (k := k) hkey ho hd hf hel ?_)
  cases hr : List.findIdx? (fun e => (PySem.intKind prog w).is k e.2) es.toList with
  | some j =>
    dsimp only
    obtain ⟨hj, hpj, _⟩ := List.findIdx?_eq_some_iff_getElem.mp hr
    exact wpAny_pure (wpAny_pure (hin ⟨es.toList[j], List.getElem_mem hj, hpj⟩))
  | none =>
    dsimp only
    have hno : ¬ ∃ e ∈ es.toList, (PySem.intKind prog w).is k e.2 = true := fun ⟨e, he, hp⟩ => by
      have := List.findIdx?_eq_none_iff.mp hr e he; rw [hp] at this; exact Bool.noConfusion this
    have hperm := layNew_perm t es (hashInt k) (.int k tk)
    have hfits := layNew_fits t es (hashInt k) (.int k tk)
    have hO := hout hno
    unfold addTo at hO
    generalize hL : layNew t es (hashInt k) (.int k tk) = L at hperm hfits hO
    obtain ⟨es1, t1, wasDummy, gave⟩ := L
    dsimp only at hperm hfits hO ⊢
    have hs1 : es1.size = es.size + 1 := by rw [← Array.length_toList, hperm.length_eq, Array.length_toList, Array.size_push]
    refine wpAny_bind ?_
    have hgw : ∀ (b : Bool) {s₁ : Shared} {Q' : Unit → Shared → Prop}, Q' () s₁ → wpAny (model prog w) A (match b with | true => rule "set.scan.the-table-gave-way" | false => pure ()) Q' E s₁ :=
      fun b s₁ Q' hq => by cases b <;> first | exact wpAny_pure hq | exact wpAny_rule hq
    refine hgw _ ?_
    have fin : ∀ s₀ : Shared, s₀ = s → wpAny (model prog w) A (do
        storeSet a es1 t1
        if (!wasDummy && t1.tooFull) = true then do
            (match (relayAll t1 es1 (SetTable.grown es1.size)).2.2 with | true => rule "set.scan.the-table-gave-way" | false => pure ())
            storeSet a (relayAll t1 es1 (SetTable.grown es1.size)).1 (relayAll t1 es1 (SetTable.grown es1.size)).2.1
            pure (some true)
          else pure (some true)) (fun r s' => wpAny (model prog w) A (match r with | some added => pure added | none => setAddHashedIn a (.int k tk) (hashInt k) 99999) Q E s') E s₀ := by
      intro s₀ e0; rw [e0]
      have hg1 : (s.heap.update a (Obj.putSet es1 t1)).get? a = some { o with data := .set es1 (ep + 1) t1 } := by
        have := Heap.get?_update_self (Obj.putSet es1 t1) ho (by rw [putSet_of es1 t1 hd]; rfl)
        rw [putSet_of es1 t1 hd] at this; exact this
      refine wpAny_bind (wpAny_storeSet_of ho hd ?_ (fits_of_scanBound (by omega)))
      split
      · rename_i hc
        rw [if_pos hc] at hO
        refine wpAny_bind (hgw _ ?_)
        have hp2 := relayAll_perm t1 es1 (SetTable.grown es1.size)
        have hs2 : (relayAll t1 es1 (SetTable.grown es1.size)).1.size = es1.size := by rw [← Array.length_toList, hp2.length_eq, Array.length_toList]
        have hg2 : ((s.heap.update a (Obj.putSet es1 t1)).update a (Obj.putSet (relayAll t1 es1 (SetTable.grown es1.size)).1 (relayAll t1 es1 (SetTable.grown es1.size)).2.1)).get? a = some { o with data := .set (relayAll t1 es1 (SetTable.grown es1.size)).1 (ep + 1 + 1) (relayAll t1 es1 (SetTable.grown es1.size)).2.1 } := by
          have := Heap.get?_update_self (Obj.putSet (relayAll t1 es1 (SetTable.grown es1.size)).1 (relayAll t1 es1 (SetTable.grown es1.size)).2.1) hg1 (by rw [putSet_of _ _ rfl]; rfl)
          rw [putSet_of _ _ rfl] at this; exact this
        refine wpAny_bind (wpAny_storeSet_of (s := { s with heap := s.heap.update a (Obj.putSet es1 t1) }) hg1 rfl ?_ (fits_of_scanBound (by omega)))
        exact wpAny_pure (wpAny_pure (hO _ _ ((Heap.SameBut.update s.heap a _).trans (Heap.SameBut.update _ a _)) hg2))
      · rename_i hc
        rw [if_neg hc] at hO
        exact wpAny_pure (wpAny_pure (hO _ _ (Heap.SameBut.update s.heap a _) hg1))
    split
    · refine wpAny_bind ?_
      rw [hashByValue_scannable 8 rfl]
      refine wpAny_pure ?_
      exact fin s rfl
    · refine wpAny_bind (wpAny_pure ?_)
      exact fin s rfl
theorem noBool_set : typeLookup (.type "set") "__bool__" = pure none := by rw [typeLookup_type, builtinLookup_eq_fast]; kernel_rfl
theorem truthy_set {a : Addr} {o : Obj} {es : Array (Int × Value)} {ep : Nat} {t : SetTable} {Q : Bool → Shared → Prop} (ho : s.heap.get? a = some o) (hex : o.ExactSet) (hd : o.data = .set es ep t) (hf : t.fits es.size = true)
    (hfit : (es.size : Int) < 2 ^ 63) (h : Q (decide (es.size ≠ 0)) { s with toks := s.toks + 1 + 1 }) : wpAny (model prog w) A (truthy (.ref a)) Q E s := by
  have hT : s.TypeIs (.ref a) "set" := ⟨o, ho, hex.1⟩
  have hne : ((es.size : Int) != 0) = decide (es.size ≠ 0) := by
    by_cases he : es.size = 0
    · simp [he]
    · rw [decide_eq_true he]; simp [he]
  have key : wpAny (model prog w) A (runValue (.builtin "len" ⟨[.ref a], []⟩)) (fun r s' => r = .int es.size (s.toks + 1) ∧ Q (decide (es.size ≠ 0)) s') E s := by
    refine wpAny_runValue (codeAny_builtin entry_len ?_)
    rw [Around.under_plainId plain_len _]
    exact wpAny_mono (wpAny_len_body_set (Q := fun r s' => r = .int es.size (s.toks + 1) ∧ Q (decide (es.size ≠ 0)) s') ho hex hd hf hfit ⟨rfl, h⟩)
      (fun fin s' h' => by obtain ⟨r, rfl, hq⟩ := h'; exact hq) fun _ _ e => e
  unfold truthy
  first
    | refine wpAny_bind (wpAny_callSpecial?_none (name := Str.ofString "__bool__") hT noBool_set ?_)
    | refine wpAny_bind (wpAny_pure (wpAny_bind (wpAny_callSpecial?_none (name := Str.ofString "__bool__") hT noBool_set ?_)))
  first
    | refine wpAny_bind (wpAny_specialOf (name := Str.ofString "__len__") hT F.slot_set_len.lookup ?_)
    | refine wpAny_bind (wpAny_pure (wpAny_bind (wpAny_specialOf (name := Str.ofString "__len__") hT F.slot_set_len.lookup ?_)))
  first
    | exact wpAny_bind (wpAny_mono key (fun r s' h' => by obtain ⟨rfl, hq⟩ := h'; exact wpAny_pure (hne ▸ hq)) fun _ _ e => e)
    | exact wpAny_bind (wpAny_pure (wpAny_bind (wpAny_mono key (fun r s' h' => by obtain ⟨rfl, hq⟩ := h'; exact wpAny_pure (hne ▸ hq)) fun _ _ e => e)))
theorem method_pop {a : Addr} {o : Obj} {pl : Sem Bool} {Q : Value × List Value → Shared → Prop} (ho : s.heap.get? a = some o) (hex : o.ExactSet) (h : Q (.builtin "set.pop", [.ref a]) s) :
    wpAny (model prog w) A (getMethod (.ref a) "pop" pl) Q E s :=
  getMethod_builtin ⟨o, ho, hex.1⟩ F.plainAttrs_set F.slot_set_pop F.type_set_pop (fun b e => by injection e with e; subst e; exact ⟨o, ho, hex.2.1⟩) h
theorem call_pop {a : Addr} {o : Obj} {es : Array (Int × Value)} {ep : Nat} {t : SetTable} {Q : Value → Shared → Prop} (ho : s.heap.get? a = some o) (hex : o.ExactSet) (hd : o.data = .set es ep t) (hf : t.fits es.size = true)
    (hne : 0 < es.size) (hz : es.size < scanBound) (hled : w.params.followText "set-order" = false → t.led = true)
    (h : ∀ i x dr, es[i]? = some x → Q x.2 { s with heap := s.heap.update a (Obj.putSet (SetTable.eraseAt es i) (t.popped i)), drawn := dr }) :
    wpAny (model prog w) A (call (.builtin "set.pop") [.ref a]) Q E s := by
  refine wpAny_call_entry F.slot_set_pop ⟨o, ho, hex.1⟩ F.entry_set_pop ?_ (F.args_set_pop_1 _)
  unfold Builtin.«set.pop» Builtin.Frozenset.noArgs
  simp only [List.isEmpty_nil, bind_assoc]
  unfold Builtin.Frozenset.addrOf
  refine wpAny_bind (wpAny_pure ?_)
  try dsimp only
  refine wpAny_bind (pop_raw ho hd hf hne hz hled fun i x dr hx => ?_)
  exact wpAny_pure ⟨_, rfl, h i x dr hx⟩
end
end

section
theorem wtCS2 : True := by
  w_top off
  trivial
noncomputable def bitS (b : Nat) (k : Int) : Bool := decide (0 ≤ k) && b.testBit k.toNat
noncomputable def keyV : Value → Int
  | .int k _ => k
  | _ => 0
noncomputable def keysL (l : List (Int × Value)) : List Int := l.map fun e => keyV e.2
structure Ents (l : List (Int × Value)) (b : Nat) : Prop where
  ents : ∀ e ∈ l, ∃ k tk, e = (hashInt k, Value.int k tk)
  nod : (keysL l).Nodup
  mem : ∀ k, k ∈ keysL l ↔ bitS b k = true
structure IS (w : World) (o : Obj) (b : Nat) : Prop where
  ex : o.ExactSet
  dat : ∃ es ep t, o.data = .set es ep t ∧ t.fits es.size = true ∧ (w.params.followText "set-order" = false → t.led = true) ∧ Ents es.toList b
theorem Ents.length {l : List (Int × Value)} {b : Nat} (h : Ents l b) (hb : b < 2 ^ 16) : l.length ≤ 16 := by
  have hk : ∀ k ∈ keysL l, 0 ≤ k ∧ k.toNat < 16 := fun k hk => by
    have := (h.mem k).mp hk
    simp only [bitS, Bool.and_eq_true, decide_eq_true_eq] at this
    refine ⟨this.1, ?_⟩
    rcases Nat.lt_or_ge k.toNat 16 with hl | hl
    · exact hl
    · have h2 : b < 2 ^ k.toNat := Nat.lt_of_lt_of_le hb (Nat.pow_le_pow_right (by decide) hl)
      rw [Nat.testBit_lt_two_pow h2] at this; exact absurd this.2 (by decide)
  have h1 : ((keysL l).map Int.toNat).Nodup := by
    rw [List.nodup_iff_pairwise_ne, List.pairwise_map]
    refine List.Pairwise.imp_of_mem ?_ (List.nodup_iff_pairwise_ne.mp h.nod)
    intro a c ha hc hne he
    exact hne (by have := hk a ha; have := hk c hc; omega)
  have := pigeon 16 _ h1 (fun z hz => by obtain ⟨k, hk', rfl⟩ := List.mem_map.mp hz; exact (hk k hk').2)
  simpa [keysL] using this
section
variable {prog : Program} {w : World} {A : Around} {E : Value → Shared → Prop} {s : Shared} {l : List (Int × Value)} {b : Nat}
theorem Ents.elems (h : Ents l b) : ElemsOf (PySem.intKind prog w) l := fun e he => by
  obtain ⟨k, tk, rfl⟩ := h.ents e he
  exact ⟨⟨k, intKind_is _ _ _ _, rfl⟩, rfl⟩
theorem Ents.has (h : Ents l b) (k : Int) : (∃ e ∈ l, (PySem.intKind prog w).is k e.2 = true) ↔ bitS b k = true := by
  rw [← h.mem k]
  constructor
  · rintro ⟨e, he, hp⟩
    obtain ⟨k', tk, rfl⟩ := h.ents e he
    have : k = k' := (PySem.intKind prog w).inj _ _ _ hp (intKind_is _ _ _ _)
    subst this
    exact List.mem_map.mpr ⟨_, he, rfl⟩
  · intro hk
    obtain ⟨e, he, hk⟩ := List.mem_map.mp hk
    obtain ⟨k', tk, rfl⟩ := h.ents e he
    have : k' = k := hk
    subst this
    exact ⟨_, he, intKind_is _ _ _ _⟩
theorem bitS_or {b : Nat} {K : Int} (hK : 0 ≤ K) (k : Int) : bitS (b ||| 1 <<< K.toNat) k = true ↔ bitS b k = true ∨ k = K := by
  simp only [bitS, Bool.and_eq_true, decide_eq_true_eq, Nat.testBit_or, Nat.one_shiftLeft, Nat.testBit_two_pow, Bool.or_eq_true]
  constructor
  · rintro ⟨h1, h2 | h2⟩
    · exact .inl ⟨h1, h2⟩
    · exact .inr (by omega)
  · rintro (⟨h1, h2⟩ | rfl)
    · exact ⟨h1, .inl h2⟩
    · exact ⟨hK, .inr rfl⟩
theorem bitS_xor {b : Nat} {K : Int} (hb : bitS b K = true) (k : Int) : bitS (b ^^^ 1 <<< K.toNat) k = true ↔ bitS b k = true ∧ k ≠ K := by
  simp only [bitS, Bool.and_eq_true, decide_eq_true_eq, Nat.testBit_xor, Nat.one_shiftLeft, Nat.testBit_two_pow] at hb ⊢
  constructor
  · rintro ⟨h1, h2⟩
    by_cases e : k = K
    · subst e; rw [hb.2] at h2; simp at h2
    · refine ⟨⟨h1, ?_⟩, e⟩
      have : decide (K.toNat = k.toNat) = false := decide_eq_false (by omega)
      rw [this] at h2; simpa using h2
  · rintro ⟨⟨h1, h2⟩, h3⟩
    refine ⟨h1, ?_⟩
    have : decide (K.toNat = k.toNat) = false := decide_eq_false (by omega)
    rw [this, h2]; rfl
theorem Ents.push {K : Int} {tk : Tok} (h : Ents l b) (hK : 0 ≤ K) (hn : ¬ bitS b K = true) {l' : List (Int × Value)} (p : List.Perm l' (l ++ [(hashInt K, Value.int K tk)])) : Ents l' (b ||| 1 <<< K.toNat) := by
  have pk : List.Perm (keysL l') (keysL l ++ [K]) := by
    have := p.map fun e => keyV e.2
    simpa [keysL, keyV] using this
  refine ⟨fun e he => ?_, ?_, fun k => ?_⟩
  · rcases List.mem_append.mp (p.mem_iff.mp he) with he | he
    · exact h.ents e he
    · rw [List.mem_singleton] at he; exact ⟨K, tk, he⟩
  · rw [pk.nodup_iff, List.nodup_append]
    refine ⟨h.nod, by simp, fun a ha c hc => ?_⟩
    rw [List.mem_singleton] at hc
    subst hc
    rintro rfl
    exact hn ((h.mem a).mp ha)
  · rw [pk.mem_iff, List.mem_append, List.mem_singleton, h.mem k, bitS_or hK]
theorem toList_eraseAt (es : Array (Int × Value)) (i : Nat) : (SetTable.eraseAt es i).toList = es.toList.eraseIdx i := by
  unfold SetTable.eraseAt
  rw [Array.toList_append, Array.toList_extract, Array.toList_extract, List.eraseIdx_eq_take_drop_succ]
  simp [List.extract_eq_take_drop, List.take_of_length_le]
theorem erase_perm {α : Type} {l : List α} {i : Nat} (hi : i < l.length) : List.Perm (l[i] :: l.eraseIdx i) l := by
  rw [List.eraseIdx_eq_take_drop_succ]
  have e : l.take i ++ l[i] :: l.drop (i + 1) = l := by rw [← List.drop_eq_getElem_cons hi, List.take_append_drop]
  have p : List.Perm (l.take i ++ l[i] :: l.drop (i + 1)) (l[i] :: (l.take i ++ l.drop (i + 1))) := List.perm_middle
  rw [e] at p
  exact p.symm
theorem Ents.erase {es : Array (Int × Value)} {i : Nat} {x : Int × Value} (h : Ents es.toList b) (hx : es[i]? = some x) :
    ∃ K tk, x.2 = Value.int K tk ∧ bitS b K = true ∧ Ents (SetTable.eraseAt es i).toList (b ^^^ 1 <<< K.toNat) := by
  rw [← Array.getElem?_toList] at hx
  obtain ⟨hi, hxe⟩ := List.getElem?_eq_some_iff.mp hx
  have hm : x ∈ es.toList := hxe ▸ List.getElem_mem hi
  obtain ⟨K, tk, rfl⟩ := h.ents x hm
  have hb : bitS b K = true := (h.mem K).mp (List.mem_map.mpr ⟨_, hm, rfl⟩)
  refine ⟨K, tk, rfl, hb, ?_⟩
  rw [toList_eraseAt]
  have hkeys : keysL (es.toList.eraseIdx i) = (keysL es.toList).eraseIdx i := by
    simp only [keysL, List.eraseIdx_eq_take_drop_succ, List.map_append, List.map_take, List.map_drop]
  have p : List.Perm (es.toList[i] :: es.toList.eraseIdx i) es.toList := erase_perm hi
  have pk : List.Perm (K :: keysL (es.toList.eraseIdx i)) (keysL es.toList) := by
    have := p.map fun e => keyV e.2
    rw [List.map_cons, hxe] at this
    exact this
  have hnd := pk.nodup_iff.mpr h.nod
  rw [List.nodup_cons] at hnd
  refine ⟨fun e he => h.ents e (List.mem_of_mem_eraseIdx he), hnd.2, fun k => ?_⟩
  rw [bitS_xor hb, ← h.mem k, ← pk.mem_iff, List.mem_cons]
  constructor
  · intro hk
    exact ⟨.inr hk, fun e => hnd.1 (e ▸ hk)⟩
  · rintro ⟨e | hk, hne⟩
    · exact absurd e hne
    · exact hk
theorem relaid_led {t t' : SetTable} {hs : Array Int} {n : Nat} {o : Array Nat} (h : t.relaid hs n = some (t', o)) : t'.led = t.led := by
  unfold SetTable.relaid SetTable.laid at h
  simp only [Option.bind_eq_bind, Option.bind_eq_some_iff] at h
  obtain ⟨ow, _, h⟩ := h
  injection h with h
  injection h with h _
  rw [← h]
theorem layNew_led (t : SetTable) (es : Array (Int × Value)) (h : Int) (x : Value) : (layNew t es h x).2.1.led = t.led := by
  unfold layNew
  split
  · dsimp only
    unfold SetTable.orStandIn
    split <;> rfl
  · rfl
theorem relayAll_led (t : SetTable) (es : Array (Int × Value)) (n : Nat) : (relayAll t es n).2.1.led = t.led := by
  unfold relayAll
  split
  · rename_i t' o h
    dsimp only
    split
    · exact relaid_led h
    · rfl
  · rfl
theorem addTo_facts (t : SetTable) (es : Array (Int × Value)) (h : Int) (x : Value) :
    List.Perm (addTo t es h x).1.toList (es.toList ++ [(h, x)]) ∧ (addTo t es h x).2.fits (addTo t es h x).1.size = true ∧ (addTo t es h x).2.led = t.led := by
  have p1 := layNew_perm t es h x
  rw [Array.toList_push] at p1
  have f1 := layNew_fits t es h x
  have l1 := layNew_led t es h x
  unfold addTo
  dsimp only
  split
  · refine ⟨(relayAll_perm _ _ _).trans p1, relayAll_fits _ _ _, (relayAll_led _ _ _).trans l1⟩
  · exact ⟨p1, f1, l1⟩
end

/-- the table of a set of small ints that was only added to -/
noncomputable def bitsL (b : Nat) : List Nat := (List.range 8).filter fun k => b.testBit k
noncomputable def tabOf (b : Nat) (led : Bool) : SetTable := { mask := 7, place := (bitsL b).toArray, dummies := #[], finger := 0, led, moves := 0, plain := true }
noncomputable def NS (w : World) (o : Obj) (b : Nat) : Prop := ∃ es ep, o.data = .set es ep (tabOf b (ledOf w)) ∧ keysL es.toList = (bitsL b).map Int.ofNat
noncomputable def posOf (b k : Nat) : Nat := SetTable.below (bitsL b).toArray k
noncomputable def nsOk (b k : Nat) : Bool :=
  decide (k < 8) && [true, false].all fun led => ((tabOf b led).freeSlot (hashInt (k : Int)) == some (k, false)) && decide (((tabOf b led).put k) = (tabOf (b ||| 1 <<< k) led, posOf b k)) &&
    ((tabOf (b ||| 1 <<< k) led).fits ((bitsL b).length + 1)) && !(tabOf (b ||| 1 <<< k) led).tooFull && decide ((bitsL b).take (posOf b k) ++ [k] ++ (bitsL b).drop (posOf b k) = bitsL (b ||| 1 <<< k)) && decide (posOf b k ≤ (bitsL b).length)
theorem insert_keys {es : Array (Int × Value)} {p : Nat} {x : Int × Value} (hp : p ≤ es.size) : keysL (SetTable.insertAt es p x).toList = (keysL es.toList).take p ++ [keyV x.2] ++ (keysL es.toList).drop p := by
  unfold SetTable.insertAt keysL
  simp [List.extract_eq_take_drop, List.map_take, List.map_drop, List.take_of_length_le]
theorem addTo_small {w : World} {es : Array (Int × Value)} {b k : Nat} {tk : Tok} (hk : keysL es.toList = (bitsL b).map Int.ofNat) (ok : nsOk b k = true) :
    (addTo (tabOf b (ledOf w)) es (hashInt (k : Int)) (.int (k : Int) tk)).2 = tabOf (b ||| 1 <<< k) (ledOf w) ∧ keysL (addTo (tabOf b (ledOf w)) es (hashInt (k : Int)) (.int (k : Int) tk)).1.toList = (bitsL (b ||| 1 <<< k)).map Int.ofNat := by
  unfold nsOk at ok
  rw [Bool.and_eq_true] at ok
  have ok := List.all_eq_true.mp ok.2 (ledOf w) (by cases ledOf w <;> decide)
  simp only [Bool.and_eq_true, decide_eq_true_eq, beq_iff_eq, Bool.not_eq_true'] at ok
  obtain ⟨⟨⟨⟨⟨h1, h2⟩, h3⟩, h4⟩, h5⟩, h6⟩ := ok
  have hsz : es.size = (bitsL b).length := by
    have := congrArg List.length hk
    simpa [keysL] using this
  have hins : (SetTable.insertAt es (posOf b k) (hashInt (k : Int), Value.int (k : Int) tk)).size = (bitsL b).length + 1 := by
    have := congrArg List.length (insert_keys (es := es) (p := posOf b k) (x := (hashInt (k : Int), Value.int (k : Int) tk)) (by omega))
    rw [hk] at this
    simp [keysL] at this
    omega
  have hl : layNew (tabOf b (ledOf w)) es (hashInt (k : Int)) (.int (k : Int) tk) = (SetTable.insertAt es (posOf b k) (hashInt (k : Int), Value.int (k : Int) tk), tabOf (b ||| 1 <<< k) (ledOf w), false, false) := by
    unfold layNew
    rw [h1]
    dsimp only
    rw [h2]
    dsimp only
    unfold SetTable.orStandIn
    rw [hins, h3]
    rfl
  unfold addTo
  rw [hl]
  dsimp only
  rw [h4]
  rw [if_neg (by decide)]
  refine ⟨rfl, ?_⟩
  rw [insert_keys (by omega), hk, ← List.map_take, ← List.map_drop, ← h5]
  simp [keyV]
end

section
theorem wtCS3 : True := by
  w_top off
  trivial
open PySem PySem.W PyProof.Rows PySem.Calls
theorem or_old {b k : Nat} (h : b.testBit k = true) : b ||| 1 <<< k = b := by
  apply Nat.eq_of_testBit_eq
  intro j
  rw [Nat.testBit_or, Nat.one_shiftLeft, Nat.testBit_two_pow]
  by_cases e : k = j
  · subst e; rw [h]; rfl
  · rw [decide_eq_false e, Bool.or_false]
noncomputable def nsAdd (b k : Nat) : Bool := b.testBit k || nsOk b k
section
variable {prog : Program} {w : World} {A : Around} {E : Value → Shared → Prop} {s : Shared} {h₀ : Heap} {L sa : Addr} {m : Str → Option Value} {news : List (Addr × Obj)} {g : Obj → List (Addr × Obj)} {so : Obj} {b : Nat} {K : Int} {tk : Tok}
theorem sb_16 : (17 : Nat) < scanBound := by decide
theorem IS.obj (h : IS w so b) (hb : b < 2 ^ 16) : ∃ n, so.SetObjOf (PySem.intKind prog w) (bitS b) n ∧ n ≤ 16 := by
  obtain ⟨hex, es, ep, t, hd, hf, hl, hE⟩ := h
  refine ⟨es.size, ⟨hex, es, ep, t, hd, hE.elems, fun k => (hE.has k).symm, rfl, hf⟩, ?_⟩
  rw [← Array.length_toList]; exact hE.length hb
theorem is_in {Q : Value → Shared → Prop} (N : News h₀ L s.heap news) (hm : (sa, so) ∈ news) (hI : IS w so b) (hb : b < 2 ^ 16) (h : Q (.bool (bitS b K)) { s with toks := s.toks + 1 }) :
    wpAny (model prog w) A (compareOp .In (.int K tk) (.ref sa)) Q E s := by
  obtain ⟨n, hO, hn⟩ := hI.obj (prog := prog) hb
  exact wpAny_inSet_of (intKind_is _ _ _ _) rfl (hO.setOf (N _ hm).1 (Nat.lt_of_le_of_lt (Nat.le_succ_of_le hn) sb_16)) h
theorem is_setAdd {Q : Bool → Shared → Prop} (F : Fr h₀ L s.heap m) (N : News h₀ L s.heap news) (U : UpdF sa so news g) (hI : IS w so b) (hb : b < 2 ^ 16) (hK : 0 ≤ K)
    (h : ∀ r h' so', Fr h₀ L h' m → News h₀ L h' (g so') → IS w so' (b ||| 1 <<< K.toNat) → (NS w so b → nsAdd b K.toNat = true → NS w so' (b ||| 1 <<< K.toNat)) → Q r { s with heap := h', toks := s.toks + 1 }) :
    wpAny (model prog w) A (setAdd sa (.int K tk)) Q E s := by
  obtain ⟨pre, post, rfl, hg, ha, hb'⟩ := U.split
  have hm := N (sa, so) (List.mem_append_right _ (.head _))
  have hI2 := hI
  obtain ⟨hex, es, ep, t, hd, hf, hl, hE⟩ := hI
  have hz : es.size ≤ 16 := by rw [← Array.length_toList]; exact hE.length hb
  have h16 := sb_16
  unfold setAdd
  refine wpAny_holding (wpAny_bind ((PySem.intKind prog w).pyHash (intKind_is _ _ _ _) ?_))
  refine add_raw (s := { s with toks := s.toks + 1 }) hm.1 hex hd hE.elems hf (by omega) (fun hin => ?_) (fun hout h' ep' hsb hg' => ?_)
  · have hbit := (hE.has K).mp hin
    have e : b ||| 1 <<< K.toNat = b := or_old (by simpa [bitS, hK] using hbit)
    have := h false s.heap so F (by rw [hg]; exact N) (by rw [e]; exact hI2) (fun x _ => by rw [e]; exact x)
    exact this
  · have hno : ¬ bitS b K = true := fun x => hout ((hE.has K).mpr x)
    obtain ⟨p, f, ld⟩ := addTo_facts t es (hashInt K) (.int K tk)
    refine h true h' { so with data := .set (addTo t es (hashInt K) (.int K tk)).1 ep' (addTo t es (hashInt K) (.int K tk)).2 } (F.change hsb hm.2.1 hm.2.2) (by rw [hg]; exact N.setIn ha hb' hsb hg') ⟨hex, _, _, _, rfl, f, fun x => ld.trans (hl x), hE.push hK hno p⟩ (fun hN ok => ?_)
    obtain ⟨es2, ep2, hd2, hk2⟩ := hN
    rw [hd] at hd2
    injection hd2 with e1 e2 e3
    subst e1 e3
    obtain ⟨k, rfl⟩ := Int.eq_ofNat_of_zero_le hK
    have ok : nsOk b k = true := by
      have h2 : b.testBit k = true ∨ nsOk b k = true := by simpa [nsAdd] using ok
      rcases h2 with h2 | h2
      · exact absurd (by simpa [bitS] using h2) hno
      · exact h2
    obtain ⟨a1, a2⟩ := addTo_small (w := w) (k := k) (tk := tk) hk2 ok
    refine ⟨_, ep', ?_, a2⟩
    show Data.set _ _ _ = _
    rw [a1]
    rfl
theorem is_add {Q : Value → Shared → Prop} (F : Fr h₀ L s.heap m) (N : News h₀ L s.heap news) (U : UpdF sa so news g) (hI : IS w so b) (hb : b < 2 ^ 16) (hK : 0 ≤ K)
    (h : ∀ h' so', Fr h₀ L h' m → News h₀ L h' (g so') → IS w so' (b ||| 1 <<< K.toNat) → (NS w so b → nsAdd b K.toNat = true → NS w so' (b ||| 1 <<< K.toNat)) → Q .none { s with heap := h', toks := s.toks + 1 }) :
    wpAny (model prog w) A (call (.builtin "set.add") [.ref sa, .int K tk]) Q E s := by
  obtain ⟨pre, post, hl0, hg, ha, hb'⟩ := U.split
  have hm := N (sa, so) (by rw [hl0]; exact List.mem_append_right _ (.head _))
  refine wpAny_call_entry PySem.F.slot_set_add ⟨so, hm.1, hI.ex.1⟩ PySem.F.entry_set_add ?_ (PySem.F.args_set_add_2 _ _)
  unfold Builtin.«set.add» Builtin.Frozenset.oneOther
  simp only [List.isEmpty_nil, bind_assoc]
  unfold Builtin.Frozenset.addrOf
  refine wpAny_bind (wpAny_pure ?_)
  try dsimp only
  refine wpAny_bind (wpAny_pure ?_)
  try dsimp only
  refine wpAny_bind (is_setAdd F N U hI hb hK fun r h' so' F' N' I' n' => ?_)
  show wpAny _ _ (ret Value.none) _ _ _
  exact wpAny_pure ⟨_, rfl, h h' so' F' N' I' n'⟩
theorem is_madd {pl : Sem Bool} {Q : Value × List Value → Shared → Prop} (N : News h₀ L s.heap news) (hm : (sa, so) ∈ news) (hI : IS w so b) (h : Q (.builtin "set.add", [.ref sa]) s) : wpAny (model prog w) A (getMethod (.ref sa) "add" pl) Q E s :=
  getMethod_builtin ⟨so, (N _ hm).1, hI.ex.1⟩ PySem.F.plainAttrs_set PySem.F.slot_set_add PySem.F.type_set_add (fun b e => by injection e with e; subst e; exact ⟨so, (N _ hm).1, hI.ex.2.1⟩) h
theorem is_mpop {pl : Sem Bool} {Q : Value × List Value → Shared → Prop} (N : News h₀ L s.heap news) (hm : (sa, so) ∈ news) (hI : IS w so b) (h : Q (.builtin "set.pop", [.ref sa]) s) : wpAny (model prog w) A (getMethod (.ref sa) "pop" pl) Q E s :=
  method_pop (N _ hm).1 hI.ex h
theorem bit_size {es : Array (Int × Value)} (hE : Ents es.toList b) (hne : b ≠ 0) : 0 < es.size := by
  rcases Nat.eq_zero_or_pos es.size with h0 | h0
  · exfalso
    obtain ⟨i, hi⟩ := Nat.exists_testBit_of_ne_zero hne
    have : (i : Int) ∈ keysL es.toList := (hE.mem _).mpr (by simp [bitS, hi])
    have e : es.toList = [] := by rw [← List.length_eq_zero_iff, Array.length_toList]; exact h0
    rw [e] at this
    cases this
  · exact h0
theorem cut_size {n i : Nat} (h : i < n) : i - 0 + (n - (i + 1)) = n - 1 := by omega
theorem eraseAt_size {α : Type} (xs : Array α) (i : Nat) (h : i < xs.size) : (SetTable.eraseAt xs i).size = xs.size - 1 := by
  unfold SetTable.eraseAt
  rw [Array.size_append, Array.size_extract, Array.size_extract, Nat.min_eq_left (Nat.le_of_lt h), Nat.min_self]
  exact cut_size h
theorem fill_le {e d m p i : Nat} (h : p + d ≤ m) (hp : p = e) (hi : i < e) : e - 1 + (d + 1) ≤ m := by omega
theorem drop_fits {n i : Nat} {t : SetTable} (hps : t.place.size = n) (hfill : t.place.size + t.dummies.size ≤ t.mask) (hi : i < n) : (t.popped i).fits (n - 1) = true ∧ (t.popped i).led = t.led := by
  have hi' : i < t.place.size := hps ▸ hi
  have he : t.place[i]? = some t.place[i] := Array.getElem?_eq_getElem hi'
  have hdrop : t.drop i = { t with place := SetTable.eraseAt t.place i, dummies := SetTable.insertAt t.dummies (SetTable.below t.dummies t.place[i]) t.place[i] } := by
    unfold SetTable.drop; rw [he]
  unfold SetTable.popped
  rw [hdrop]
  refine ⟨?_, rfl⟩
  have hb := (SetTable.insertAt_perm t.dummies (SetTable.below t.dummies t.place[i]) t.place[i]).length_eq
  simp only [Array.length_toList] at hb
  show ((SetTable.eraseAt t.place i).size == n - 1 && decide ((SetTable.eraseAt t.place i).size + (SetTable.insertAt t.dummies (SetTable.below t.dummies t.place[i]) t.place[i]).size ≤ t.mask)) = true
  rw [eraseAt_size _ _ hi', hps, hb, Array.size_push, beq_self_eq_true, decide_eq_true (fill_le hfill hps hi)]
  rfl
theorem is_pop {Q : Value → Shared → Prop} (F : Fr h₀ L s.heap m) (N : News h₀ L s.heap news) (U : UpdF sa so news g) (hI : IS w so b) (hb : b < 2 ^ 16) (hne : b ≠ 0)
    (h : ∀ h' so' K tk dr, bitS b K = true → Fr h₀ L h' m → News h₀ L h' (g so') → IS w so' (b ^^^ 1 <<< K.toNat) → Q (.int K tk) { s with heap := h', drawn := dr }) :
    wpAny (model prog w) A (call (.builtin "set.pop") [.ref sa]) Q E s := by
  obtain ⟨pre, post, rfl, hg, ha, hb'⟩ := U.split
  have hm := N (sa, so) (List.mem_append_right _ (.head _))
  obtain ⟨hex, es, ep, t, hd, hf, hl, hE⟩ := hI
  have hz : es.size ≤ 16 := by rw [← Array.length_toList]; exact hE.length hb
  have h16 := sb_16
  refine call_pop hm.1 hex hd hf (bit_size hE hne) (Nat.lt_of_le_of_lt hz (Nat.lt_of_succ_lt (n := 16) sb_16)) hl fun i x dr hx => ?_
  obtain ⟨K, tk, hxe, hbit, hE'⟩ := hE.erase hx
  rw [hxe]
  have hi : i < es.size := by
    rcases Nat.lt_or_ge i es.size with hi | hi
    · exact hi
    · rw [Array.getElem?_eq_none hi] at hx; cases hx
  have hfit : (t.popped i).fits (SetTable.eraseAt es i).size = true ∧ (t.popped i).led = t.led := by
    rw [eraseAt_size es i hi]
    simp only [SetTable.fits, Bool.and_eq_true, beq_iff_eq, decide_eq_true_eq] at hf
    exact drop_fits hf.1 hf.2 hi
  have hg1 : (s.heap.update sa (Obj.putSet (SetTable.eraseAt es i) (t.popped i))).get? sa = some { so with data := .set (SetTable.eraseAt es i) (ep + 1) (t.popped i) } := by
    have := Heap.get?_update_self (Obj.putSet (SetTable.eraseAt es i) (t.popped i)) hm.1 (by rw [putSet_of _ _ hd]; rfl)
    rw [putSet_of _ _ hd] at this; exact this
  have hsb := Heap.SameBut.update s.heap sa (Obj.putSet (SetTable.eraseAt es i) (t.popped i))
  exact h _ { so with data := .set (SetTable.eraseAt es i) (ep + 1) (t.popped i) } K tk dr hbit (F.change hsb hm.2.1 hm.2.2) (by rw [hg]; exact N.setIn ha hb' hsb hg1) ⟨hex, _, _, _, rfl, hfit.1, fun x => hfit.2.trans (hl x), hE'⟩
theorem is_truthy {Q : Bool → Shared → Prop} (N : News h₀ L s.heap news) (hm : (sa, so) ∈ news) (hI : IS w so b) (hb : b < 2 ^ 16) (h : Q (decide (b ≠ 0)) { s with toks := s.toks + 1 + 1 }) :
    wpAny (model prog w) A (truthy (.ref sa)) Q E s := by
  obtain ⟨hex, es, ep, t, hd, hf, hl, hE⟩ := hI
  have hz : es.size ≤ 16 := by rw [← Array.length_toList]; exact hE.length hb
  refine truthy_set (N _ hm).1 hex hd hf (by omega) ?_
  have e : decide (es.size ≠ 0) = decide (b ≠ 0) := by
    by_cases h0 : b = 0
    · subst h0
      have : es.size = 0 := by
        rw [← Array.length_toList, List.length_eq_zero_iff]
        cases hc : es.toList with
        | nil => rfl
        | cons e r =>
          exfalso
          have := (hE.mem (keyV e.2)).mp (by rw [hc]; exact .head _)
          simp [bitS] at this
      simp [this]
    · have := bit_size hE h0
      rw [decide_eq_true h0, decide_eq_true (by omega)]
  rw [e]; exact h
theorem IS.fresh : IS w (newSetObj w) 0 := by
  refine ⟨⟨rfl, rfl, rfl⟩, #[], 0, _, rfl, by rfl, fun x => ?_, ⟨fun e he => by simp at he, by simp [keysL], fun k => by simp [keysL, bitS]⟩⟩
  show ledOf w = true
  unfold ledOf; rw [x]; rfl
theorem NS.fresh : NS w (newSetObj w) 0 := ⟨#[], 0, rfl, rfl⟩
theorem is_new {Q : Value → Shared → Prop} (F : Fr h₀ L s.heap m) (N : News h₀ L s.heap news)
    (h : ∀ D h', Fr h₀ L h' m → News h₀ L h' ((D, newSetObj w) :: news) → (∀ p ∈ news, p.1 < D) → Q (.ref D) { s with heap := h' }) : wpAny (model prog w) A (call (.type "set") []) Q E s :=
  call_set_led (h _ _ (F.push _) (News.push F N _ rfl) fun p hp => Heap.lt_size (N p hp).1)
theorem is_disp {Kf : Frag} {e : PySem.Expr} {k : Nat} {pos : Pos} {env : Env} {Q : Value → Shared → Prop} (F : Fr h₀ L s.heap m) (N : News h₀ L s.heap news) (X : Kf.In h₀) (hc : kdsCode Kf env.code = true)
    (hroad : displayRoad k [e] = .oneByOne) (hp : kdsPlain e = true)
    (h : ∀ D h', Fr h₀ L h' m → News h₀ L h' ((D, newSetObj w) :: news) → (∀ p ∈ news, p.1 < D) →
      wpAny (model prog w) A (eval e env) (fun v s' => wpAny (model prog w) A (setAdd D v) (fun _ s'' => Q (.ref D) s'') E s') E { s with heap := h' }) :
    wpAny (model prog w) A (eval (.Set [e] k pos) env) Q E s := by
  have h0 := h _ _ (F.push (newSetObj w)) (News.push F N _ rfl) fun p hp => Heap.lt_size (N p hp).1
  rw [arm_eval_Set]
  refine wpAny_bind (wpAny_standAt ?_)
  refine wpAny_bind (kds_main (X.keeps F.keep) hc fun b => ?_)
  rw [kds_star [e] (by rw [List.all_cons, hp]; rfl), List.map_map]
  rw [hroad]
  unfold setDisplay
  try dsimp only
  rw [if_neg (by decide)]
  refine wpAny_bind (newSet_led ?_)
  dsimp only
  refine wpAny_bind (wpAny_holding ?_)
  refine wpAny_bind (wpAny_mono (kds_all (M := model prog w) (A := A) (E := E) (env := env) pos [e] _ (fun vs s' => ∃ v, vs = [v] ∧ wpAny (model prog w) A (setAdd s.heap.objs.size v) (fun _ s'' => Q (.ref s.heap.objs.size) s'') E s') (wpAny_mono h0 (fun v s' x => ⟨v, rfl, x⟩) fun _ _ x => x)) (fun vs s' hx => ?_) fun _ _ x => x)
  obtain ⟨v, rfl, hx⟩ := hx
  refine wpAny_bind (wpAny_holding (wpAny_bind ?_))
  rw [List.forIn_cons]
  refine wpAny_bind (wpAny_bind (wpAny_mono hx (fun _ s2 h2 => wpAny_pure ?_) fun _ _ x => x))
  dsimp only
  rw [List.forIn_nil]
  refine wpAny_pure ?_
  rw [if_neg (by decide)]
  refine wpAny_pure ?_
  have hev : (List.map ((fun x : Bool × Sem Value => (x.fst, do let v ← x.snd; standAt pos; pure v)) ∘ fun t => (false, t)) (evalEach [e] env)) = [(false, do let v ← eval e env; standAt pos; pure v)] := by
    rw [arm_evalEach_cons]; rfl
  rw [hev]
  show wpAny (model prog w) A (do forIn ([] : List (Bool × Sem Value)) PUnit.unit _; pure ()) _ E s2
  rw [List.forIn_nil]
  exact wpAny_bind (wpAny_pure (wpAny_pure (wpAny_pure h2)))
end
end

section
theorem wtCS4 : True := by
  w_top off
  trivial
open PySem PySem.W PyProof.Rows PySem.Calls
theorem pick_go {α : Type} (next : Nat → Nat) : ∀ (fuel k : Nat) (left : List α) (out : Array α), left.length ≤ fuel → List.Perm (pickOrder.go next fuel k left out).toList (out.toList ++ left)
  | 0, k, left, out, h => by
    have : left = [] := List.length_eq_zero_iff.mp (Nat.le_zero.mp h)
    subst this
    unfold pickOrder.go; simp
  | fuel + 1, k, left, out, h => by
    unfold pickOrder.go
    cases hx : left[next k % left.length]? with
    | none =>
      dsimp only
      have h0 : left = [] := by
        rcases Nat.eq_zero_or_pos left.length with e | e
        · exact List.length_eq_zero_iff.mp e
        · have := Nat.mod_lt (next k) e
          rw [List.getElem?_eq_getElem this] at hx; cases hx
      subst h0; simp
    | some x =>
      dsimp only
      obtain ⟨hi, hxe⟩ := List.getElem?_eq_some_iff.mp hx
      have hl : (left.eraseIdx (next k % left.length)).length ≤ fuel := by rw [List.length_eraseIdx_of_lt hi]; omega
      refine (pick_go next fuel (k + 1) _ _ hl).trans ?_
      rw [Array.toList_push, List.append_assoc]
      refine List.Perm.append_left _ ?_
      have p := erase_perm hi
      rw [hxe] at p
      exact p
theorem pick_perm {α : Type} (next : Nat → Nat) (xs : Array α) : List.Perm (pickOrder next xs).toList xs.toList := by
  unfold pickOrder
  have := pick_go next xs.size 0 xs.toList #[] (by rw [Array.length_toList]; exact Nat.le_refl _)
  simpa using this
theorem slot_set_iterator_next : Slot "set_iterator" "__next__" "set_iterator.__next__" :=
  .of (owner := "set_iterator") (n := "__next__") (by rw [typeLookup_type, builtinLookup_eq_fast]; kernel_rfl) (by decide +kernel) (by decide +kernel) (by decide +kernel)
    (by first | exact .inl (by decide +kernel) | exact .inr (by decide +kernel)) (by rw [isSubtype_type]; kernel_rfl)
theorem slot_set_iterator_iter : Slot "set_iterator" "__iter__" "set_iterator.__iter__" :=
  .of (owner := "set_iterator") (n := "__iter__") (by rw [typeLookup_type, builtinLookup_eq_fast]; kernel_rfl) (by decide +kernel) (by decide +kernel) (by decide +kernel)
    (by first | exact .inl (by decide +kernel) | exact .inr (by decide +kernel)) (by rw [isSubtype_type]; kernel_rfl)
theorem entry_set_iterator_next : entryFor table "set_iterator.__next__" = some Builtin.«set_iterator.__next__» := entryFor_of_tree (by kernel_rfl)
theorem entry_set_iter : entryFor table "set.__iter__" = some Builtin.«frozenset.__iter__» :=
  entryFor_alias (id' := "frozenset.__iter__") (by rw [fastTable_eq_tree]; kernel_rfl) rfl (by rw [PySem.W.Fast.canonicalQ_eq]; decide +kernel) (by rw [fastTable_eq_tree]; kernel_rfl)
theorem owner_set_iterator : Manifest.owners.lookup (String.ofList ['r', 'o', 't', 'a', 'r', 'e', 't', 'i', '_', 't', 'e', 's'].reverse) = some Manifest.sig_set_iterator := by kernel_rfl
theorem args_set_iterator_next (a : Value) : argsOk "set_iterator.__next__" ⟨[a], []⟩ := by
  unfold argsOk; rw [signature?_of (id := "set_iterator.__next__") (n := ['_', '_', 't', 'x', 'e', 'n', '_', '_']) (o := ['r', 'o', 't', 'a', 'r', 'e', 't', 'i', '_', 't', 'e', 's']) (by kernel_rfl) owner_set_iterator]; kernel_rfl
theorem entry_set_iterator_iter : entryFor table "set_iterator.__iter__" = some Builtin.«dict_keyiterator.__iter__» :=
  entryFor_alias (id' := "dict_keyiterator.__iter__") (by rw [fastTable_eq_tree]; kernel_rfl) rfl (by rw [PySem.W.Fast.canonicalQ_eq]; decide +kernel) (by rw [fastTable_eq_tree]; kernel_rfl)
theorem args_set_iterator_iter (a : Value) : argsOk "set_iterator.__iter__" ⟨[a], []⟩ := by
  unfold argsOk; rw [signature?_of (id := "set_iterator.__iter__") (n := ['_', '_', 'r', 'e', 't', 'i', '_', '_']) (o := ['r', 'o', 't', 'a', 'r', 'e', 't', 'i', '_', 't', 'e', 's']) (by kernel_rfl) owner_set_iterator]; kernel_rfl

/-- what the iterator's first field holds at the place i -/
noncomputable def slotA (w : World) (b i : Nat) : Nat := if ledOf w = true then (if i = 0 then 0 else (bitsL b).getD (i - 1) 0 + 1) else 0
noncomputable def IsSetIter (w : World) (h : Heap) (it a : Addr) (b i n ep : Nat) : Prop :=
  ∃ o, h.get? it = some o ∧ o.cls = .type "set_iterator" ∧ o.data = .fields #[.int (slotA w b i) 0, .int i 0, .ref a, .int n 0, .int ep 0]
theorem IsSetIter.typeIs {w : World} {s : Shared} {it a b i n ep} (x : IsSetIter w s.heap it a b i n ep) : s.TypeIs (.ref it) "set_iterator" := let ⟨o, ho, hc, _⟩ := x; ⟨o, ho, hc⟩
theorem IsSetIter.at {w : World} {h h' : Heap} {it a b i n ep} (x : IsSetIter w h it a b i n ep) (e : ∀ o, h.get? it = some o → h'.get? it = some o) : IsSetIter w h' it a b i n ep := let ⟨o, ho, r⟩ := x; ⟨o, e _ ho, r⟩
/-- the order in which the set is walked -/
noncomputable def ordL (w : World) (a : Addr) (ep : Nat) (es : Array (Int × Value)) : List Value := if ledOf w = true then es.toList.map (·.2) else (pickOrder (w.params.setOrder a ep) es).toList.map (·.2)
theorem ordL_perm {w : World} {a : Addr} {ep : Nat} {es : Array (Int × Value)} : List.Perm (ordL w a ep es) (es.toList.map (·.2)) := by
  unfold ordL
  split
  · exact .rfl
  · exact (pick_perm _ es).map _
section
variable {prog : Program} {w : World} {A : Around} {E : Value → Shared → Prop} {s : Shared} {a it : Addr} {o : Obj} {es : Array (Int × Value)} {ep b i : Nat}
theorem byText_led (h : w.params.followText "set-order" = false) : ledOf w = true := by unfold ledOf; rw [h]; rfl
theorem byText_not (h : w.params.followText "set-order" = true) : ledOf w = false := by unfold ledOf; rw [h]; rfl
theorem set_hint {Q : Bool → Shared → Prop} (hT : s.TypeIs (.ref a) "set") (h : Q false s) : wpAny (model prog w) A (Builtin.List.listLengthHint (.ref a)) Q E s := by
  unfold Builtin.List.listLengthHint
  refine wpAny_bind (wpAny_specialOf hT PySem.F.slot_set_len.lookup ?_)
  generalize hid : ("set.__len__" : String) = id0
  wp_delta
  rw [show splitId id0 = some ("set", "__len__") from by subst hid; decide +kernel]
  subst hid
  refine wpAny_bind (wpAny_isInstance (T := "set") (b := true) hT (by rw [isSubtype_type]; kernel_rfl) ?_)
  refine wpAny_ite_split (fun hab => absurd hab (by decide)) (fun _ => ?_)
  refine wpAny_ite_split (fun _ => ?_) (fun hab => absurd (by decide +kernel) hab)
  refine wpAny_bind (wpAny_typeOf hT ?_)
  exact wpAny_pure h
theorem set_pyIter {Q : Value → Shared → Prop} (ho : s.heap.get? a = some o) (hex : o.ExactSet) (hd : o.data = .set es ep (tabOf b (ledOf w))) (hf : (tabOf b (ledOf w)).fits es.size = true)
    (hQ : Q (.ref s.heap.objs.size) { s with heap := s.heap.push { cls := .type "set_iterator", data := .fields #[.int 0 0, .int 0 0, .ref a, .int es.size 0, .int ep 0] } }) :
    wpAny (model prog w) A (pyIter (.ref a)) Q E s := by
  have hT : s.TypeIs (.ref a) "set" := ⟨o, ho, hex.1⟩
  refine wpAny_pyIter_slot hT PySem.F.slot_set_iter (wpAny_call_entry PySem.F.slot_set_iter hT entry_set_iter ?_ (PySem.F.args_set_iter_1 _))
  unfold Builtin.«frozenset.__iter__» Builtin.Frozenset.slot0 slotArgs
  simp only [List.isEmpty_nil, Bool.not_true, Bool.false_eq_true, ↓reduceIte, bind_assoc, List.length_nil, bne_self_eq_false]
  unfold Builtin.Frozenset.addrOf Builtin.Frozenset.sizeOf
  refine wpAny_bind (wpAny_pure ?_)
  try dsimp only
  refine wpAny_bind (wpAny_pure ?_)
  refine wpAny_bind (wpAny_bind (wpAny_setEntries_of ho hd hf (wpAny_pure ?_)))
  refine wpAny_bind ?_
  unfold setDrawn
  refine wpAny_bind (wpAny_setState_of ho hd hf ?_)
  dsimp only
  refine wpAny_bind (wpAny_byText ?_)
  refine wpAny_pure ?_
  have hdr : ∀ x : Bool, (x && (false && decide (es.size > 1))) = false := fun x => by cases x <;> rfl
  refine wpAny_ite_split (fun hab => absurd (hab.symm.trans (hdr _)) (by decide)) (fun _ => ?_)
  refine wpAny_bind (wpAny_pure ?_)
  refine wpAny_bind (wpAny_setEpoch_of ho hd hf ?_)
  refine wpAny_bind (wpAny_newObj_type (wpAny_pure ⟨_, rfl, "set_iterator", _, ⟨_, Heap.get?_push_size _ rfl, rfl⟩, slot_set_iterator_next.lookup, ?_⟩))
  exact hQ
theorem set_pyIterIter {n : Nat} {Q : Value → Shared → Prop} (hit : IsSetIter w s.heap it a b i n ep) (h : Q (.ref it) s) : wpAny (model prog w) A (pyIter (.ref it)) Q E s := by
  refine wpAny_pyIter_slot hit.typeIs slot_set_iterator_iter (wpAny_call_entry slot_set_iterator_iter hit.typeIs entry_set_iterator_iter ?_ (args_set_iterator_iter _))
  show wpAny _ _ (ret (.ref it)) _ _ s
  exact wpAny_pure ⟨_, rfl, "set_iterator", _, hit.typeIs, slot_set_iterator_next.lookup, h⟩
theorem set_next_core {Q : Option (Value × Nat) → Shared → Prop} (ho : s.heap.get? a = some o) (hd : o.data = .set es ep (tabOf b (ledOf w))) (hf : (tabOf b (ledOf w)).fits es.size = true)
    (hbel : ∀ j, j ≤ es.size → SetTable.below (bitsL b).toArray (if j = 0 then 0 else (bitsL b).getD (j - 1) 0 + 1) = j) (hi : i ≤ es.size)
    (h1 : ∀ v, (ordL w a ep es)[i]? = some v → Q (some (v, slotA w b (i + 1))) s) (h2 : (ordL w a ep es)[i]? = none → Q none s) :
    wpAny (model prog w) A (setNext a (slotA w b i) i ep) Q E s := by
  have hps : (bitsL b).length = es.size := by
    have : (tabOf b (ledOf w)).place.size = es.size := by simp only [SetTable.fits, Bool.and_eq_true, beq_iff_eq] at hf; exact hf.1
    simpa [tabOf] using this
  unfold setNext
  refine wpAny_bind (wpAny_setState_of ho hd hf ?_)
  dsimp only
  refine wpAny_bind (wpAny_byText ?_)
  cases hb : w.params.followText "set-order" with
  | true =>
    have hl := byText_not hb
    rw [if_pos rfl]
    rw [if_neg (by simp)]
    refine wpAny_bind ?_
    unfold setWalk
    refine wpAny_bind (wpAny_setState_of ho hd hf ?_)
    dsimp only
    refine wpAny_bind (wpAny_byText ?_)
    rw [hb, if_pos rfl]
    refine wpAny_bind (wpAny_askSetting (wpAny_pure ?_))
    refine wpAny_pure ?_
    have hO : ordL w a ep es = (pickOrder (w.params.setOrder a ep) es).toList.map (·.2) := by unfold ordL; rw [hl, if_neg (by decide)]
    have hS : ∀ j, slotA w b j = 0 := fun j => by unfold slotA; rw [hl, if_neg (by decide)]
    rw [hO, List.getElem?_map, Array.getElem?_toList] at h1 h2
    show Q (((pickOrder (w.params.setOrder a ep) es)[i]?).map fun e => (e.2, slotA w b i)) s
    rw [hS (i + 1)] at h1
    rw [hS i]
    cases hx : (pickOrder (w.params.setOrder a ep) es)[i]? with
    | none => rw [hx] at h2; exact h2 rfl
    | some x => rw [hx] at h1; exact h1 x.2 rfl
  | false =>
    have hl := byText_led hb
    rw [if_neg (by decide)]
    have hdr : (false && decide (es.size > 1)) = false := rfl
    refine wpAny_ite_split (fun hab => absurd (hab.symm.trans hdr) (by decide)) (fun _ => ?_)
    refine wpAny_bind ?_
    show wpAny (model prog w) A (if (!(ledOf w) && !es.isEmpty) = true then unsupported "set:maker-not-led" else pure PUnit.unit) _ E s
    rw [hl, if_neg (by simp)]
    refine wpAny_pure (wpAny_pure ?_)
    have hO : ordL w a ep es = es.toList.map (·.2) := by unfold ordL; rw [hl, if_pos rfl]
    have hS : slotA w b i = if i = 0 then 0 else (bitsL b).getD (i - 1) 0 + 1 := by unfold slotA; rw [hl, if_pos rfl]
    have hS1 : slotA w b (i + 1) = (bitsL b).getD i 0 + 1 := by unfold slotA; rw [hl, if_pos rfl, if_neg (Nat.succ_ne_zero i), Nat.add_sub_cancel]
    rw [hO, List.getElem?_map, Array.getElem?_toList] at h1 h2
    have hbi := hbel i hi
    rw [← hS] at hbi
    show Q (match es[SetTable.below (bitsL b).toArray (slotA w b i)]?, (bitsL b).toArray[SetTable.below (bitsL b).toArray (slotA w b i)]? with | some (_, x), some j => some (x, j + 1) | _, _ => none) s
    rw [hbi]
    cases hx : es[i]? with
    | none => rw [hx] at h2; exact h2 rfl
    | some x =>
      rw [hx] at h1
      have hlt : i < es.size := by
        rcases Nat.lt_or_ge i es.size with h | h
        · exact h
        · rw [Array.getElem?_eq_none h] at hx; cases hx
      have hj : (bitsL b).toArray[i]? = some ((bitsL b).getD i 0) := by
        rw [List.getElem?_toArray, List.getD_eq_getElem?_getD, List.getElem?_eq_getElem (by omega)]; rfl
      rw [hj]
      have := h1 x.2 rfl
      rw [hS1] at this
      exact this
theorem set_pyNext_core {n : Nat} {Q : Option Value → Shared → Prop} (hn : n = es.size) (hit : IsSetIter w s.heap it a b i n ep) (ho : s.heap.get? a = some o) (hd : o.data = .set es ep (tabOf b (ledOf w))) (hf : (tabOf b (ledOf w)).fits es.size = true) (hh : A.handled = none)
    (hbel : ∀ j, j ≤ es.size → SetTable.below (bitsL b).toArray (if j = 0 then 0 else (bitsL b).getD (j - 1) 0 + 1) = j) (hi : i ≤ es.size)
    (h1 : ∀ v h', (ordL w a ep es)[i]? = some v → IsSetIter w h' it a b (i + 1) n ep → Heap.SameBut it s.heap h' → Q (some v) { s with heap := h' })
    (h2 : ∀ h', (ordL w a ep es)[i]? = none → Heap.ExtBut it s.heap h' → Q none { s with heap := h' }) :
    wpAny (model prog w) A (pyNext (.ref it)) Q E s := by
  subst hn
  obtain ⟨oi, hoi, hc, hdi⟩ := id hit
  unfold pyNext
  refine wpAny_bind (wpAny_attempt (wpAny_callSpecial?_slot (name := Str.ofString "__next__") hit.typeIs slot_set_iterator_next
    (wpAny_call_entry slot_set_iterator_next hit.typeIs entry_set_iterator_next ?_ (args_set_iterator_next _))))
  unfold Builtin.«set_iterator.__next__» slotArgs
  refine wpAny_bind (wpAny_pure ?_)
  try dsimp only
  refine wpAny_bind (wpAny_fieldsOf hoi hdi ?_)
  dsimp only
  refine wpAny_bind (wpAny_setEntries_of ho hd hf ?_)
  refine wif_neg (by simp) ?_
  rw [Int.toNat_natCast, Int.toNat_natCast, Int.toNat_natCast]
  refine wpAny_bind (set_next_core ho hd hf hbel hi (fun v hv => ?_) fun hx => ?_)
  · dsimp only
    refine wpAny_bind (wpAny_setField hoi hdi (by simp) ?_)
    have e1 : (s.heap.update it (Obj.mapFields (·.setIfInBounds 0 (rawInt (slotA w b (i + 1)))))).get? it = some (Obj.mapFields (·.setIfInBounds 0 (rawInt (slotA w b (i + 1)))) oi) :=
      Heap.get?_update_self _ hoi (Obj.isFreed_of_fields (Obj.data_mapFields hdi _))
    have e2 : (Obj.mapFields (·.setIfInBounds 0 (rawInt (slotA w b (i + 1)))) oi).data = .fields #[.int (slotA w b (i + 1)) 0, .int i 0, .ref a, .int es.size 0, .int ep 0] := by
      rw [Obj.data_mapFields hdi]; simp [rawInt]
    refine wpAny_bind (wpAny_setField (s := { s with heap := s.heap.update it (Obj.mapFields (·.setIfInBounds 0 (rawInt (slotA w b (i + 1))))) }) e1 e2 (by simp) ?_)
    refine wpAny_pure ⟨v, rfl, wpAny_pure (h1 v _ hv ⟨_, Heap.get?_update_self _ e1 (Obj.isFreed_of_fields (Obj.data_mapFields e2 _)), ?_, ?_⟩ ((Heap.SameBut.update ..).trans (Heap.SameBut.update ..)))⟩
    · rw [Obj.cls_mapFields, Obj.cls_mapFields]; exact hc
    · rw [Obj.data_mapFields e2]; simp [rawInt]
  · dsimp only
    refine wpAny_bind (wpAny_setField hoi hdi (by simp) ?_)
    show wpAny _ _ (newExc (.type "StopIteration") [] >>= _) _ _ _
    refine wpAny_bind ?_
    simp only [newExc, newTuple]
    refine wpAny_bind (wpAny_newObj_type ?_ (by size_fits))
    refine wpAny_bind (m := firstArgMember _ _) (wpAny_of_eq (a := Value.none) (by first | rfl | (simp only [firstArgMember]; rfl)) ?_)
    refine wpAny_newObj_type ?_ (by size_fits)
    simp only [raiseNew]
    refine wpAny_bind (wpAny_handled ?_)
    rw [show A.in1.handled = none from hh]
    refine wpAny_bind (wpAny_pure (wpAny_throw ?_))
    refine wpAny_bind (wpAny_isInstance (T := "StopIteration") (b := true) ⟨_, Heap.get?_push_size _ rfl, rfl⟩ isSubtype_stop ?_)
    exact wpAny_pure (h2 _ hx (((Heap.SameBut.update ..).extBut.push _).push _))
end
end

section
theorem wtCS5 : True := by
  w_top off
  trivial
open PySem PySem.W PyProof.Rows PySem.Calls
noncomputable def belOk (b : Nat) : Bool := (List.range ((bitsL b).length + 1)).all fun j => SetTable.below (bitsL b).toArray (if j = 0 then 0 else (bitsL b).getD (j - 1) 0 + 1) == j
section
variable {prog : Program} {w : World} {A : Around} {E : Value → Shared → Prop} {s : Shared} {a : Addr} {o : Obj} {es : Array (Int × Value)} {ep b : Nat} {h₀ : Heap} {L : Addr} {m : Str → Option Value} {news : List (Addr × Obj)}
theorem ordL_length : (ordL w a ep es).length = es.size := by
  have := (ordL_perm (w := w) (a := a) (ep := ep) (es := es)).length_eq
  rw [this, List.length_map, Array.length_toList]
theorem set_walks (hh : A.handled = none) (I : Addr) (hne : a ≠ I) (hd : o.data = .set es ep (tabOf b (ledOf w))) (hf : (tabOf b (ledOf w)).fits es.size = true)
    (hbel : ∀ j, j ≤ es.size → SetTable.below (bitsL b).toArray (if j = 0 then 0 else (bitsL b).getD (j - 1) 0 + 1) = j) :
    Walks prog w A I [I, a] [I] es.size (fun i v => (ordL w a ep es)[i]? = some v) (fun i h => IsSetIter w h I a b i es.size ep ∧ h.get? a = some o) where
  sub := fun b hb => by simp at hb; simp [hb]
  frame := fun _ _ _ st hk => ⟨st.1.at fun o e => hk I (by simp) o e, hk a (by simp) _ st.2⟩
  item := fun i s Q E hi st hQ => by
    refine set_pyNext_core rfl st.1 st.2 hd hf hh hbel (Nat.le_of_lt hi) (fun v h' hv hit hsb => ?_) fun h' hx _ => ?_
    · exact hQ v h' s.toks hv ⟨hit, hsb.extBut a _ hne st.2⟩ fun c o' hc e => hsb.extBut c o' (fun x => hc (by simp [x])) e
    · exfalso
      rw [List.getElem?_eq_getElem (by rw [ordL_length]; exact hi)] at hx
      cases hx
  done := fun s Q E st hQ => by
    refine set_pyNext_core rfl st.1 st.2 hd hf hh hbel (Nat.le_refl _) (fun v h' hv _ _ => ?_) fun h' _ hx => ?_
    · exfalso
      rw [List.getElem?_eq_none (by rw [ordL_length]; exact Nat.le_refl _)] at hv
      cases hv
    · exact hQ h' s.toks fun c o' hc e => hx c o' (fun x => hc (by simp [x])) e
  self := fun _ _ _ _ st hQ => set_pyIterIter st.1 hQ
theorem set_src (hex : o.ExactSet) (hd : o.data = .set es ep (tabOf b (ledOf w))) (hf : (tabOf b (ledOf w)).fits es.size = true)
    (hbel : ∀ j, j ≤ es.size → SetTable.below (bitsL b).toArray (if j = 0 then 0 else (bitsL b).getD (j - 1) 0 + 1) = j) :
    KdlSrc prog w "set" a a es.size (fun i v => (ordL w a ep es)[i]? = some v) (fun h => h.get? a = some o) where
  type := fun _ hm => ⟨o, hm, hex.1⟩
  there := fun _ hm => ⟨Heap.lt_size hm, Heap.lt_size hm⟩
  keep := fun _ _ hm hk => hk a (.inl rfl) _ hm
  notList := by decide
  notTuple := by decide
  hint := fun _ _ _ _ hm hq => set_hint ⟨o, hm, hex.1⟩ hq
  iter := fun A s hh hm => ⟨_, _, (fun _ _ hq => set_pyIter hm hex hd hf hq), set_walks hh _ (Nat.ne_of_lt (Heap.lt_size hm)) hd hf hbel,
    ⟨⟨_, Heap.get?_push_size _ rfl, rfl, by have : slotA w b 0 = 0 := by unfold slotA; split <;> rfl
                                            rw [this]; rfl⟩, Heap.get?_push_of_some _ hm⟩⟩
theorem ints_of : ∀ {vs : List Value}, (∀ v ∈ vs, ∃ k tk, v = Value.int k tk) → IntsAre vs (vs.map keyV)
  | [], _ => .nil
  | v :: vs, h => by
    obtain ⟨k, tk, rfl⟩ := h v (.head _)
    exact .cons _ _ (ints_of fun v hv => h v (.tail _ hv))
theorem sort_head {D : Addr} {vs : List Value} {ns : List Int} {rest : List (Addr × Obj)} {Q : Value → Shared → Prop} (F : Fr h₀ L s.heap m) (N : News h₀ L s.heap ((D, listOf vs.toArray 0) :: rest)) (hlt : ∀ q ∈ rest, q.1 < D)
    (hI : IntsAre vs ns) (hne : 0 < vs.length) (h64 : vs.length < 64)
    (h : ∀ (out : Array Value) (ns' : List Int) h', IntsAre out.toList ns' → ns'.Perm ns → ns'.Pairwise (· ≤ ·) → Fr h₀ L h' m → News h₀ L h' ((D, listOf out 2) :: rest) → Q .none { s with heap := h' }) :
    wpAny (model prog w) A (call (.builtin "list.sort") [.ref D]) Q E s := by
  have z := N (D, listOf vs.toArray 0) (.head _)
  have ho : s.heap.get? D = some (seqObj "list" vs.toArray 0) := z.1
  refine wpAny_call_entry PyProof.Rows.slot_list_sort ⟨_, z.1, rfl⟩ PyProof.Rows.entry_list_sort (list_sort_tree (n := 0) (vs := vs) ho hI h64 fun out ns' hI' hp hP => ⟨.none, rfl, ?_⟩) (PyProof.Rows.args_list_sort _)
  have hlen : out.size ≠ 0 := by
    have h1 := hp.length_eq
    have h2 := hI'.length
    have h3 := hI.length
    have h4 : out.toList.length = out.size := Array.length_toList
    omega
  have b : ∀ p ∈ rest, p.1 ≠ D := fun p hp => Nat.ne_of_lt (hlt p hp)
  have a : ∀ p ∈ ([] : List (Addr × Obj)), p.1 ≠ D := fun p hp => by cases hp
  have F1 : Fr h₀ L (s.heap.update D (Obj.mapSeq fun _ => (#[] : Array Value))) m := F.change (Heap.SameBut.update ..) z.2.1 z.2.2
  have N1 := ki_turn (pre := []) (fun _ => (#[] : Array Value)) (its' := #[]) (n' := 1) N a b rfl (by rw [if_neg (by simpa using (Nat.ne_of_lt hne))])
  have N2 := News.grown N1 fun _ _ e => Heap.get?_push_of_some (seqObj "tuple" vs.toArray 0) e
  have N3 := News.grown N2 fun _ _ e => Heap.get?_push_of_some (seqObj "list" #[] 0) e
  have N4 := ki_turn (pre := []) (fun _ => out) (its' := out) (n' := 2) N3 a b rfl (by rw [if_neg (by simpa using hlen)])
  have F4 : Fr h₀ L ((((s.heap.update D (Obj.mapSeq fun _ => (#[] : Array Value))).push (seqObj "tuple" vs.toArray 0)).push (seqObj "list" #[] 0)).update D (Obj.mapSeq fun _ => out)) m :=
    ((F1.push (seqObj "tuple" vs.toArray 0)).push (seqObj "list" #[] 0)).change (Heap.SameBut.update ..) z.2.1 z.2.2
  exact h out ns' _ hI' hp hP F4 N4
theorem set_sorted {Q : Value → Shared → Prop} (hh : A.handled = none) (F : Fr h₀ L s.heap m) (N : News h₀ L s.heap news) (hm : (a, o) ∈ news) (hI : IS w o b) (hN : NS w o b) (ok : belOk b = true) (hne : 0 < (bitsL b).length)
    (hso : ((bitsL b).map Int.ofNat).Pairwise (· ≤ ·))
    (h : ∀ (D : Addr) (vs : List Value) h' tk, Fr h₀ L h' m → News h₀ L h' ((D, listOf vs.toArray 2) :: news) → (∀ q ∈ news, q.1 < D) → IntsAre vs ((bitsL b).map Int.ofNat) → Q (.ref D) { s with heap := h', toks := tk }) :
    wpAny (model prog w) A (call (.builtin "sorted") [.ref a]) Q E s := by
  obtain ⟨hex, es', ep', t', hd', hf', _, hE⟩ := hI
  obtain ⟨es, ep, hd, hk⟩ := hN
  rw [hd] at hd'
  injection hd' with e1 e2 e3
  subst e1 e2 e3
  have hsz : (bitsL b).length = es.size := by
    have := congrArg List.length hk
    simpa [keysL] using this.symm
  have hbel : ∀ j, j ≤ es.size → SetTable.below (bitsL b).toArray (if j = 0 then 0 else (bitsL b).getD (j - 1) 0 + 1) = j := fun j hj => by
    have := List.all_eq_true.mp ok j (List.mem_range.mpr (by omega))
    exact eq_of_beq this
  have h8 : es.size ≤ 8 := by
    rw [← hsz]; unfold bitsL; refine Nat.le_trans (List.length_filter_le _ _) ?_; simp
  refine kdu_sorted (set_src hex hd hf' hbel) hh F N (N _ hm).1 (by rw [sizeLine_eq]; omega) fun D h' tk vs F' N' l1 hl hv => ?_
  have hvs : vs = ordL w a ep es := by
    apply List.ext_getElem?
    intro j
    cases hj : vs[j]? with
    | some v => exact (hv j v hj).symm
    | none =>
      have : vs.length ≤ j := by simpa using hj
      rw [List.getElem?_eq_none (by rw [ordL_length]; omega)]
  have hint : ∀ v ∈ vs, ∃ k tk, v = Value.int k tk := fun v hv => by
    rw [hvs] at hv
    obtain ⟨e, he, rfl⟩ := List.mem_map.mp (ordL_perm.mem_iff.mp hv)
    obtain ⟨k, tk, rfl⟩ := hE.ents e he
    exact ⟨k, tk, rfl⟩
  have hp : List.Perm (vs.map keyV) ((bitsL b).map Int.ofNat) := by
    rw [← hk, hvs]
    have := (ordL_perm (w := w) (a := a) (ep := ep) (es := es)).map keyV
    rw [List.map_map] at this
    exact this
  refine sort_head F' N' l1 (ints_of hint) (by omega) (by omega) fun out ns' h'' hI' hp' hP F'' N'' => ?_
  have : ns' = (bitsL b).map Int.ofNat := lks_uniq (hp'.trans hp) hP hso
  subst this
  exact h D out.toList h'' tk F'' (by rw [Array.toArray_toList]; exact N'') l1 hI'
end
end

section
theorem wtCS6 : True := by
  w_top off
  trivial
open PySem PySem.W PyProof.Rows PySem.Calls
/-- a while-turn's end where the turn may have drawn -/
noncomputable def WEndD {σ : Type} (mp : σ → Str → Option Value) (led : σ → List (Addr × Obj)) (P : Nat → σ → Prop) (n : Nat) (h₀ : Heap) (L : Addr) (s : Shared) (f : Flow) (s₃ : Shared) : Prop :=
  (f = .next ∨ f = .cont) ∧ ∃ h' tk dr m' n' c' k, s₃ = { s with heap := h', toks := tk, drawn := dr } ∧ Fr h₀ L h' m' ∧ News h₀ L h' n' ∧ (∀ p ∈ led c', p ∈ n') ∧ (∀ y, m' y = mp c' y) ∧ k < n ∧ P k c'
theorem WEndD.intro {σ : Type} {mp : σ → Str → Option Value} {led : σ → List (Addr × Obj)} {P : Nat → σ → Prop} {n : Nat} {h₀ : Heap} {L : Addr} {s : Shared} {h' : Heap} {tk : Nat} {dr : Drawn} {m' : Str → Option Value} {n' : List (Addr × Obj)} {f : Flow} (c' : σ) (k : Nat)
    (hf : f = .next ∨ f = .cont) (F : Fr h₀ L h' m') (N : News h₀ L h' n') (hs : ∀ p ∈ led c', p ∈ n') (hm : ∀ y, m' y = mp c' y) (hk : k < n) (hp : P k c') : WEndD mp led P n h₀ L s f { s with heap := h', toks := tk, drawn := dr } :=
  ⟨hf, h', tk, dr, m', n', c', k, rfl, F, N, hs, hm, hk, hp⟩
section
variable {prog : Program} {w : World} {A : Around} {E : Value → Shared → Prop} {Q : Flow → Shared → Prop} {s : Shared} {env : Env} {h₀ : Heap} {L : Addr}
theorem While_D {σ : Type} {test : Expr} {body : List Stmt} {pos : Pos} {m₀ : Str → Option Value} {news : List (Addr × Obj)} (stored : List Str) (uf : σ → Str → Option Value) (led : σ → List (Addr × Obj)) (P : Nat → σ → Prop) (n₀ : Nat) (c₀ : σ)
    (F : Fr h₀ L s.heap m₀) (N : News h₀ L s.heap news) (hm₀ : ∀ y, m₀ y = offs stored (uf c₀) m₀ y) (hled : ∀ p ∈ led c₀, p ∈ news) (h0 : P n₀ c₀)
    (turn : ∀ n c h tk dr, P n c → Fr h₀ L h (offs stored (uf c) m₀) → News h₀ L h (led c) →
      wpAny (model prog w) A (isTrue test env (eval test env)) (fun b s₂ =>
        if b = true then wpAny (model prog w) A (execs body env) (WEndD (fun c => offs stored (uf c) m₀) led P n h₀ L s) E s₂ else Q .next s₂) E { s with heap := h, toks := tk, drawn := dr })
    (hE : PassesOwn (model prog w) A env E := by passes_own) :
    wpAny (model prog w) A (exec (.While test body [] pos) env) Q E s := by
  have em₀ : m₀ = offs stored (uf c₀) m₀ := funext hm₀
  refine wpAny_While (codeAny_whileLoop (fun n s' => ∃ h₁ tk₁ dr c, s' = { s with heap := h₁, toks := tk₁, drawn := dr } ∧ Fr h₀ L h₁ (offs stored (uf c) m₀) ∧ News h₀ L h₁ (led c) ∧ P n c) ?_ n₀ ⟨s.heap, s.toks, s.drawn, c₀, rfl, em₀ ▸ F, fun p hp => N p (hled p hp), h0⟩)
  rintro n s' ⟨h₁, tk₁, dr, c, rfl, F₁, N₁, hP⟩
  refine wpAny_mono (turn n c h₁ tk₁ dr hP F₁ N₁) (fun b s₂ h₂ => ?_) hE
  cases b with
  | false =>
    simp only [Bool.false_eq_true, if_false] at h₂ ⊢
    exact wpAny_execs_nil h₂
  | true =>
    simp only [if_true] at h₂ ⊢
    refine wpAny_mono h₂ (fun f s₃ h₃ => ?_) hE
    obtain ⟨hf, h', tk, dr', m', n', c', k, rfl, F', N', hs, hm, hk, hp⟩ := h₃
    have em : m' = offs stored (uf c') m₀ := funext hm
    have fin : ∃ k, k < n ∧ ∃ h₁ tk₁ dr c, ({ s with heap := h', toks := tk, drawn := dr' } : Shared) = { s with heap := h₁, toks := tk₁, drawn := dr } ∧ Fr h₀ L h₁ (offs stored (uf c) m₀) ∧ News h₀ L h₁ (led c) ∧ P k c :=
      ⟨k, hk, h', tk, dr', c', rfl, em ▸ F', fun p hp => N' p (hs p hp), hp⟩
    rcases hf with rfl | rfl
    · exact fin
    · exact fin
end
/-- an iterator over a list, at the place i -/
noncomputable def liObj (l : Addr) (i : Nat) : Obj := { cls := .type "list_iterator", data := .fields #[.ref l, .int i 0] }
section
variable {prog : Program} {w : World} {A : Around} {E : Value → Shared → Prop} {s : Shared} {h₀ : Heap} {L l it : Addr} {m : Str → Option Value} {news : List (Addr × Obj)} {g : Obj → List (Addr × Obj)} {vs : List Value} {n i : Nat}
theorem li_iter {Q : Value → Shared → Prop} (F : Fr h₀ L s.heap m) (N : News h₀ L s.heap news) (hl : (l, listOf vs.toArray n) ∈ news)
    (h : ∀ (I : Addr) h', Fr h₀ L h' m → News h₀ L h' ((I, liObj l 0) :: news) → (∀ p ∈ news, p.1 < I) → Q (.ref I) { s with heap := h' }) :
    wpAny (model prog w) A (call (.builtin "iter") [.ref l]) Q E s := by
  refine call_function_entry (by decide +kernel) (by decide +kernel) kdk_entry_iter (kdk_args_iter _) ?_
  unfold Builtin.«iter»
  refine wpAny_bind (m := someArgs "iter" 1 2 _) (wpAny_of_eq (a := [Value.ref l]) (by first | rfl | kernel_rfl!) ?_)
  show wpAny _ _ (pyIter (.ref l) >>= _) _ _ _
  refine wpAny_bind (wpAny_pyIter_list (items := vs.toArray) ⟨_, (N _ hl).1, rfl, n, rfl⟩ ?_)
  exact wpAny_pure ⟨_, rfl, h _ _ (F.push _) (News.push F N _ rfl) (fun q hq => Heap.lt_size (N q hq).1)⟩
theorem li_next {x : Value} {Q : Value → Shared → Prop} (F : Fr h₀ L s.heap m) (N : News h₀ L s.heap news) (U : UpdF it (liObj l i) news g) (hl : (l, listOf vs.toArray n) ∈ news) (hx : vs[i]? = some x)
    (h : ∀ h', Fr h₀ L h' m → News h₀ L h' (g (liObj l (i + 1))) → Q x { s with heap := h' }) :
    wpAny (model prog w) A (call (.builtin "next") [.ref it]) Q E s := by
  obtain ⟨pre, post, hl0, hg, a, b⟩ := U.split
  have hmem : (it, liObj l i) ∈ news := by rw [hl0]; exact List.mem_append_right _ (.head _)
  have hm := N (it, liObj l i) hmem
  have hT : s.TypeIs (.ref it) "list_iterator" := ⟨_, hm.1, rfl⟩
  refine call_function_entry (by decide +kernel) (by decide +kernel) kdk_entry_next (kdk_args_next _) ?_
  unfold Builtin.«next»
  refine wpAny_bind (m := someArgs "next" 1 2 _) (wpAny_of_eq (a := [Value.ref it]) (by first | rfl | kernel_rfl!) ?_)
  dsimp only
  refine wpAny_bind (wpAny_specialOf (name := Str.ofString "__next__") hT slot_listiter_next.lookup ?_)
  refine wpAny_ite_split (fun hab => absurd hab (by decide)) (fun _ => ?_)
  refine wpAny_bind (wpAny_callSpecial?_slot (name := Str.ofString "__next__") hT slot_listiter_next (wpAny_call_entry slot_listiter_next hT entry_listiter_next ?_ (args_listiter_next _)))
  show wpAny _ _ (field (.ref it) 0 >>= _) _ _ s
  refine wpAny_bind (wpAny_field hm.1 rfl (x := .ref l) rfl ?_)
  show wpAny _ _ (if (Value.ref l == Value.none) = true then _ else _) _ _ s
  rw [if_neg (show ¬ ((Value.ref l == Value.none) = true) from Bool.false_ne_true)]
  show wpAny _ _ (field (.ref it) 1 >>= _) _ _ s
  refine wpAny_bind (wpAny_field hm.1 rfl (x := .int i 0) rfl ?_)
  show wpAny _ _ (seqItems? (.ref l) >>= _) _ _ s
  refine wpAny_bind (wpAny_seqItems (N _ hl).1 rfl ?_)
  simp only [Int.toNat_natCast, List.getElem?_toArray, hx]
  have e2 : Obj.mapFields (·.setIfInBounds 1 (rawInt ((i : Int) + 1))) (liObj l i) = liObj l (i + 1) := rfl
  have hsb := Heap.SameBut.update s.heap it (Obj.mapFields (·.setIfInBounds 1 (rawInt ((i : Int) + 1))))
  have hg1 : (s.heap.update it (Obj.mapFields (·.setIfInBounds 1 (rawInt ((i : Int) + 1))))).get? it = some (liObj l (i + 1)) := by
    have := Heap.get?_update_self (Obj.mapFields (·.setIfInBounds 1 (rawInt ((i : Int) + 1)))) hm.1 (by rw [e2]; rfl)
    rw [e2] at this; exact this
  refine wpAny_bind (wpAny_setField hm.1 rfl (by simp) (wpAny_pure ⟨x, rfl, ?_⟩))
  exact wpAny_pure ⟨_, rfl, h _ (F.change hsb hm.2.1 hm.2.2) (hg _ ▸ (show News h₀ L s.heap (pre ++ (it, liObj l i) :: post) from hl0 ▸ N).setIn a b hsb hg1)⟩
end
section
variable {prog : Program} {w : World} {A : Around} {E : Value → Shared → Prop} {s : Shared} {env : Env} {h₀ : Heap} {target : Expr} {body : List Stmt} {Q : Flow → Shared → Prop}
noncomputable def IPost (P : (Str → Option Value) → List (Addr × Obj) → Prop) (h₀ : Heap) (L I : Addr) (io : Obj) (s₁ : Shared) (f : Flow) (s₃ : Shared) : Prop :=
  f = .next ∧ ∃ h' tk m' n', s₃ = { s₁ with heap := h', toks := tk } ∧ Fr h₀ L h' m' ∧ News h₀ L h' ((I, io) :: n') ∧ (∀ p ∈ n', p.1 ≠ I) ∧ P m' n'
theorem IPost.intro {P : (Str → Option Value) → List (Addr × Obj) → Prop} {L I : Addr} {io : Obj} {s₁ : Shared} {h' : Heap} {tk : Nat} {m' : Str → Option Value} {nn : List (Addr × Obj)} (n' : List (Addr × Obj))
    (F : Fr h₀ L h' m') (N : News h₀ L h' nn) (hI : (I, io) ∈ nn) (hs : ∀ p ∈ n', p ∈ nn) (ho : ∀ p ∈ n', p.1 ≠ I) (hp : P m' n') : IPost P h₀ L I io s₁ .next { s₁ with heap := h', toks := tk } :=
  ⟨rfl, h', tk, m', n', rfl, F, fun p hp => by rcases List.mem_cons.mp hp with rfl | hp; exact N _ hI; exact N _ (hs p hp), ho, hp⟩
theorem iter_it {I ax : Addr} {vs : List Value} {n k : Nat} {m₀ : Str → Option Value} {news : List (Addr × Obj)} (P : Nat → (Str → Option Value) → List (Addr × Obj) → Prop)
    (hh : A.handled = none) (F : Fr h₀ env.locals s.heap m₀) (N : News h₀ env.locals s.heap ((I, liObj ax k) :: news)) (hI : ∀ p ∈ news, p.1 ≠ I) (hl : (ax, listOf vs.toArray n) ∈ news) (hk : k ≤ vs.length) (h0 : P 0 m₀ news)
    (hkeep : ∀ i m' n', P i m' n' → (ax, listOf vs.toArray n) ∈ n')
    (turn : ∀ i v m₁ news₁ io₁ h tk, vs[k + i]? = some v → P i m₁ news₁ → (∀ p ∈ news₁, p.1 ≠ I) → Fr h₀ env.locals h m₁ → News h₀ env.locals h ((I, io₁) :: news₁) →
      wpAny (model prog w) A (assign target env v) (fun _ s₂ => wpAny (model prog w) A (execs body env) (IPost (P (i + 1)) h₀ env.locals I io₁ { s with heap := h, toks := tk }) E s₂) E { s with heap := h, toks := tk })
    (done : ∀ m' n' h tk, P (vs.length - k) m' n' → Fr h₀ env.locals h m' → News h₀ env.locals h n' → Q .next { s with heap := h, toks := tk }) :
    wpAny (model prog w) A (pyIter (.ref I)) (fun it s₂ => TurnsAt prog w A h₀ env target body Q E it s₂) E s := by
  have zI := N _ (List.mem_cons_self ..)
  have zl := N _ (List.mem_cons_of_mem _ hl)
  have hne : ax ≠ I := hI _ hl
  have hit : s.heap.IsListIter I ax k := ⟨_, zI.1, rfl, rfl⟩
  have hls : s.heap.IsList ax vs.toArray := ⟨_, zl.1, rfl, n, rfl⟩
  refine wpAny_pyIter_listiter hit ?_
  have hsz : vs.toArray.size = vs.length := List.size_toArray ..
  refine ⟨I, [I, ax], [I], vs.toArray.size - k, _, _, _, m₀, news, P, rfl,
    KTurns.ofWalks (kun_shift (Walks.list hh I ax hne vs.toArray) (by rw [hsz]; exact hk)) (fun i v s Q E st q => letGo_listiter st.1 q), ?_, ?_, ?_, ⟨hit, hls⟩, F, fun p hp => N p (List.mem_cons_of_mem _ hp), h0, ?_, ?_⟩
  · intro hL
    rcases List.mem_cons.mp hL with e | hL
    · exact zI.2.1 e.symm
    · rw [List.mem_singleton] at hL; exact zl.2.1 hL.symm
  · intro b hb; rw [List.mem_singleton] at hb; subst hb; exact zI.2.2
  · intro p hp hb; rw [List.mem_singleton] at hb; exact hI p hp hb
  · intro i v m₁ news₁ h₁ tk₁ own hi hv hP hn1 ho1 ho2 ho3 st F₁ N₁
    have hn1' : ∀ p ∈ news₁, p.1 ≠ I := fun p hp e => hn1 p hp (by rw [List.mem_singleton]; exact e)
    obtain ⟨io₁, hio, _⟩ := st.1
    have hmI : (I, io₁) ∈ own := ho3 I (List.mem_cons_self ..) zI.2.2 io₁ hio
    have hla := hkeep i m₁ news₁ hP
    have hv' : vs[k + i]? = some v := by have := hv; simpa using this
    refine wpAny_mono (turn i v m₁ news₁ io₁ h₁ tk₁ hv' hP hn1' F₁ (fun p hp => by
      rcases List.mem_cons.mp hp with rfl | hp
      · exact N₁ _ (List.mem_append_left _ hmI)
      · exact N₁ _ (List.mem_append_right _ hp))) (fun _ s₂ h₂ => wpAny_mono h₂ (fun f s₃ h₃ => ?_) fun _ _ e => e) fun _ _ e => e
    obtain ⟨rfl, h', tk, m', n', rfl, F', N', hn', hP'⟩ := h₃
    refine LoopStepV.next (LoopStepU.intro F' (fun p hp => ?_) (fun p hp hb => hn' p hp (by rwa [List.mem_singleton] at hb)) hP')
    rcases List.mem_append.mp hp with hp | hp
    · have e1 := ho2 p hp
      have hf := ho1 p hp
      obtain ⟨pa, po⟩ := p
      dsimp only at e1 hf
      rcases List.mem_cons.mp hf with e | hf
      · subst e
        rw [hio] at e1
        injection e1 with e1
        subst e1
        exact N' _ (List.mem_cons_self ..)
      · rw [List.mem_singleton] at hf
        subst hf
        rw [(N₁ _ (List.mem_append_right _ hla)).1] at e1
        injection e1 with e1
        subst e1
        exact N' _ (List.mem_cons_of_mem _ (hkeep _ _ _ hP'))
    · exact N' _ (List.mem_cons_of_mem _ hp)
  · intro h' tk m' news' F' N' _ hP'
    rw [hsz] at hP'
    exact done m' news' h' tk hP' F' N'
end
end

section
theorem wtPN : True := by
  w_top off
  trivial
/-- plain: one pop of the number k -/
noncomputable def popN (st : Nat × Nat × Nat) (k : Nat) : Nat × Nat × Nat :=
  if st.1.testBit k = true ∨ k ≤ 1 then (st.1, st.2.1, st.2.2 ^^^ 1 <<< k)
  else (st.1 ||| 1 <<< k, st.2.1 ||| 1 <<< (k / 2), if k % 2 = 1 then ((st.2.2 ^^^ 1 <<< k) ||| 1 <<< (k / 2)) ||| 1 <<< (k / 2 + 1) else (st.2.2 ^^^ 1 <<< k) ||| 1 <<< (k / 2))
noncomputable def bitN (n : Nat) : Nat := ((List.range 16).filter fun k => n.testBit k).length
noncomputable def measN (st : Nat × Nat × Nat) : Nat := 3 * (16 - bitN st.1) + bitN st.2.2
noncomputable def RS11 : List (Nat × Nat × Nat) := [(0, 0, 2048), (2048, 32, 96), (2080, 36, 76), (2112, 40, 40), (2120, 42, 38), (2144, 44, 12), (2148, 46, 10), (2152, 46, 6), (2152, 46, 4), (2156, 46, 2), (2156, 46, 0), (2148, 46, 8), (2156, 46, 6), (2156, 46, 4), (2120, 42, 36), (2124, 42, 34), (2152, 46, 14), (2152, 46, 12), (2156, 46, 10), (2156, 46, 8), (2124, 42, 32), (2156, 46, 14), (2156, 46, 12), (2084, 38, 74), (2088, 38, 70), (2088, 38, 68), (2092, 38, 66), (2092, 38, 64), (2084, 38, 72), (2092, 38, 70), (2092, 38, 68)]
noncomputable def KS11 : List Nat := [1, 2, 3, 5, 6, 11]
theorem rs11_pop : ∀ st ∈ RS11, ∀ k ∈ List.range 16, st.2.2.testBit k = true → k ∈ KS11 ∧ popN st k ∈ RS11 ∧ measN (popN st k) < measN st ∧ (st.1.testBit k = true ∨ k ≤ 1 ∨ nsAdd st.2.1 (k / 2) = true) := by decide +kernel
theorem rs11_end : ∀ st ∈ RS11, st.2.2 = 0 → st.2.1 = 46 := by decide +kernel
theorem rs11_small : ∀ st ∈ RS11, st.1 < 65536 ∧ st.2.1 < 65536 ∧ st.2.2 < 65536 := by decide +kernel
noncomputable def RS13 : List (Nat × Nat × Nat) := [(0, 0, 8192), (8192, 64, 192), (8256, 72, 136), (8320, 72, 88), (8328, 74, 86), (8336, 76, 76), (8384, 72, 24), (8392, 74, 22), (8400, 76, 12), (8404, 78, 10), (8408, 78, 6), (8408, 78, 4), (8412, 78, 2), (8412, 78, 0), (8404, 78, 8), (8412, 78, 6), (8412, 78, 4), (8392, 74, 20), (8396, 74, 18), (8396, 74, 16), (8340, 78, 74), (8344, 78, 70), (8344, 78, 68), (8348, 78, 66), (8408, 78, 14), (8408, 78, 12), (8412, 78, 10), (8412, 78, 8), (8348, 78, 64), (8340, 78, 72), (8348, 78, 70), (8348, 78, 68), (8412, 78, 14), (8412, 78, 12), (8328, 74, 84), (8332, 74, 82), (8392, 74, 30), (8392, 74, 28), (8396, 74, 26), (8396, 74, 24), (8332, 74, 80), (8264, 74, 134), (8264, 74, 132), (8268, 74, 130), (8268, 74, 128)]
noncomputable def KS13 : List Nat := [1, 2, 3, 4, 6, 7, 13]
theorem rs13_pop : ∀ st ∈ RS13, ∀ k ∈ List.range 16, st.2.2.testBit k = true → k ∈ KS13 ∧ popN st k ∈ RS13 ∧ measN (popN st k) < measN st ∧ (st.1.testBit k = true ∨ k ≤ 1 ∨ nsAdd st.2.1 (k / 2) = true) := by decide +kernel
theorem rs13_end : ∀ st ∈ RS13, st.2.2 = 0 → st.2.1 = 78 := by decide +kernel
theorem rs13_small : ∀ st ∈ RS13, st.1 < 65536 ∧ st.2.1 < 65536 ∧ st.2.2 < 65536 := by decide +kernel
end

section
local macro_rules | `(tactic| k_room) => `(tactic| ktr_room)
local macro_rules | `(tactic| k_ne) => `(tactic| (refine neN ?_; (try dsimp only); first | with_reducible assumption | exact Nat.ne_of_lt (by with_reducible assumption) | exact Nat.ne_of_gt (by with_reducible assumption)))
local macro_rules | `(tactic| walk_at "zA") => `(tactic| (rename AllLt _ _ => q9; first | exact Nat.ne_of_lt (Nat.lt_of_lt_of_le (allLt_mem q9 _ (by assumption)) (by omega)) | (clear q9; walk_at "zA")))
local macro_rules | `(tactic| k_all) => `(tactic| first | ((with_reducible refine List.forall_mem_cons.mpr ⟨?_, ?_⟩); (· k_ne); k_all) | (intro p9 hp9; exact Nat.ne_of_lt (allLt_mem (by with_reducible assumption) p9 hp9)) | with_reducible assumption | (intro p9 hp9; walk_at "zA"))
local macro_rules | `(tactic| k_lt $h:ident) => `(tactic| (replace $h := allLt_of $h; (repeat (have _ := allLt_hd $h; replace $h := allLt_tl $h))))
local macro_rules | `(tactic| k_mem) => `(tactic| first | exact List.Mem.head _ | (refine' List.mem_cons_of_mem _ ?_; k_mem))
local macro_rules | `(tactic| walk_at "execs cons") => `(tactic| (k_here; (fail_if_success (fail_if_success k_gentoks)); refine genTok ?_; intro tk'))
local macro_rules | `(tactic| walk_at "execs nil") => `(tactic| (k_here; (fail_if_success (fail_if_success k_gentoks)); refine genTok ?_; intro tk'))
local macro_rules | `(tactic| omega) => `(tactic| first | decide +kernel | exact rm1 (by with_reducible assumption) (by decide +kernel) | exact rm2 (by with_reducible assumption) (by decide +kernel))
local macro_rules | `(tactic| walk_at "zF") => `(tactic| (k_here; (rename Fr _ _ _ _ => lF'); (with_unfolding_all refine' For_turns lF' ?_); k_whole))
local macro_rules | `(tactic| walk_at "zM") => `(tactic| (repeat (first | assumption | refine List.mem_cons_of_mem _ ?_)))
local macro_rules | `(tactic| walk_at "LPost") => `(tactic| dsimp only [LPost])

section
theorem wtC1 : True := by
  w_top off
  trivial
theorem isPat_name {w : World} {h : Heap} (X : (hd.heap_39 w.params).In h) : IsPat h 126 nameCode := by
  refine ⟨⟨?o, ?vs, 125, ?oc, ?items, ?ep, X 126 ?o ?h1, ?h2, ?h3, ?h4, ?h5, ?h6, ?h7, X 125 ?oc ?h8, ?h9, ?h10⟩⟩
  case h1 => rfl
  case h8 => rfl
  case h4 => rfl
  case h9 => rfl
  all_goals first | rfl | kernel_rfl
theorem isPat_value {w : World} {h : Heap} (X : (hd.heap_39 w.params).In h) : IsPat h 131 valueCode := by
  refine ⟨⟨?o, ?vs, 130, ?oc, ?items, ?ep, X 131 ?o ?h1, ?h2, ?h3, ?h4, ?h5, ?h6, ?h7, X 130 ?oc ?h8, ?h9, ?h10⟩⟩
  case h1 => rfl
  case h8 => rfl
  case h4 => rfl
  case h9 => rfl
  all_goals first | rfl | kernel_rfl

local macro_rules | `(tactic| walk_at "getMethod ref") => `(tactic| (k_dflt (first | refine getMethod_pat (Frag.In.keeps (by k_asm) (Fr.keep (by k_asm)) |> isPat_name) ?_ | refine getMethod_pat (Frag.In.keeps (by k_asm) (Fr.keep (by k_asm)) |> isPat_value) ?_)))
local macro_rules | `(tactic| walk_at "call builtin:re.Pattern.search") => `(tactic| (k_dflt (first | refine search_pat (Frag.In.keeps (by k_asm) (Fr.keep (by k_asm)) |> isPat_name) (.inl rfl) (Nat.le_trans (by assumption) (by decide)) (by assumption) ?_ | refine search_pat (Frag.In.keeps (by k_asm) (Fr.keep (by k_asm)) |> isPat_value) (.inr rfl) (Nat.le_trans (by assumption) (by decide)) (by assumption) ?_)))
set_option maxHeartbeats 4000000 in
theorem conv_name {w : World} {p : Program} {loose : List Str} {mean : ExcName → Option Value} {mg mb : Str → Option Value} {news : List (Addr × Obj)} {x : Addr} {v : Str} {t : Tok} (hf : Free nameCode v.cps) (hsz : v.length ≤ 100000) :
    Spec w p loose mean mg mb 4 60 (.ref 161) [.ref x, .str v t] [(Str.ofString "name", .bool true)] news (fun r news' => (∃ t', r = .str v t') ∧ news' = news) := by
  intro dp un gd cn cs a ccd cl outer A₀ base h₀ L m s Q E B F X N T hk hd hu hret
  revert X; k_fill; intro X
  refine wpAny_call ?_
  k_dflt ((first | (refine' code_def (by k_asm) (by k_asm) (by k_asm) (by k_asm) (by k_asm) rfl rfl (by assumption) (by k_is) (by k_is) (by ktr_room) (by first | exact BindsTo.of_eq rfl | exact binds_K (by k_in) rfl (by k_is) rfl rfl rfl) (by exact locs rfl) ?_ (by exact rfl) (by exact rfl) (by exact rfl) (by decide); k_whole; intro _ _ _ _ _ _ yB _ _; (try dsimp only); (try k_lift yB)) | (refine' code_defC (by k_asm) (by k_asm) (by k_asm) (by k_asm) (by k_asm) rfl rfl (by assumption) (by k_is) (by k_is) (by ktr_room) (by first | exact BindsTo.of_eq rfl | exact binds_K (by k_in) rfl (by k_is) rfl rfl rfl) (by exact rfl) (by decide +kernel) ?_ (by exact rfl) (by exact rfl) (by exact rfl); k_whole; intro _ _ _ _ _ _ _ yN yY yB _ _ yl; (try k_lt yl); k_cells yY; (try simp only [List.cons_append, List.nil_append] at yN); (try dsimp only); (try k_lift yB))); (try k_fold))
  k_steps
  all_goals exact hret _ _ _ _ ⟨⟨_, rfl⟩, rfl⟩ (by k_asm) (by k_asm)
set_option maxHeartbeats 4000000 in
theorem conv_value {w : World} {p : Program} {loose : List Str} {mean : ExcName → Option Value} {mg mb : Str → Option Value} {news : List (Addr × Obj)} {x : Addr} {v : Str} {t : Tok} (hf : Free valueCode v.cps) (hsz : v.length ≤ 100000) :
    Spec w p loose mean mg mb 4 60 (.ref 161) [.ref x, .str v t] [(Str.ofString "name", .bool false)] news (fun r news' => (∃ t', r = .str v t') ∧ news' = news) := by
  intro dp un gd cn cs a ccd cl outer A₀ base h₀ L m s Q E B F X N T hk hd hu hret
  revert X; k_fill; intro X
  refine wpAny_call ?_
  k_dflt ((first | (refine' code_def (by k_asm) (by k_asm) (by k_asm) (by k_asm) (by k_asm) rfl rfl (by assumption) (by k_is) (by k_is) (by ktr_room) (by first | exact BindsTo.of_eq rfl | exact binds_K (by k_in) rfl (by k_is) rfl rfl rfl) (by exact locs rfl) ?_ (by exact rfl) (by exact rfl) (by exact rfl) (by decide); k_whole; intro _ _ _ _ _ _ yB _ _; (try dsimp only); (try k_lift yB)) | (refine' code_defC (by k_asm) (by k_asm) (by k_asm) (by k_asm) (by k_asm) rfl rfl (by assumption) (by k_is) (by k_is) (by ktr_room) (by first | exact BindsTo.of_eq rfl | exact binds_K (by k_in) rfl (by k_is) rfl rfl rfl) (by exact rfl) (by decide +kernel) ?_ (by exact rfl) (by exact rfl) (by exact rfl); k_whole; intro _ _ _ _ _ _ _ yN yY yB _ _ yl; (try k_lt yl); k_cells yY; (try simp only [List.cons_append, List.nil_append] at yN); (try dsimp only); (try k_lift yB))); (try k_fold))
  k_steps
  all_goals exact hret _ _ _ _ ⟨⟨_, rfl⟩, rfl⟩ (by k_asm) (by k_asm)
end

section
theorem wtC2 : True := by
  w_top off
  trivial
noncomputable abbrev tup2 (k x : Value) (n : Nat) : Obj := { cls := .type "tuple", data := .seq #[k, x] n }
inductive HdrAll (news : List (Addr × Obj)) : List Value → List (Str × Str) → Prop
  | nil : HdrAll news [] []
  | cons {t : Addr} {k x : Str} {tk tx : Tok} {n : Nat} {vs : List Value} {hs : List (Str × Str)} : (t, tup2 (.str k tk) (.str x tx) n) ∈ news → HdrAll news vs hs → HdrAll news (.ref t :: vs) ((k, x) :: hs)
theorem HdrAll.length {news : List (Addr × Obj)} {vs : List Value} {hs : List (Str × Str)} (h : HdrAll news vs hs) : vs.length = hs.length := by
  induction h with
  | nil => rfl
  | cons _ _ ih => rw [List.length_cons, List.length_cons, ih]
theorem HdrAll.mono {news news' : List (Addr × Obj)} {vs : List Value} {hs : List (Str × Str)} (h : HdrAll news vs hs) (hn : ∀ p ∈ news, p ∈ news') : HdrAll news' vs hs := by
  induction h with
  | nil => exact .nil
  | cons hm _ ih => exact .cons (hn _ hm) ih
theorem HdrAll.get {news : List (Addr × Obj)} {vs : List Value} {hs : List (Str × Str)} (h : HdrAll news vs hs) : ∀ {i : Nat} {v : Value}, vs[i]? = some v → ∃ t k x tk tx n, v = .ref t ∧ (t, tup2 (.str k tk) (.str x tx) n) ∈ news ∧ hs[i]? = some (k, x) := by
  induction h with
  | nil => intro i v h; simp at h
  | cons hm _ ih =>
    intro i v h
    cases i with
    | zero => simp at h; subst h; exact ⟨_, _, _, _, _, _, rfl, hm, rfl⟩
    | succ i => simp at h; (have zq := ih h; refine ex6 zq ?_; clear zq; intro t k x tk tx n zr; refine an3 zr ?_; clear zr; intro a b c); exact ⟨t, k, x, tk, tx, n, a, b, by simpa using c⟩

/-- what a search by a (lower) name finds -/
noncomputable def hlook (nm : Str) (hs : List (Str × Str)) : Option Str := (hs.find? fun p => Txt.lower p.1 == nm).map (·.2)
noncomputable def hgot (nm : Str) (hs : List (Str × Str)) (r : Value) : Prop := match hlook nm hs with
  | none => r = .none
  | some x => ∃ t, r = .str x t

theorem hlook_hit {nm : Str} {hs : List (Str × Str)} {i : Nat} {k x : Str} (hP : ∀ q ∈ hs.take i, (Txt.lower q.1 == nm) = false) (hq : hs[i]? = some (k, x)) (he : (Txt.lower k == nm) = true) : hlook nm hs = some x := by
  unfold hlook
  have : hs.find? (fun p => Txt.lower p.1 == nm) = some (k, x) := by
    induction hs generalizing i with
    | nil => simp at hq
    | cons a r ih =>
      cases i with
      | zero => simp at hq; subst hq; simp [he]
      | succ i =>
        simp at hq
        have h1 : (Txt.lower a.1 == nm) = false := hP a (by simp)
        rw [List.find?_cons, h1]
        exact ih (fun q hq' => hP q (by rw [List.take_succ_cons]; exact List.mem_cons_of_mem _ hq')) hq
  rw [this]; rfl
theorem hlook_miss {nm : Str} {hs : List (Str × Str)} (hP : ∀ q ∈ hs, (Txt.lower q.1 == nm) = false) : hlook nm hs = none := by
  unfold hlook
  rw [List.find?_eq_none.mpr (fun q hq => by rw [hP q hq]; exact Bool.false_ne_true)]
  rfl
theorem mem_take_succ {α : Type} {l : List α} {i : Nat} {a b : α} (h : b ∈ l.take (i + 1)) (ha : l[i]? = some a) : b ∈ l.take i ∨ b = a := by
  rw [List.take_add_one, ha] at h
  rcases List.mem_append.mp h with h | h
  · exact .inl h
  · exact .inr (by simpa using h)
local macro_rules | `(tactic| walk_at "call ref") => `(tactic| (k_here; refine stopCall [161] (by decide) ?_))
local macro_rules | `(tactic| walk_at "exec For Tuple Attribute cons nil") => `(tactic| walk_at "zF")

local macro_rules | `(tactic| walk_at "zz0") => `(tactic| skip)
set_option maxHeartbeats 4000000 in
theorem get_spec {w : World} {p : Program} {loose : List Str} {mean : ExcName → Option Value} {mg mb : Str → Option Value} {news : List (Addr × Obj)} {x dx l : Addr} {v : Str} {t : Tok} {hsh : Int} {kt : Tok} {kk ep : Nat} {vs : List Value} {hs : List (Str × Str)}
    (hx : (x, instObj 262 dx) ∈ news) (hdx : (dx, dictOf [⟨hsh, .str (Str.ofString "_headers") kt, .ref l⟩] kk) ∈ news) (hl : (l, listOf vs.toArray ep) ∈ news) (hall : HdrAll news vs hs)
    (hf : Free nameCode (Txt.lower v).cps) (hv : v.length ≤ 1000) (hks : ∀ q ∈ hs, q.1.length ≤ 1000) :
    Spec w p loose mean mg mb 5 80 (.ref 209) [.ref x, .str v t] [] news (fun r news' => hgot (Txt.lower v) hs r ∧ news' = news) := by
  intro dp un gd cn cs a ccd cl outer A₀ base h₀ L m s Q E B F X N T hk hd hu hret
  revert X; k_fill; intro X
  refine wpAny_call ?_
  k_dflt ((first | (refine' code_def (by k_asm) (by k_asm) (by k_asm) (by k_asm) (by k_asm) rfl rfl (by assumption) (by k_is) (by k_is) (by ktr_room) (by first | exact BindsTo.of_eq rfl | exact binds_K (by k_in) rfl (by k_is) rfl rfl rfl) (by exact locs rfl) ?_ (by exact rfl) (by exact rfl) (by exact rfl) (by decide); k_whole; intro _ _ _ _ _ _ yB _ _; (try dsimp only); (try k_lift yB)) | (refine' code_defC (by k_asm) (by k_asm) (by k_asm) (by k_asm) (by k_asm) rfl rfl (by assumption) (by k_is) (by k_is) (by ktr_room) (by first | exact BindsTo.of_eq rfl | exact binds_K (by k_in) rfl (by k_is) rfl rfl rfl) (by exact rfl) (by decide +kernel) ?_ (by exact rfl) (by exact rfl) (by exact rfl); k_whole; intro _ _ _ _ _ _ _ yN yY yB _ _ yl; (try k_lt yl); k_cells yY; (try simp only [List.cons_append, List.nil_append] at yN); (try dsimp only); (try k_lift yB))); (try k_fold))
  (k_steps <;> repeat' ((first | (refine hltI ?_; (with_reducible show wpAny _ _ (call (Value.ref _) _ _) _ _ _); k_dflt (first | refine' useV (S := conv_name (by first | assumption | exact free_name (by decide)) (by first | assumption | omega | decide)) (k := ?_) | refine' useV (S := conv_value (by first | assumption | exact free_value (by decide)) (by first | assumption | omega | decide)) (k := ?_)); intro _ _ _ _ _; (try dsimp only); (try k_fold))); k_steps))
  rename Fr _ _ _ _ => lF'
  rename News _ _ _ _ => lN'
  refine iter_list1 [Str.ofString "k", Str.ofString "v"] (fun _ : Unit => news) (fun i _ => ∀ q ∈ hs.take i, (Txt.lower q.1 == Txt.lower v) = false) () (by rfl) lF' lN' hl rfl rfl (fun _ h => h) (by simp) (fun _ _ _ => hl) ?_ ?_
  · intro i u c u' I it h tk hv' hP hit hI ho F' N'
    (have zq := hall.get hv'; refine ex6 zq ?_; clear zq; intro t1 k1 x1 tk1 tx1 n1 zr; refine an3 zr ?_; clear zr; intro ze1 hm1 hq1; subst ze1)
    have hk1 : k1.length ≤ 1000 := hks (k1, x1) (List.mem_of_getElem? hq1)
    clear lF' lN'
    have hT1 : IsTup h t1 #[Value.str k1 tk1, Value.str x1 tx1] := ⟨_, (N' _ (.tail _ hm1)).1, rfl, _, rfl⟩
    k_steps
    · rename News _ _ _ _ => kN
      refine hret _ news _ _ ⟨?_, rfl⟩ (by k_asm) (fun p hp => kN p (.tail _ hp))
      unfold hgot
      rw [hlook_hit hP hq1 (by assumption)]
      exact ⟨_, rfl⟩
    · rename Fr _ _ _ _ => eF
      rename News _ _ _ _ => eN
      refine LEnd.intro ((), _) eF eN (.head _) (fun p hp => .tail _ hp) ho (offs_eq ?_) ?_
      · intro y hy
        have h1 := hy _ (.head _)
        have h2 := hy _ (.tail _ (.head _))
        simp only [if_neg h1, if_neg h2, offs]
      · intro q hq
        rcases mem_take_succ hq hq1 with hq | rfl
        · exact hP q hq
        · assumption
  · intro c u' h tk hP F' N'
    clear lF' lN'
    k_steps
    refine hret _ news _ _ ⟨?_, rfl⟩ (by k_asm) (by k_asm)
    unfold hgot
    rw [hlook_miss (by rw [hall.length, List.take_length] at hP; exact hP)]
end

theorem wtC3 : True := by
  w_top off
  trivial
theorem size_of_len {vs : List Value} (h : vs.length ≤ 1000) : vs.toArray.size ≤ sizeLine := by rw [List.size_toArray]; exact Nat.le_trans h (by decide)
open PySem.Sre in
theorem free_name {v : Array Nat} (h : v.all (fun c => decide (32 ≤ c) && decide (c ≠ 127)) = true) : Free nameCode v := by
  intro i hi seen
  have := (Array.all_eq_true.mp h) i hi
  simp only [Bool.and_eq_true, decide_eq_true_eq] at this
  have e : v.getD i 0 = v[i] := by simp [Array.getD, hi]
  rw [e]
  exact inSet_name _ this.1 this.2 seen
open PySem.Sre in
theorem free_value {v : Array Nat} (h : v.all (fun c => !(decide (c < 256) && (valueCode.getD (5 + (1 + c / 32)) 0).testBit (c % 32))) = true) : Free valueCode v := by
  intro i hi seen
  have := (Array.all_eq_true.mp h) i hi
  have e : v.getD i 0 = v[i] := by simp [Array.getD, hi]
  rw [e]
  rw [Bool.not_eq_true'] at this
  exact inSet_value _ this seen
theorem hgot_none {nm : Str} {hs : List (Str × Str)} {r : Value} (h : hgot nm hs r) (hm : hlook nm hs = none) : r = .none := by
  unfold hgot at h; rw [hm] at h; exact h
theorem hgot_some {nm x : Str} {hs : List (Str × Str)} {r : Value} (h : hgot nm hs r) (hm : hlook nm hs = some x) : ∃ t, r = .str x t := by
  unfold hgot at h; rw [hm] at h; exact h


local macro_rules | `(tactic| walk_at "call ref") => `(tactic| (k_here; refine stopCall [161, 209] (by decide) ?_))

set_option maxHeartbeats 4000000 in
theorem setdefault_spec {w : World} {p : Program} {loose : List Str} {mean : ExcName → Option Value} {mg mb : Str → Option Value} {rest : List (Addr × Obj)} {x dx l : Addr} {v y : Str} {t ty : Tok} {hsh : Int} {kt : Tok} {kk ep : Nat} {vs : List Value} {hs : List (Str × Str)}
    (hx : (x, instObj 262 dx) ∈ rest) (hdx : (dx, dictOf [⟨hsh, .str (Str.ofString "_headers") kt, .ref l⟩] kk) ∈ rest) (hall : HdrAll rest vs hs) (hoff : ∀ p ∈ rest, p.1 ≠ l)
    (hmiss : hlook (Txt.lower v) hs = none)
    (hf : Free nameCode (Txt.lower v).cps) (hf2 : Free nameCode v.cps) (hf3 : Free valueCode y.cps) (hv : v.length ≤ 1000) (hyl : y.length ≤ 1000) (hks : ∀ q ∈ hs, q.1.length ≤ 1000) (hlen : vs.length ≤ 1000) :
    Spec w p loose mean mg mb 10 160 (.ref 252) [.ref x, .str v t, .str y ty] [] ((l, listOf vs.toArray ep) :: rest) (fun r news' => (∃ t', r = .str y t') ∧ ∃ T tv ty n ep', news' = (T, tup2 (.str v tv) (.str y ty) n) :: (l, listOf (vs ++ [Value.ref T]).toArray ep') :: rest ∧ T ≠ l ∧ ∀ p ∈ rest, p.1 ≠ T) := by
  intro dp un gd cn cs a ccd cl outer A₀ base h₀ L m s Q E B F X N T hk hd hu hret
  revert X; k_fill; intro X
  refine wpAny_call ?_
  have hsz9 := size_of_len hlen
  k_dflt ((first | (refine' code_def (by k_asm) (by k_asm) (by k_asm) (by k_asm) (by k_asm) rfl rfl (by assumption) (by k_is) (by k_is) (by ktr_room) (by first | exact BindsTo.of_eq rfl | exact binds_K (by k_in) rfl (by k_is) rfl rfl rfl) (by exact locs rfl) ?_ (by exact rfl) (by exact rfl) (by exact rfl) (by decide); k_whole; intro _ _ _ _ _ _ yB _ _; (try dsimp only); (try k_lift yB)) | (refine' code_defC (by k_asm) (by k_asm) (by k_asm) (by k_asm) (by k_asm) rfl rfl (by assumption) (by k_is) (by k_is) (by ktr_room) (by first | exact BindsTo.of_eq rfl | exact binds_K (by k_in) rfl (by k_is) rfl rfl rfl) (by exact rfl) (by decide +kernel) ?_ (by exact rfl) (by exact rfl) (by exact rfl); k_whole; intro _ _ _ _ _ _ _ yN yY yB _ _ yl; (try k_lt yl); k_cells yY; (try simp only [List.cons_append, List.nil_append] at yN); (try dsimp only); (try k_lift yB))); (try k_fold))
  (k_steps <;> repeat' ((first | (refine hltI ?_; (with_reducible show wpAny _ _ (call (Value.ref _) _ _) _ _ _); k_dflt (refine' use (S := get_spec (by k_mem) (by k_mem) (by k_mem) (by first | assumption | (refine HdrAll.mono (by assumption) (fun _ h9 => ?_); (repeat (refine List.mem_cons_of_mem _ ?_)); exact h9)) (by first | assumption | exact free_name (by decide)) (by first | assumption | omega | decide) (by assumption)) (k := ?_)); intro _ _ _ _ R9 _ _; (have zq := R9; (try clear R9); refine an2 zq ?_; clear zq; intro R9 e8); (replace e8 := Eq.symm e8); subst e8; (first | ((replace R9 := hgot_none R9 (by assumption)); subst R9) | (obtain ⟨_, e9⟩ := hgot_some R9 (by assumption); subst e9)); (try dsimp only); (try k_fold)) | (refine hltI ?_; (with_reducible show wpAny _ _ (call (Value.ref _) _ _) _ _ _); k_dflt (first | refine' useV (S := conv_name (by first | assumption | exact free_name (by decide)) (by first | assumption | omega | decide)) (k := ?_) | refine' useV (S := conv_value (by first | assumption | exact free_value (by decide)) (by first | assumption | omega | decide)) (k := ?_)); intro _ _ _ _ _; (try dsimp only); (try k_fold))); k_steps))
  rename News _ _ _ _ => kN
  rename AllLt _ _ => l1
  rw [List.push_toArray] at kN
  exact hret _ _ _ _ ⟨⟨_, rfl⟩, _, _, _, _, _, rfl, Nat.ne_of_gt (by assumption), fun p hp => Nat.ne_of_lt (allLt_mem l1 p hp)⟩ (by k_asm) kN

section
theorem wtC4 : True := by
  w_top off
  trivial
local macro_rules | `(tactic| walk_at "eval Slice") => `(tactic| (k_here; (with_reducible show wpAny _ _ (eval (Expr.Slice Option.none Option.none Option.none _) _) _ _ _); refine hlt ?_))
local macro_rules | `(tactic| walk_at "setItem ref ref") => `(tactic| (k_here; refine hlt ?_))

open LCt LCg LCp
local macro_rules | `(tactic| walk_at "eval ListComp") => `(tactic| (k_dflt (refine ListComp_T (F₀ := by k_asm) (by with_unfolding_all rfl) (by decide) (by rfl) (by decide) (by rfl) ?_)))
theorem HdrAll.snoc {news : List (Addr × Obj)} {vs : List Value} {hs : List (Str × Str)} (h : HdrAll news vs hs) {t : Addr} {k x : Str} {tk tx : Tok} {n : Nat} (hm : (t, tup2 (.str k tk) (.str x tx) n) ∈ news) : HdrAll news (vs ++ [.ref t]) (hs ++ [(k, x)]) := by
  induction h with
  | nil => exact .cons hm .nil
  | cons a _ ih => exact .cons a ih
theorem take_filter_in {α : Type} {l : List α} {i : Nat} {a : α} {p : α → Bool} (h : l[i]? = some a) (hp : p a = true) : (l.take (i + 1)).filter p = (l.take i).filter p ++ [a] := by
  rw [List.take_add_one, h, List.filter_append]; simp [hp]
theorem take_filter_out {α : Type} {l : List α} {i : Nat} {a : α} {p : α → Bool} (h : l[i]? = some a) (hp : p a = false) : (l.take (i + 1)).filter p = (l.take i).filter p := by
  rw [List.take_add_one, h, List.filter_append]; simp [hp]
theorem off1_mem {D : Addr} : ∀ {l : List (Addr × Obj)}, Off1 D l → ∀ p ∈ l, p.1 ≠ D
  | [], _, _, h => nomatch h
  | _ :: _, x, p, h => by
    rcases List.mem_cons.mp h with rfl | h
    · exact x.1
    · exact off1_mem x.2 p h
set_option maxHeartbeats 4000000 in
theorem del_spec {w : World} {p : Program} {loose : List Str} {mean : ExcName → Option Value} {mg mb : Str → Option Value} {rest : List (Addr × Obj)} {x dx l : Addr} {v : Str} {t : Tok} {hsh : Int} {kt : Tok} {kk ep : Nat} {vs : List Value} {hs : List (Str × Str)}
    (hx : (x, instObj 262 dx) ∈ rest) (hdx : (dx, dictOf [⟨hsh, .str (Str.ofString "_headers") kt, .ref l⟩] kk) ∈ rest) (hall : HdrAll rest vs hs) (hoff : ∀ p ∈ rest, p.1 ≠ l)
    (hf : Free nameCode (Txt.lower v).cps) (hv : v.length ≤ 1000) (hks : ∀ q ∈ hs, q.1.length ≤ 1000) (hlen : vs.length ≤ 1000) :
    Spec w p loose mean mg mb 10 160 (.ref 180) [.ref x, .str v t] [] ((l, listOf vs.toArray ep) :: rest) (fun r news' => r = .none ∧ ∃ vs' ep', news' = (l, listOf vs'.toArray ep') :: rest ∧ HdrAll rest vs' (hs.filter fun q => !(Txt.lower q.1 == Txt.lower v)) ∧ vs'.length ≤ vs.length) := by
  intro dp un gd cn cs a ccd cl outer A₀ base h₀ L m s Q E B F X N T hk hd hu hret
  revert X; k_fill; intro X
  refine wpAny_call ?_
  have hsz9 := size_of_len hlen
  k_dflt ((first | (refine' code_def (by k_asm) (by k_asm) (by k_asm) (by k_asm) (by k_asm) rfl rfl (by assumption) (by k_is) (by k_is) (by ktr_room) (by first | exact BindsTo.of_eq rfl | exact binds_K (by k_in) rfl (by k_is) rfl rfl rfl) (by exact locs rfl) ?_ (by exact rfl) (by exact rfl) (by exact rfl) (by decide); k_whole; intro _ _ _ _ _ _ yB _ _; (try dsimp only); (try k_lift yB)) | (refine' code_defC (by k_asm) (by k_asm) (by k_asm) (by k_asm) (by k_asm) rfl rfl (by assumption) (by k_is) (by k_is) (by ktr_room) (by first | exact BindsTo.of_eq rfl | exact binds_K (by k_in) rfl (by k_is) rfl rfl rfl) (by exact rfl) (by decide +kernel) ?_ (by exact rfl) (by exact rfl) (by exact rfl); k_whole; intro _ _ _ _ _ _ _ yN yY yB _ _ yl; (try k_lt yl); k_cells yY; (try simp only [List.cons_append, List.nil_append] at yN); (try dsimp only); (try k_lift yB))); (try k_fold))
  (k_steps <;> repeat' ((first | (refine hltI ?_; (with_reducible show wpAny _ _ (call (Value.ref _) _ _) _ _ _); k_dflt (first | refine' useV (S := conv_name (by first | assumption | exact free_name (by decide)) (by first | assumption | omega | decide)) (k := ?_) | refine' useV (S := conv_value (by first | assumption | exact free_value (by decide)) (by first | assumption | omega | decide)) (k := ?_)); intro _ _ _ _ _; (try dsimp only); (try k_fold))); k_steps))
  rename Fr _ _ _ _ => lF
  rename News _ _ _ _ => lN
  refine CompSrcT.ledger (k := ep) (by rfl) lF lN ?hm hsz9 (fun g => ?_)
  case hm => k_mem
  refine restTc (fun i ys => HdrAll rest ys ((hs.take i).filter fun q => !(Txt.lower q.1 == Txt.lower v)) ∧ ys.length ≤ i) ⟨.nil, Nat.le_refl _⟩ (.inr ⟨listOf vs.toArray ep, by k_mem, rfl, _, rfl⟩) ?_ ?_
  · intro ys hJ
    clear lF lN
    intro D h tk F' N' ho
    have hne9 : @Ne Nat l D := off1_mem ho (l, listOf vs.toArray ep) (by k_mem)
    have hz9 : vs.toArray.size + ys.toArray.size ≤ sizeLine := by
      have h1 := hJ.2
      rw [List.size_toArray, List.size_toArray] at *
      rw [sizeLine_eq]; omega
    (k_steps <;> repeat' ((first | (refine hltI ?_; (with_reducible show wpAny _ _ (setItem _ _ _) _ _ _); k_dflt (refine' setSlice_K (by k_asm) (by k_asm) (by k_updF) (by k_mem) (by k_mem) (by assumption) (by assumption) ?_); k_dflt (intro _ _ _ N'; (try dsimp only at N'); revert N'; intro _; (try k_sweep))) | (refine hltI ?_; (with_reducible show wpAny _ _ (eval (PySem.Expr.Slice _ _ _ _) _) _ _ _); (with_reducible show wpAny _ _ (eval (Expr.Slice Option.none Option.none Option.none _) _) _ _ _); k_dflt (refine' slice_N (by k_asm) (by k_asm) ?_); intro _ _ _ _ l1; (try k_lt l1); revert l1; intro _; (try k_sweep))); k_steps))
    rename News _ _ _ _ => kN
    refine hret _ _ _ _ ⟨rfl, ys, _, rfl, ?_, ?_⟩ (by k_asm) (fun p hp => kN p (.tail _ (.tail _ (.tail _ hp))))
    · have h1 := hJ.1
      rw [List.size_toArray, hall.length, List.take_length] at h1
      exact h1
    · have h1 := hJ.2
      rw [List.size_toArray] at h1
      exact h1
  · intro i ys z I oI C oC D m₂ h tk E' hi hJ hP hns hx₂ ho h1 h2 h3 F' N'
    clear lF lN
    (have zq := hall.get (by simpa using hP); refine ex6 zq ?_; clear zq; intro t1 k1 x1 tk1 tx1 n1 zr; refine an3 zr ?_; clear zr; intro ze1 hm1 hq1; subst ze1)
    have hk1 : k1.length ≤ 1000 := hks (k1, x1) (List.mem_of_getElem? hq1)
    have hT1 : IsTup h t1 #[Value.str k1 tk1, Value.str x1 tx1] := ⟨tup2 (.str k1 tk1) (.str x1 tx1) n1, (N' (t1, tup2 (.str k1 tk1) (.str x1 tx1) n1) (by k_mem)).1, rfl, _, rfl⟩
    k_steps
    · rename Fr _ _ _ _ => eF
      rename News _ _ _ _ => eN
      refine CEnd.intro _ eF eN (fun p hp => hp) ho ⟨rfl, ?_, ?_⟩
      · rw [take_filter_in hq1 (by simp_all)]
        exact hJ.1.snoc hm1
      · have := hJ.2
        simp; omega
    · rename Fr _ _ _ _ => eF
      rename News _ _ _ _ => eN
      refine CEnd.intro _ eF eN (fun p hp => hp) ho ⟨rfl, ?_, ?_⟩
      · rw [take_filter_out hq1 (by simp_all)]
        exact hJ.1
      · exact Nat.le_succ_of_le hJ.2
end

section
theorem wtC5a : True := by
  w_top off
  trivial
local macro_rules | `(tactic| walk_at "pyIter ref") => `(tactic| (k_here; (with_reducible show wpAny _ _ (pyIter (Value.ref _)) (fun it s₂ => TurnsAt _ _ _ _ _ _ _ _ _ it s₂) _ _); refine hlt ?_))


local macro_rules | `(tactic| walk_at "exec For Tuple Name cons nil") => `(tactic| walk_at "zF")
set_option maxHeartbeats 4000000 in
theorem new_spec {w : World} {p : Program} {loose : List Str} {mean : ExcName → Option Value} {mg mb : Str → Option Value} {news : List (Addr × Obj)} :
    Spec w p loose mean mg mb 5 60 (.ref 262) [] [] news (fun r news' => ∃ x dx l kt kk, r = .ref x ∧ news' = (l, listOf #[] 0) :: (x, instObj 262 dx) :: (dx, dictOf [⟨PyData.keyHash w.params (Str.ofString "_headers"), .str (Str.ofString "_headers") kt, .ref l⟩] kk) :: news ∧ (@LT.lt Nat _ dx x) ∧ (@LT.lt Nat _ x l) ∧ ∀ p ∈ news, p.1 < dx) := by
  intro dp un gd cn cs a ccd cl outer A₀ base h₀ L m s Q E B F X N T hk hd hu hret
  revert X; k_fill; intro X
  k_dflt (refine' call_cls ?k1 ?k2 ?k3 ?k4 ?k5 ?k6 ?_)
  case k1 => k_asm
  case k2 => k_asm
  case k3 => k_asm
  case k4 => k_is
  case k5 => k_is
  case k6 => k_is
  intro x' d' h' F' N' l1 l2
  k_lt l1
  k_lt2 l2
  k_sweep
  k_dflt ((first | (refine' code_def (by k_asm) (by k_asm) (by k_asm) (by k_asm) (by k_asm) rfl rfl (by assumption) (by k_is) (by k_is) (by ktr_room) (by first | exact BindsTo.of_eq rfl | exact binds_K (by k_in) rfl (by k_is) rfl rfl rfl) (by exact locs rfl) ?_ (by exact rfl) (by exact rfl) (by exact rfl) (by decide); k_whole; intro _ _ _ _ _ _ yB _ _; (try dsimp only); (try k_lift yB)) | (refine' code_defC (by k_asm) (by k_asm) (by k_asm) (by k_asm) (by k_asm) rfl rfl (by assumption) (by k_is) (by k_is) (by ktr_room) (by first | exact BindsTo.of_eq rfl | exact binds_K (by k_in) rfl (by k_is) rfl rfl rfl) (by exact rfl) (by decide +kernel) ?_ (by exact rfl) (by exact rfl) (by exact rfl); k_whole; intro _ _ _ _ _ _ _ yN yY yB _ _ yl; (try k_lt yl); k_cells yY; (try simp only [List.cons_append, List.nil_append] at yN); (try dsimp only); (try k_lift yB))); (try k_fold))
  (k_steps <;> repeat' ((first | (refine hltI ?_; (with_reducible show wpAny _ _ (pyIter _) _ _ _); k_dflt (refine' iter_listTurns (vs := []) (by rfl) (by k_asm) (by k_asm) (by k_mem) (by rfl) (by rfl) ?_); intro _ _; (refine ItemsRest.zero (fun h' tk' F' N' => ?_)))); k_steps))
  rename News _ _ _ _ => kN
  exact hret _ _ _ _ ⟨_, _, _, _, _, rfl, rfl, l2, by omega, allLt_mem l1⟩ (by k_asm) kN
end

section
theorem wtC5 : True := by
  w_top off
  trivial
local macro_rules | `(tactic| walk_at "subscriptTail Name BinOp str int") => `(tactic| (k_here; refine hlt ?_))
local macro_rules | `(tactic| walk_at "call ref") => `(tactic| (k_here; refine stopCall [161, 262, 209, 252, 180] (by decide) ?_))


structure GoodSign (c : Str) : Prop where
  low : Txt.lower c = c
  lowUp : Txt.lower (Txt.upper c) = c
  free : Free nameCode c.cps
  freeUp : Free nameCode (Txt.upper c).cps
  len : c.length ≤ 1000
  lenUp : (Txt.upper c).length ≤ 1000
structure GoodHdr (S : Str) (hs : List (Str × Str)) : Prop where
  names : ∀ q ∈ hs, q.1.length ≤ 1000 ∧ ∃ i : Nat, i < S.length ∧ Txt.lower q.1 = Txt.item S i
  nodup : (hs.map (fun q => Txt.lower q.1)).Nodup
theorem hgot_cases {nm : Str} {hs : List (Str × Str)} {r : Value} (h : hgot nm hs r) : (hlook nm hs = none ∧ r = .none) ∨ ∃ x t, hlook nm hs = some x ∧ r = .str x t := by
  unfold hgot at h
  cases e : hlook nm hs with
  | none => rw [e] at h; exact .inl ⟨rfl, h⟩
  | some x => rw [e] at h; obtain ⟨t, h⟩ := h; exact .inr ⟨x, t, rfl, h⟩
theorem news_swap {h₀ h : Heap} {L : Addr} {a b : Addr × Obj} {r : List (Addr × Obj)} (N : News h₀ L h (a :: b :: r)) : News h₀ L h (b :: a :: r) := fun p hp => by
  rcases List.mem_cons.mp hp with rfl | hp
  · exact N _ (.tail _ (.head _))
  · rcases List.mem_cons.mp hp with rfl | hp
    · exact N _ (.head _)
    · exact N _ (.tail _ (.tail _ hp))
/-- a sign of the text: what the walk asks of it and of its upper form -/
structure GoodAt (S c : Str) : Prop where
  ex : ∃ i : Nat, i < S.length ∧ c = Txt.item S i
  g1 : Txt.lower c = c
  g2 : Txt.lower (Txt.upper c) = c
  g3 : Free nameCode c.cps
  g4 : Free nameCode (Txt.upper c).cps
  g5 : c.length ≤ 1000
  g6 : (Txt.upper c).length ≤ 1000
  g7 : Free nameCode (Txt.lower c).cps
  g8 : Free nameCode (Txt.lower (Txt.upper c)).cps
structure WSt where
  vs : List Value
  hs : List (Str × Str)
  ep : Nat
  rest : List (Addr × Obj)
theorem GoodHdr.nil {S : Str} : GoodHdr S [] := ⟨fun _ h => (nomatch h), List.nodup_nil⟩
theorem GoodHdr.add {S : Str} {hs : List (Str × Str)} (g : GoodHdr S hs) {k x : Str} (hm : hlook (Txt.lower k) hs = none) (hk : k.length ≤ 1000) {i : Nat} (hi : i < S.length) (he : Txt.lower k = Txt.item S i) : GoodHdr S (hs ++ [(k, x)]) := by
  refine ⟨fun q hq => ?_, ?_⟩
  · rcases List.mem_append.mp hq with hq | hq
    · exact g.names q hq
    · rw [List.mem_singleton.mp hq]; exact ⟨hk, i, hi, he⟩
  · rw [List.map_append, List.nodup_append]
    refine ⟨g.nodup, by simp, ?_⟩
    intro a ha b hb e
    (have zq := List.mem_map.mp ha; refine ex1 zq ?_; clear zq; intro q zr; refine an2 zr ?_; clear zr; intro hq ze1; subst ze1)
    have hb' : b = Txt.lower k := by simpa using hb
    have : hs.find? (fun p => Txt.lower p.1 == Txt.lower k) = none := by
      unfold hlook at hm
      simpa using hm
    have h2 := List.find?_eq_none.mp this q hq
    exact h2 (by simp [e, hb'])
theorem GoodHdr.filter {S : Str} {hs : List (Str × Str)} (g : GoodHdr S hs) (p : Str × Str → Bool) : GoodHdr S (hs.filter p) :=
  ⟨fun q hq => g.names q (List.mem_filter.mp hq).1, g.nodup.sublist (List.filter_sublist.map _)⟩
local macro_rules | `(tactic| walk_at "delItem ref str") => `(tactic| (k_dflt (refine' delItem_own (by k_asm) (by k_asm) (by k_inst) (by k_is) (by k_is) (by k_is) ?_; k_whole)))
local macro_rules | `(tactic| walk_at "exec For Name Name cons nil") => `(tactic| walk_at "zF")

noncomputable def wled (l : Addr) (c : WSt) : List (Addr × Obj) := (l, listOf c.vs.toArray c.ep) :: c.rest
noncomputable def wP (S : Str) (news : List (Addr × Obj)) (x dx l : Addr) (od : Obj) (i : Nat) (c : WSt) : Prop := (x, instObj 262 dx) ∈ c.rest ∧ (dx, od) ∈ c.rest ∧ (∀ p ∈ news, p ∈ c.rest) ∧ HdrAll c.rest c.vs c.hs ∧ (∀ p ∈ c.rest, p.1 ≠ l) ∧ GoodHdr S c.hs ∧ c.vs.length ≤ i
section
variable {S : Str} {news rest : List (Addr × Obj)} {x dx l I T : Addr} {od it : Obj} {i n ep ep9 : Nat} {vs : List Value} {hs : List (Str × Str)} {k y : Str} {tv ty : Tok} {h₀ h' : Heap} {L : Addr} {m₀ m' : Str → Option Value} {stored : List Str} {s₁ : Shared} {tk : Nat}
theorem w_set (hP : wP S news x dx l od i ⟨vs, hs, ep, rest⟩) (ho : ∀ p ∈ wled l ⟨vs, hs, ep, rest⟩, p.1 ≠ I) (F : Fr h₀ L h' m') (N : News h₀ L h' ((T, tup2 (.str k tv) (.str y ty) n) :: (l, listOf (vs ++ [Value.ref T]).toArray ep9) :: (I, it) :: rest))
    (hTl : T ≠ l) (hT : ∀ p ∈ (I, it) :: rest, p.1 ≠ T) (hm : hlook (Txt.lower k) hs = none) (hk : k.length ≤ 1000) (hex : ∃ i : Nat, i < S.length ∧ Txt.lower k = Txt.item S i) (hmm : ∀ z, (∀ q ∈ stored, z ≠ q) → m' z = m₀ z) :
    LEnd (fun c : WSt × (Str → Option Value) => offs stored c.2 m₀) (fun c => wled l c.1) (fun c => wP S news x dx l od (i + 1) c.1) h₀ L I it s₁ { s₁ with heap := h', toks := tk } := by
  (have zq := hP; (try clear hP); refine an7 zq ?_; clear zq; intro p1 p2 p3 p4 p5 p6 p7)
  dsimp only at p1 p2 p3 p4 p5 p6 p7
  (have zq := hex; (try clear hex); refine ex1 zq ?_; clear zq; intro j zr; refine an2 zr ?_; clear zr; intro hj he)
  refine LEnd.intro (⟨vs ++ [Value.ref T], hs ++ [(k, y)], ep9, (T, tup2 (.str k tv) (.str y ty) n) :: rest⟩, m') F N (by simp) ?_ ?_ (offs_eq hmm) ?_
  · intro p hp
    rcases List.mem_cons.mp hp with rfl | hp
    · exact .tail _ (.head _)
    · rcases List.mem_cons.mp hp with rfl | hp
      · exact .head _
      · exact .tail _ (.tail _ (.tail _ hp))
  · intro p hp
    rcases List.mem_cons.mp hp with rfl | hp
    · exact ho (l, listOf vs.toArray ep) (.head _)
    · rcases List.mem_cons.mp hp with rfl | hp
      · exact fun e => hT (I, it) (.head _) e.symm
      · exact ho p (.tail _ hp)
  · refine ⟨.tail _ p1, .tail _ p2, fun p hp => .tail _ (p3 p hp), (p4.mono fun p hp => .tail _ hp).snoc (.head _), ?_, p6.add hm hk hj he, by simp; omega⟩
    intro p hp
    rcases List.mem_cons.mp hp with rfl | hp
    · exact hTl
    · exact p5 p hp
theorem w_del {vs' : List Value} {pr : Str × Str → Bool} (hP : wP S news x dx l od i ⟨vs, hs, ep, rest⟩) (ho : ∀ p ∈ wled l ⟨vs, hs, ep, rest⟩, p.1 ≠ I) (F : Fr h₀ L h' m') (N : News h₀ L h' ((l, listOf vs'.toArray ep9) :: (I, it) :: rest))
    (ha : HdrAll ((I, it) :: rest) vs' (hs.filter pr)) (hc : it.cls = .type "list_iterator") (hl : vs'.length ≤ vs.length) (hmm : ∀ z, (∀ q ∈ stored, z ≠ q) → m' z = m₀ z) :
    LEnd (fun c : WSt × (Str → Option Value) => offs stored c.2 m₀) (fun c => wled l c.1) (fun c => wP S news x dx l od (i + 1) c.1) h₀ L I it s₁ { s₁ with heap := h', toks := tk } := by
  (have zq := hP; (try clear hP); refine an7 zq ?_; clear zq; intro p1 p2 p3 p4 p5 p6 p7)
  dsimp only at p1 p2 p3 p4 p5 p6 p7
  have ha' : HdrAll rest vs' (hs.filter pr) := by
    clear p4 hl N
    generalize hs.filter pr = hs' at ha
    generalize hr : (I, it) :: rest = r at ha
    induction ha with
    | nil => exact .nil
    | cons hm _ ih =>
      subst hr
      rcases List.mem_cons.mp hm with e | hm
      · have h2 := (Prod.mk.inj e).2
        rw [← h2] at hc
        exact absurd (show Value.type "tuple" = Value.type "list_iterator" from hc) (by decide)
      · exact .cons hm ih
  refine LEnd.intro (⟨vs', hs.filter pr, ep9, rest⟩, m') F N (by simp) ?_ ?_ (offs_eq hmm) ?_
  · intro p hp
    rcases List.mem_cons.mp hp with rfl | hp
    · exact .head _
    · exact .tail _ (.tail _ hp)
  · intro p hp
    rcases List.mem_cons.mp hp with rfl | hp
    · exact ho (l, listOf vs.toArray ep) (.head _)
    · exact ho p (.tail _ hp)
  · exact ⟨p1, p2, p3, ha', p5, p6.filter _, by dsimp only; omega⟩
end
set_option maxHeartbeats 4000000 in
theorem wires_spec {w : World} {p : Program} {loose : List Str} {mean : ExcName → Option Value} {mg mb : Str → Option Value} {news : List (Addr × Obj)} {S : Str} {t : Tok} {ax : Addr} {dvs : List Value} {ns : List Int} {ep : Nat}
    (hS : S.length = 16 ∨ S.length = 32) (hgood : ∀ i : Int, 0 ≤ i → i < S.length → GoodSign (Txt.item S i)) (hax : (ax, listOf dvs.toArray ep) ∈ news) (hints : IntsAre dvs ns) (hr : ∀ k ∈ ns, 0 ≤ k ∧ k < 1000) (hlen : ns.length ≤ 10) :
    Spec w p loose mean mg mb 20 300 (.ref 273) [.str S t, .ref ax] [] news (fun r news' => ∃ x dx l hsh kt kk ep' vs hs rest, r = .ref x ∧ news' = (l, listOf vs.toArray ep') :: rest ∧ (x, instObj 262 dx) ∈ rest ∧ (dx, dictOf [⟨hsh, .str (Str.ofString "_headers") kt, .ref l⟩] kk) ∈ rest ∧ HdrAll rest vs hs ∧ (∀ p ∈ rest, p.1 ≠ l) ∧ (∀ p ∈ news, p ∈ rest) ∧ GoodHdr S hs ∧ vs.length ≤ 10) := by
  intro dp un gd cn cs a ccd cl outer A₀ base h₀ L m s Q E B F X N T hk hd hu hret
  revert X; k_fill; intro X
  refine wpAny_call ?_
  k_dflt ((first | (refine' code_def (by k_asm) (by k_asm) (by k_asm) (by k_asm) (by k_asm) rfl rfl (by assumption) (by k_is) (by k_is) (by ktr_room) (by first | exact BindsTo.of_eq rfl | exact binds_K (by k_in) rfl (by k_is) rfl rfl rfl) (by exact locs rfl) ?_ (by exact rfl) (by exact rfl) (by exact rfl) (by decide); k_whole; intro _ _ _ _ _ _ yB _ _; (try dsimp only); (try k_lift yB)) | (refine' code_defC (by k_asm) (by k_asm) (by k_asm) (by k_asm) (by k_asm) rfl rfl (by assumption) (by k_is) (by k_is) (by ktr_room) (by first | exact BindsTo.of_eq rfl | exact binds_K (by k_in) rfl (by k_is) rfl rfl rfl) (by exact rfl) (by decide +kernel) ?_ (by exact rfl) (by exact rfl) (by exact rfl); k_whole; intro _ _ _ _ _ _ _ yN yY yB _ _ yl; (try k_lt yl); k_cells yY; (try simp only [List.cons_append, List.nil_append] at yN); (try dsimp only); (try k_lift yB))); (try k_fold))
  (k_steps <;> repeat' ((first | (refine hltI ?_; (with_reducible show wpAny _ _ (call (Value.ref _) _ _) _ _ _); k_dflt (refine' use (S := new_spec) (k := ?_)); intro _ _ _ _ R9 _ _; (have zq := R9; (try clear R9); refine ex5 zq ?_; clear zq; intro _ _ _ _ _ zr; refine an5 zr ?_; clear zr; intro e9 e8 _ _ o3); subst e9; subst e8; (replace o3 := allLt_of o3); (try simp only [AllLt, and_true] at o3); (repeat (obtain ⟨_, o3⟩ := o3)); revert o3; intro _; (try dsimp only); (try k_fold))); k_steps))
  rename_i x9 d9 l9 kt9 kk9 o1 o2 o3 h' lF lN _
  refine iter_list1 (σ := WSt) [Str.ofString "x", Str.ofString "sign"] (wled l9) (wP S news x9 d9 l9 (dictOf [⟨PyData.keyHash w.params (Str.ofString "_headers"), .str (Str.ofString "_headers") kt9, .ref l9⟩] kk9))
    ⟨[], [], 0, (x9, instObj 262 d9) :: (d9, dictOf [⟨PyData.keyHash w.params (Str.ofString "_headers"), .str (Str.ofString "_headers") kt9, .ref l9⟩] kk9) :: news⟩ (by rfl) lF lN (.tail _ (.tail _ (.tail _ hax))) rfl rfl (fun _ h => h) ?h0 ?hk ?turn ?done
  case h0 =>
    refine ⟨.head _, .tail _ (.head _), fun p hp => .tail _ (.tail _ hp), .nil, ?_, .nil, Nat.le_refl _⟩
    have z : ∀ p ∈ news, p.1 < d9 := allLt_mem o3
    intro p hp e
    rcases List.mem_cons.mp hp with rfl | hp
    · exact absurd o2 (by rw [← e]; exact Nat.lt_irrefl _)
    · rcases List.mem_cons.mp hp with rfl | hp
      · exact absurd (Nat.lt_trans o1 o2) (by rw [← e]; exact Nat.lt_irrefl _)
      · have := z p hp
        exact absurd (Nat.lt_trans this (Nat.lt_trans o1 o2)) (by rw [← e]; exact Nat.lt_irrefl _)
  case hk => exact fun i c h => .tail _ (h.2.2.1 _ hax)
  case done =>
    intro c u h tk hP F' N'
    (have zq := hP; (try clear hP); refine an7 zq ?_; clear zq; intro p1 p2 p3 p4 p5 p6 p7)
    clear lF lN
    k_steps
    have hl := hints.length
    exact hret _ _ _ _ ⟨_, _, _, _, _, _, _, _, _, _, rfl, rfl, p1, p2, p4, p5, p3, p6, by omega⟩ (by k_asm) (by k_asm)
  case turn =>
    intro i v c u I it h tk hv hP hit hI ho F' N'
    (obtain ⟨vs, hs, ep', rest⟩ := c)
    have hP9 := hP
    (have zq := hP; (try clear hP); refine an7 zq ?_; clear zq; intro p1 p2 p3 p4 p5 p6 p7)
    have ho9 := ho
    dsimp only [wled] at F' N' ho
    dsimp only at p1 p2 p3 p4 p5 p6 p7 F' N' ho
    have hi : i < ns.length := by
      have := hints.length
      have := (List.getElem?_eq_some_iff.mp hv).1
      omega
    (have zq := hints.get i ns[i] (by simp [hi]); refine ex1 zq ?_; clear zq; intro t0 zr; have hx0 := zr; clear zr)
    have ev : v = .int ns[i] t0 := by rw [hx0] at hv; exact (Option.some.inj hv).symm
    subst ev
    have hr0 := hr ns[i] (List.getElem_mem hi)
    generalize hk0 : ns[i] = k0 at hr0
    clear lF lN
    have hfm0 : 0 ≤ Int.fmod k0 S.length := Int.fmod_nonneg_of_pos _ (by omega)
    have hfm1 : Int.fmod k0 S.length < S.length := Int.fmod_lt_of_pos _ (by omega)
    have g := hgood _ hfm0 hfm1
    have hks : ∀ q ∈ hs, q.1.length ≤ 1000 := fun q hq => (p6.names q hq).1
    have hIl : @Ne Nat I l9 := Ne.symm (ho (l9, listOf vs.toArray ep') (.head _))
    have gs : GoodAt S (Txt.item S (Int.fmod k0 S.length)) := ⟨⟨(Int.fmod k0 S.length).toNat, by omega, by rw [Int.toNat_of_nonneg hfm0]⟩, g.low, g.lowUp, g.free, g.freeUp, g.len, g.lenUp, by rw [g.low]; exact g.free, by rw [g.lowUp]; exact g.free⟩
    have hvl : vs.length ≤ 1000 := by omega
    clear g hgood hr0 hr hints hlen hax
    (k_steps <;> repeat' ((first | (refine hltI ?_; (with_reducible show wpAny _ _ (call (Value.ref _) _ _) _ _ _); k_dflt (refine' use (N := news_swap (by k_asm)) (S := del_spec (by k_mem) (by k_mem) (by exact HdrAll.mono (by assumption) (fun _ h => .tail _ h)) (by exact List.forall_mem_cons.mpr ⟨by first | assumption | omega, by assumption⟩) (by assumption) (by assumption) (by assumption) (by omega)) (k := ?_)); intro _ _ _ _ R9 _ _; (obtain ⟨e9, _, _, e8, _, _⟩ := R9); subst e9; subst e8; (try dsimp only); (try k_fold)) | (refine hltI ?_; (with_reducible show wpAny _ _ (call (Value.ref _) _ _) _ _ _); k_dflt (refine' use (N := news_swap (by k_asm)) (S := setdefault_spec (by k_mem) (by k_mem) (by exact HdrAll.mono (by assumption) (fun _ h => .tail _ h)) (by exact List.forall_mem_cons.mpr ⟨by first | assumption | omega, by assumption⟩) (by assumption) (by assumption) (by assumption) (by exact free_value (by decide +kernel)) (by assumption) (by decide +kernel) (by assumption) (by omega)) (k := ?_)); intro _ _ _ _ R9 _ _; (obtain ⟨⟨_, e9⟩, _, _, _, _, _, e8, _, _⟩ := R9); subst e9; subst e8; (try dsimp only); (try k_fold)) | (refine hltI ?_; (with_reducible show wpAny _ _ (subscriptTail _ _ _ _) _ _ _); (with_reducible show wpAny _ _ (subscriptTail _ _ (Value.str _ _) (Value.int _ _)) _ _ _); (refine item_str (fitsSsize_of (N := 9223372036854775808) (by omega) (by omega) (Int.le_refl _)) (by omega) (by omega) ?_); intro z9; clear z9; (rename GoodAt _ _ => gs9); (generalize Txt.item _ _ = c9 at gs9 ⊢); ((obtain ⟨_, _, _, _, _, _, _, _, _⟩ := gs9)); (try k_fold)) | (refine hltI ?_; (with_reducible show wpAny _ _ (call (Value.ref _) _ _) _ _ _); k_dflt (refine' use (S := get_spec (by k_mem) (by k_mem) (by k_mem) (by first | assumption | (refine HdrAll.mono (by assumption) (fun _ h9 => ?_); (repeat (refine List.mem_cons_of_mem _ ?_)); exact h9)) (by first | assumption | exact free_name (by decide)) (by first | assumption | omega | decide) (by assumption)) (k := ?_)); intro _ _ _ _ R9 _ _; (have zq := R9; (try clear R9); refine an2 zq ?_; clear zq; intro R9 e8); (replace e8 := Eq.symm e8); subst e8; (rcases hgot_cases R9 with ⟨_, e9⟩ | ⟨_, _, _, e9⟩) <;> (subst e9; (try dsimp only); (try k_fold)))); k_steps))
    · rename Fr _ _ _ _ => eF
      rename News _ _ _ _ => eN
      refine w_set hP9 ho9 eF eN (by assumption) (by assumption) (by assumption) (by assumption) ?_ ?_
      · rename ∃ i : Nat, i < S.length ∧ _ => g0
        (have zq := g0; (try clear g0); refine ex1 zq ?_; clear zq; intro j zr; refine an2 zr ?_; clear zr; intro hj e)
        exact ⟨j, hj, by rw [← e]; assumption⟩
      · intro y hy
        have h1 := hy _ (.head _)
        have h2 := hy _ (.tail _ (.head _))
        simp only [if_neg h1, if_neg h2, offs]
    · rename Fr _ _ _ _ => eF
      rename News _ _ _ _ => eN
      refine w_del hP9 ho9 eF eN (by assumption) hit (by assumption) ?_
      · intro y hy
        have h1 := hy _ (.head _)
        have h2 := hy _ (.tail _ (.head _))
        simp only [if_neg h1, if_neg h2, offs]
    · rename Fr _ _ _ _ => eF
      rename News _ _ _ _ => eN
      refine w_set hP9 ho9 eF eN (by assumption) (by assumption) (by assumption) (by assumption) ?_ ?_
      · rename ∃ i : Nat, i < S.length ∧ _ => g0
        (have zq := g0; (try clear g0); refine ex1 zq ?_; clear zq; intro j zr; refine an2 zr ?_; clear zr; intro hj e)
        exact ⟨j, hj, by rw [← e]; assumption⟩
      · intro y hy
        have h1 := hy _ (.head _)
        have h2 := hy _ (.tail _ (.head _))
        simp only [if_neg h1, if_neg h2, offs]
    · rename Fr _ _ _ _ => eF
      rename News _ _ _ _ => eN
      refine w_del hP9 ho9 eF eN (by assumption) hit (by assumption) ?_
      · intro y hy
        have h1 := hy _ (.head _)
        have h2 := hy _ (.tail _ (.head _))
        simp only [if_neg h1, if_neg h2, offs]
end

section
theorem wtC6 : True := by
  w_top off
  trivial


theorem join_one (x y : Str) : Txt.join x [y] = y := by rfl
theorem append_W {prog : Program} {w : World} {A : Around} {E : Value → Shared → Prop} {s : Shared} {h₀ : Heap} {L D : Addr} {m : Str → Option Value} {news keep : List (Addr × Obj)} {its : Array Value} {n : Nat} {x : Value} {Q : Value → Shared → Prop} (F : Fr h₀ L s.heap m) (N : News h₀ L s.heap news) (hm : (D, listOf its n) ∈ news) (hs : ∀ p ∈ keep, p ∈ news) (ho : ∀ p ∈ keep, p.1 ≠ D)
    (h : ∀ h', Fr h₀ L h' m → News h₀ L h' ((D, listOf (its.push x) (n + 1)) :: keep) → Q .none { s with heap := h' }) (hsz : its.size ≤ sizeLine) : wpAny (model prog w) A (call (.builtin "list.append") [.ref D, x]) Q E s := by
  refine append_K F (news := (D, listOf its n) :: keep) (fun p hp => ?_) (.head ho) h hsz
  rcases List.mem_cons.mp hp with rfl | hp
  · exact N _ hm
  · exact N _ (hs p hp)
set_option maxHeartbeats 4000000 in
theorem add_spec {w : World} {p : Program} {loose : List Str} {mean : ExcName → Option Value} {mg mb : Str → Option Value} {rest : List (Addr × Obj)} {x dx l : Addr} {v y : Str} {t ty : Tok} {hsh : Int} {kt : Tok} {kk ep : Nat} {vs : List Value}
    (hx : (x, instObj 262 dx) ∈ rest) (hdx : (dx, dictOf [⟨hsh, .str (Str.ofString "_headers") kt, .ref l⟩] kk) ∈ rest) (hoff : ∀ p ∈ rest, p.1 ≠ l)
    (hf2 : Free nameCode v.cps) (hf3 : Free valueCode y.cps) (hv : v.length ≤ 1000) (hyl : y.length ≤ 1000) (hlen : vs.length ≤ 1000) :
    Spec w p loose mean mg mb 10 160 (.ref 259) [.ref x, .str v t, .str y ty] [] ((l, listOf vs.toArray ep) :: rest) (fun r news' => r = .none ∧ ∃ T tv ty n ep', news' = (T, tup2 (.str v tv) (.str y ty) n) :: (l, listOf (vs ++ [Value.ref T]).toArray ep') :: rest ∧ T ≠ l ∧ ∀ p ∈ rest, p.1 ≠ T) := by
  intro dp un gd cn cs a ccd cl outer A₀ base h₀ L m s Q E B F X N T hk hd hu hret
  revert X; k_fill; intro X
  refine wpAny_call ?_
  have hsz9 := size_of_len hlen
  k_dflt (refine' kpc_more ?k1 ?k2 ?k3 ?k4 ?k5 ?kA ?kF ?kK ?k6 ?k7 ?k8 ?kX ?kM ?kN ?kD ?kR ?kP ?kT ?kB ?_ ?c2 ?c3 ?c4 ?c5; (case kA => exact rfl); (case kF => exact rfl); (case kK => assumption); (case k1 => k_asm); (case k2 => k_asm); (case k3 => k_asm); (case k4 => k_asm); (case k5 => k_asm); (case k6 => k_is); (case k7 => k_is); (case k8 => ktr_room); (case kX => kp_lit); (case kM => exact rfl); (case kN => exact rfl); (case kD => kp_flats); (case kR => exact rfl); (case kP => exact rfl); (case kT => exact fun _ => rfl); (case kB => exact fun _ => locs rfl); (case c5 => decide); (case c2 => exact rfl); (case c3 => exact rfl); (case c4 => exact rfl); k_whole; intro D' o' g' L' h' tk' l1 lo' hs' fs' FG' F' N' B' X' T'; (try k_lt l1); (try dsimp only); (try k_lift B'); (try k_fold))
  (k_steps <;> repeat' ((first | (refine hltI ?_; (with_reducible show wpAny _ _ (call (Value.ref _) _ _) _ _ _); k_dflt (first | refine' useV (S := conv_name (by first | assumption | exact free_name (by decide)) (by first | assumption | omega | decide)) (k := ?_) | refine' useV (S := conv_value (by first | assumption | exact free_value (by decide)) (by first | assumption | omega | decide)) (k := ?_)); intro _ _ _ _ _; (try dsimp only); (try k_fold))); k_steps))
  rename Fr _ _ _ _ => kF
  rename News _ _ _ _ => kN
  refine append_W (keep := _ :: rest) kF kN (by k_mem) (List.forall_mem_cons.mpr ⟨List.Mem.head _, fun p hp => by simp [hp]⟩) (List.forall_mem_cons.mpr ⟨by dsimp only; refine neN ?_; omega, hoff⟩) (fun h9 F9 N9 => ?_) hsz9
  clear kF kN
  k_steps
  rename News _ _ _ _ => kN
  rename AllLt _ _ => l1
  rw [List.push_toArray, join_one] at kN
  exact hret _ _ _ _ ⟨rfl, _, _, _, _, _, rfl, by refine neN ?_; omega, fun p hp => Nat.ne_of_lt (allLt_mem l1 p hp)⟩ (by k_asm) (news_swap kN)
end

section
theorem wtC7 : True := by
  w_top off
  trivial
open LCt LCg LCp
inductive TxAll : List Value → List Str → Prop
  | nil : TxAll [] []
  | cons {x : Str} {t : Tok} {vs : List Value} {xs : List Str} : TxAll vs xs → TxAll (.str x t :: vs) (x :: xs)
theorem TxAll.snoc {vs : List Value} {xs : List Str} (h : TxAll vs xs) {x : Str} {t : Tok} : TxAll (vs ++ [.str x t]) (xs ++ [x]) := by
  induction h with
  | nil => exact .cons .nil
  | cons _ ih => exact .cons ih
theorem TxAll.length {vs : List Value} {xs : List Str} (h : TxAll vs xs) : vs.length = xs.length := by
  induction h with
  | nil => rfl
  | cons _ ih => simp [ih]
theorem TxAll.get {vs : List Value} {xs : List Str} (h : TxAll vs xs) : ∀ {i : Nat} {v : Value}, vs[i]? = some v → ∃ x t, v = .str x t ∧ xs[i]? = some x := by
  induction h with
  | nil => intro i v h; simp at h
  | cons _ ih =>
    intro i v h
    cases i with
    | zero => simp at h; subst h; exact ⟨_, _, rfl, rfl⟩
    | succ i => simp at h; (have zq := ih h; refine ex2 zq ?_; clear zq; intro x t zr; refine an2 zr ?_; clear zr; intro a b); exact ⟨x, t, a, by simpa using b⟩
theorem restPc {prog : Program} {w : World} {A : Around} {h₀ : Heap} {L : Addr} {m : Str → Option Value} {env : Env} {s : Shared} {elt : Expr} {x x₂ : Str} {scope : Scope} {cl : List (Str × Addr)} {S : List (Addr × Obj) → Prop} {P : Nat → Value → Prop} {Fin : List Value → List (Addr × Obj) → Prop} (J : Nat → List Value → Prop) {n : Nat} {news : List (Addr × Obj)}
    (h0 : J 0 []) (hS : S news) (fin : ∀ ys, J n ys → Fin ys news)
    (turn : ∀ i ys v, i < n → J i ys → P i v → ∃ (t : Addr) (ot : Obj) (v₁ v₂ : Value) (nt : Nat), v = .ref t ∧ (t, ot) ∈ news ∧ ot.cls = .type "tuple" ∧ ot.data = .seq #[v₁, v₂] nt ∧ ∀ I oI C oC D m₂ h tk (E' : Value → Shared → Prop), NsObj oC m₂ → m₂ x = some v₁ → m₂ x₂ = some v₂ → (∀ p ∈ news, p.1 ≠ I ∧ p.1 ≠ C ∧ p.1 ≠ D) → (@Ne Nat I C) → (@Ne Nat I D) → (@Ne Nat C D) → Fr h₀ L h m → News h₀ L h ((I, oI) :: (C, oC) :: (D, lst ys) :: news) →
      wpAny (model prog w) A (eval elt (compEnvC scope cl C env)) (CEnd h₀ L m { s with heap := h, toks := tk } I oI C oC D (lst ys) (fun y nw' => nw' = news ∧ J (i + 1) (ys ++ [y]))) E' { s with heap := h, toks := tk }) :
    CompRestP prog w A h₀ L m env elt x x₂ scope cl s S P Fin n 0 [] news := by
  have key : ∀ k i ys, i + k = n → J i ys → CompRestP prog w A h₀ L m env elt x x₂ scope cl s S P Fin k i ys news := by
    intro k
    induction k with
    | zero => intro i ys hi hJ; have : i = n := by omega
              subst this; exact fin ys hJ
    | succ k ih =>
      intro i ys hi hJ
      refine CompRestP.succ fun v hP => ?_
      (have zq := turn i ys v (by omega) hJ hP; refine ex5 zq ?_; clear zq; intro t ot v₁ v₂ nt zr; refine an5 zr ?_; clear zr; intro e1 e2 e3 e4 hh)
      refine ⟨t, ot, v₁, v₂, nt, e1, e2, e3, e4, fun I oI C oC D m₂ h tk E' hns hx hx₂ F N hoff hne => ?_⟩
      exact wpAny_mono (hh I oI C oC D m₂ h tk E' hns hx hx₂ hoff.mem hne.1 hne.2.1 hne.2.2 F N) (fun y s' hc => hc.to fun nw' hj => by
        (have zq := hj; (try clear hj); refine an2 zq ?_; clear zq; intro ze1 hj; subst ze1)
        exact ⟨hS, ih (i + 1) _ (by omega) hj⟩) fun _ _ e => e
  exact key n 0 [] (by omega) h0


local macro_rules | `(tactic| walk_at "eval ListComp") => `(tactic| (k_dflt (refine ListComp_P (F₀ := by k_asm) (by with_unfolding_all rfl) (by decide) (by rfl) (by decide) (by rfl) (by rfl) (by decide) ?_)))
set_option maxHeartbeats 4000000 in
theorem values_spec {w : World} {p : Program} {loose : List Str} {mean : ExcName → Option Value} {mg mb : Str → Option Value} {news : List (Addr × Obj)} {x dx l : Addr} {hsh : Int} {kt : Tok} {kk ep : Nat} {vs : List Value} {hs : List (Str × Str)}
    (hx : (x, instObj 262 dx) ∈ news) (hdx : (dx, dictOf [⟨hsh, .str (Str.ofString "_headers") kt, .ref l⟩] kk) ∈ news) (hl : (l, listOf vs.toArray ep) ∈ news) (hall : HdrAll news vs hs) (hlen : vs.length ≤ 1000) :
    Spec w p loose mean mg mb 10 160 (.ref 219) [.ref x] [] news (fun r news' => ∃ D ys, r = .ref D ∧ news' = (D, lst ys) :: news ∧ TxAll ys (hs.map (·.2)) ∧ ∀ p ∈ news, p.1 ≠ D) := by
  intro dp un gd cn cs a ccd cl outer A₀ base h₀ L m s Q E B F X N T hk hd hu hret
  revert X; k_fill; intro X
  refine wpAny_call ?_
  have hsz9 := size_of_len hlen
  k_dflt ((first | (refine' code_def (by k_asm) (by k_asm) (by k_asm) (by k_asm) (by k_asm) rfl rfl (by assumption) (by k_is) (by k_is) (by ktr_room) (by first | exact BindsTo.of_eq rfl | exact binds_K (by k_in) rfl (by k_is) rfl rfl rfl) (by exact locs rfl) ?_ (by exact rfl) (by exact rfl) (by exact rfl) (by decide); k_whole; intro _ _ _ _ _ _ yB _ _; (try dsimp only); (try k_lift yB)) | (refine' code_defC (by k_asm) (by k_asm) (by k_asm) (by k_asm) (by k_asm) rfl rfl (by assumption) (by k_is) (by k_is) (by ktr_room) (by first | exact BindsTo.of_eq rfl | exact binds_K (by k_in) rfl (by k_is) rfl rfl rfl) (by exact rfl) (by decide +kernel) ?_ (by exact rfl) (by exact rfl) (by exact rfl); k_whole; intro _ _ _ _ _ _ _ yN yY yB _ _ yl; (try k_lt yl); k_cells yY; (try simp only [List.cons_append, List.nil_append] at yN); (try dsimp only); (try k_lift yB))); (try k_fold))
  k_steps
  rename Fr _ _ _ _ => lF
  rename News _ _ _ _ => lN
  refine SrcLP.ledger (k := ep) (by rfl) lF lN hl hsz9 (fun g => ?_)
  refine restPc (fun i ys => TxAll ys ((hs.take i).map (·.2))) .nil (.inr ⟨listOf vs.toArray ep, hl, rfl, _, rfl⟩) ?_ ?_
  · intro ys hJ D h tk F' N' ho
    clear lF lN
    k_steps
    refine hret _ _ _ _ ⟨_, _, rfl, rfl, ?_, off1_mem ho⟩ (by k_asm) (by k_asm)
    rw [List.size_toArray, hall.length, List.take_length] at hJ
    exact hJ
  · intro i ys z hi hJ hP
    clear lF lN
    (have zq := hall.get (by simpa using hP); refine ex6 zq ?_; clear zq; intro t1 k1 x1 tk1 tx1 n1 zr; refine an3 zr ?_; clear zr; intro ze2 hm1 hq1; subst ze2)
    refine ⟨t1, _, _, _, _, rfl, hm1, rfl, rfl, ?_⟩
    intro I oI C oC D m₂ h tk E' hns hx₁ hx₂ ho h1 h2 h3 F' N'
    k_steps
    rename Fr _ _ _ _ => eF
    rename News _ _ _ _ => eN
    refine CEnd.intro _ eF eN (fun p hp => hp) ho ⟨rfl, ?_⟩
    rw [List.take_add_one, hq1, List.map_append]
    exact hJ.snoc
end

section
theorem wtC8G : True := by
  w_top off
  trivial
open LCt LCg LCp
local macro_rules | `(tactic| walk_at "CompSrc BinOp cons ref") => `(tactic| refine hlt ?_)
local macro_rules | `(tactic| walk_at "binaryOp Add ref ref") => `(tactic| (k_here; (with_reducible show wpAny _ _ (binaryOp _ (Value.ref _) (Value.ref _)) _ _ _); refine hlt ?_))



local macro_rules | `(tactic| walk_at "binaryOp Pow int int") => `(tactic| (k_here; refine hlt ?_))
local macro_rules | `(tactic| walk_at "binaryOp Mod int int") => `(tactic| (k_here; refine hlt ?_))
local macro_rules | `(tactic| walk_at "compareOp In int ref") => `(tactic| (k_here; refine hlt ?_))
local macro_rules | `(tactic| walk_at "eval IfExp") => `(tactic| (k_here; refine hlt ?_))
local macro_rules | `(tactic| walk_at "binaryOp FloorDiv int int") => `(tactic| (k_here; refine hlt ?_))
local macro_rules | `(tactic| walk_at "exec For Name Name cons nil") => `(tactic| walk_at "zF")
local macro_rules | `(tactic| walk_at "exec For Name Call cons nil") => `(tactic| walk_at "zF")
noncomputable def Stopped (P : Prop) : Prop := P
theorem stp {P : Prop} (h : Stopped P) : P := h
theorem stpI {P : Prop} (h : P) : Stopped P := h
local macro_rules | `(tactic| walk_at "pyIter ref") => `(tactic| (k_here; refine stp ?_))

noncomputable def tlt (ws : List Int) : List Int := ws.foldl (fun ts k => ts ++ ts.map (· + k)) [0]
theorem tlt_snoc (ws : List Int) (k : Int) : tlt (ws ++ [k]) = tlt ws ++ (tlt ws).map (· + k) := by
  unfold tlt; rw [List.foldl_append]; rfl
noncomputable def ltab5 : List Str := ("bbAAAAAAaaAAaaAAabbbabAAaaabaaab".toList.map fun c => Str.ofString c.toString)
noncomputable def ltab6 : List Str := ("bbAAAAAAabAAAAAAaaababAAaaabaaAAabbbabAAaaabaaAAaaabaaabaaaaaaab".toList.map fun c => Str.ofString c.toString)
theorem tb5_lo : ∀ i : Nat, i < 32 → 0 ≤ Int.fmod ((0 + (i : Int)) * 2) (2 ^ Int.toNat 5) + Int.fdiv (0 + (i : Int)) (2 ^ Int.toNat (5 - 1)) ∧ Int.fmod ((0 + (i : Int)) * 2) (2 ^ Int.toNat 5) + Int.fdiv (0 + (i : Int)) (2 ^ Int.toNat (5 - 1)) < 32 := by decide +kernel
theorem tb6_lo : ∀ i : Nat, i < 64 → 0 ≤ Int.fmod ((0 + (i : Int)) * 2) (2 ^ Int.toNat 6) + Int.fdiv (0 + (i : Int)) (2 ^ Int.toNat (6 - 1)) ∧ Int.fmod ((0 + (i : Int)) * 2) (2 ^ Int.toNat 6) + Int.fdiv (0 + (i : Int)) (2 ^ Int.toNat (6 - 1)) < 64 := by decide +kernel
local macro_rules | `(tactic| walk_at "subscriptTail Name Name ref int") => `(tactic| (k_dflt (refine' item_anyK (by kmk_list) (by assumption) (by omega) (by omega) (by omega) ?_); intro t9'))
theorem tab5A : ∀ i : Nat, i < 32 → 256 ≤ 255 + (tlt [0, 2, 1, -1, -2]).getD (0 + (i : Int)).toNat 0 → ltab5[i]? = some (Str.ofString "A") := by decide +kernel
theorem tab5S : ∀ i : Nat, i < 32 → ¬256 ≤ 255 + (tlt [0, 2, 1, -1, -2]).getD (0 + (i : Int)).toNat 0 → (([0, 31] : List Int).any fun x => x == 0 + (i : Int)) = true → ltab5[i]? = some (Str.ofString "b") := by decide +kernel
theorem tab5B : ∀ i : Nat, i < 32 → ¬256 ≤ 255 + (tlt [0, 2, 1, -1, -2]).getD (0 + (i : Int)).toNat 0 → (([0, 31] : List Int).any fun x => x == 0 + (i : Int)) = false → ¬255 + (tlt [0, 2, 1, -1, -2]).getD (((0 + (i : Int)) * 2).fmod (2 ^ Int.toNat 5) + (0 + (i : Int)).fdiv (2 ^ (5 - 1 : Int).toNat)).toNat 0 < 256 → ltab5[i]? = some (Str.ofString "b") := by decide +kernel
theorem tab5C : ∀ i : Nat, i < 32 → ¬256 ≤ 255 + (tlt [0, 2, 1, -1, -2]).getD (0 + (i : Int)).toNat 0 → (([0, 31] : List Int).any fun x => x == 0 + (i : Int)) = false → 255 + (tlt [0, 2, 1, -1, -2]).getD (((0 + (i : Int)) * 2).fmod (2 ^ Int.toNat 5) + (0 + (i : Int)).fdiv (2 ^ (5 - 1 : Int).toNat)).toNat 0 < 256 → ltab5[i]? = some (Str.ofString "a") := by decide +kernel
theorem tab6A : ∀ i : Nat, i < 64 → 256 ≤ 255 + (tlt [0, 1, 1, 0, -1, -1]).getD (0 + (i : Int)).toNat 0 → ltab6[i]? = some (Str.ofString "A") := by decide +kernel
theorem tab6S : ∀ i : Nat, i < 64 → ¬256 ≤ 255 + (tlt [0, 1, 1, 0, -1, -1]).getD (0 + (i : Int)).toNat 0 → (([0, 9, 21, 27, 63] : List Int).any fun x => x == 0 + (i : Int)) = true → ltab6[i]? = some (Str.ofString "b") := by decide +kernel
theorem tab6B : ∀ i : Nat, i < 64 → ¬256 ≤ 255 + (tlt [0, 1, 1, 0, -1, -1]).getD (0 + (i : Int)).toNat 0 → (([0, 9, 21, 27, 63] : List Int).any fun x => x == 0 + (i : Int)) = false → ¬255 + (tlt [0, 1, 1, 0, -1, -1]).getD (((0 + (i : Int)) * 2).fmod (2 ^ Int.toNat 6) + (0 + (i : Int)).fdiv (2 ^ (6 - 1 : Int).toNat)).toNat 0 < 256 → ltab6[i]? = some (Str.ofString "b") := by decide +kernel
theorem tab6C : ∀ i : Nat, i < 64 → ¬256 ≤ 255 + (tlt [0, 1, 1, 0, -1, -1]).getD (0 + (i : Int)).toNat 0 → (([0, 9, 21, 27, 63] : List Int).any fun x => x == 0 + (i : Int)) = false → 255 + (tlt [0, 1, 1, 0, -1, -1]).getD (((0 + (i : Int)) * 2).fmod (2 ^ Int.toNat 6) + (0 + (i : Int)).fdiv (2 ^ (6 - 1 : Int).toNat)).toNat 0 < 256 → ltab6[i]? = some (Str.ofString "a") := by decide +kernel
structure LG (Z : Int) (n9 : Nat) (ws st : List Int) (TT : List Str) : Prop where
  cs : (Z = 5 ∧ ws = [0, 2, 1, -1, -2] ∧ st = [0, 31]) ∨ (Z = 6 ∧ ws = [0, 1, 1, 0, -1, -1] ∧ st = [0, 9, 21, 27, 63])
  zp : 0 ≤ Z
  zq : Z ≤ 1000000
  yp : 0 ≤ Z - 1
  yq : Z - 1 ≤ 1000000
  pn : (2 : Int) ^ Int.toNat Z ≠ 0
  yn : (2 : Int) ^ Int.toNat (Z - 1) ≠ 0
  np : ((2 : Int) ^ Int.toNat (Z - 1)).natAbs.log2 < 9000
  lo : ∀ i : Nat, i < n9 → 0 ≤ Int.fmod ((0 + (i : Int)) * 2) (2 ^ Int.toNat Z) + Int.fdiv (0 + (i : Int)) (2 ^ Int.toNat (Z - 1)) ∧ Int.fmod ((0 + (i : Int)) * 2) (2 ^ Int.toNat Z) + Int.fdiv (0 + (i : Int)) (2 ^ Int.toNat (Z - 1)) < n9
  tl : (tlt ws).length = n9
  lT : TT.length = n9
  n64 : n9 ≤ 64
  sh : ∀ j, j < ws.length → (tlt (List.take j ws)).length ≤ 64
  sm : Builtin.Range.small 0 (2 ^ Int.toNat Z) 1 = true
  rs : Builtin.Range.rangeSize 0 (2 ^ Int.toNat Z) 1 = ((n9 : Nat) : Int)
  tA : ∀ i : Nat, i < n9 → 256 ≤ 255 + (tlt ws).getD (0 + (i : Int)).toNat 0 → TT[i]? = some (Str.ofString "A")
  tS : ∀ i : Nat, i < n9 → ¬256 ≤ 255 + (tlt ws).getD (0 + (i : Int)).toNat 0 → (st.any fun x => x == 0 + (i : Int)) = true → TT[i]? = some (Str.ofString "b")
  tB : ∀ i : Nat, i < n9 → ¬256 ≤ 255 + (tlt ws).getD (0 + (i : Int)).toNat 0 → (st.any fun x => x == 0 + (i : Int)) = false → ¬255 + (tlt ws).getD (((0 + (i : Int)) * 2).fmod (2 ^ Int.toNat Z) + (0 + (i : Int)).fdiv (2 ^ (Z - 1 : Int).toNat)).toNat 0 < 256 → TT[i]? = some (Str.ofString "b")
  tC : ∀ i : Nat, i < n9 → ¬256 ≤ 255 + (tlt ws).getD (0 + (i : Int)).toNat 0 → (st.any fun x => x == 0 + (i : Int)) = false → 255 + (tlt ws).getD (((0 + (i : Int)) * 2).fmod (2 ^ Int.toNat Z) + (0 + (i : Int)).fdiv (2 ^ (Z - 1 : Int).toNat)).toNat 0 < 256 → TT[i]? = some (Str.ofString "a")
theorem lg5 : LG 5 32 [0, 2, 1, -1, -2] [0, 31] ltab5 := ⟨.inl ⟨rfl, rfl, rfl⟩, by decide, by decide, by decide, by decide, by decide, by decide, by decide +kernel, tb5_lo, by decide, by decide, by decide, by decide, by decide, by decide, tab5A, tab5S, tab5B, tab5C⟩
theorem lg6 : LG 6 64 [0, 1, 1, 0, -1, -1] [0, 9, 21, 27, 63] ltab6 := ⟨.inr ⟨rfl, rfl, rfl⟩, by decide, by decide, by decide, by decide, by decide, by decide, by decide +kernel, tb6_lo, by decide, by decide, by decide, by decide, by decide, by decide, tab6A, tab6S, tab6B, tab6C⟩
theorem ifTup {M : Model} {A : Around} {E : Value → Shared → Prop} {s : Shared} {h₀ : Heap} {L : Addr} {m : Str → Option Value} {news : List (Addr × Obj)} {α : Sem Value} {Q : Value → Shared → Prop} (F0 : Fr h₀ L s.heap m) (N0 : News h₀ L s.heap news) (ns : List Int)
    (side : ∀ Q' : Value → Shared → Prop, (∀ D ts h' tk', Fr h₀ L h' m → News h₀ L h' ((D, { cls := .type "tuple", data := .seq ts.toArray }) :: news) → (∀ p ∈ news, p.1 < D) → IntsAre ts ns → Q' (.ref D) { s with heap := h', toks := tk' }) → wpAny M A α (fun v s' => Halt (Q' v s')) E s)
    (key : ∀ D ts h' tk', Fr h₀ L h' m → News h₀ L h' ((D, { cls := .type "tuple", data := .seq ts.toArray }) :: news) → (∀ p ∈ news, p.1 < D) → IntsAre ts ns → Q (.ref D) { s with heap := h', toks := tk' }) : wpAny M A α Q E s :=
  wpAny_mono (side Q key) (fun _ _ h => h.out) (fun _ _ e => e)
structure TSt where
  D : Addr
  ys : List Value
  ep : Nat
  oc : Obj
local macro_rules | `(tactic| walk_at "eval ListComp") => `(tactic| (k_dflt (refine ListComp_U (F₀ := by k_asm) (by with_unfolding_all rfl) (by decide) (by rfl) (by decide) (by rfl) ?_)))

set_option maxHeartbeats 4000000 in
theorem lettersG {Z : Int} {n9 : Nat} {ws st : List Int} {TT : List Str} (G : LG Z n9 ws st TT) {w : World} {p : Program} {loose : List Str} {mean : ExcName → Option Value} {mg mb : Str → Option Value} {news : List (Addr × Obj)} {t : Tok} :
    Spec w p loose mean mg mb 10 160 (.ref 278) [.int Z t] [] news (fun r news' => ∃ D ys ep, r = .ref D ∧ news' = (D, listOf ys.toArray ep) :: news ∧ TxAll ys TT ∧ ∀ p ∈ news, p.1 ≠ D) := by
  have zp9 := G.zp
  have zq9 := G.zq
  have yp9 := G.yp
  have yq9 := G.yq
  have n64 := G.n64
  intro dp un gd cn cs a ccd cl outer A₀ base h₀ L m s Q E B F X N T hk hd hu hret
  revert X; k_fill; intro X
  refine wpAny_call ?_
  k_dflt ((first | (refine' code_def (by k_asm) (by k_asm) (by k_asm) (by k_asm) (by k_asm) rfl rfl (by assumption) (by k_is) (by k_is) (by ktr_room) (by first | exact BindsTo.of_eq rfl | exact binds_K (by k_in) rfl (by k_is) rfl rfl rfl) (by exact locs rfl) ?_ (by exact rfl) (by exact rfl) (by exact rfl) (by decide); k_whole; intro _ _ _ _ _ _ yB _ _; (try dsimp only); (try k_lift yB)) | (refine' code_defC (by k_asm) (by k_asm) (by k_asm) (by k_asm) (by k_asm) rfl rfl (by assumption) (by k_is) (by k_is) (by ktr_room) (by first | exact BindsTo.of_eq rfl | exact binds_K (by k_in) rfl (by k_is) rfl rfl rfl) (by exact rfl) (by decide +kernel) ?_ (by exact rfl) (by exact rfl) (by exact rfl); k_whole; intro _ _ _ _ _ _ _ yN yY yB _ _ yl; (try k_lt yl); k_cells yY; (try simp only [List.cons_append, List.nil_append] at yN); (try dsimp only); (try k_lift yB))); (try k_fold))
  k_steps
  refine hltI ?_
  refine ifTup (by k_asm) (by k_asm) ws ?_ ?_
  · intro Q9 hq9
    rcases G.cs with ⟨rfl, rfl, rfl⟩ | ⟨rfl, rfl, rfl⟩
    · refine wpAny_IfExp ?_
      k_steps
      exact hltI (hq9 _ [_, _, _, _, _] _ _ (by k_asm) (by k_asm) (List.forall_mem_cons.mpr ⟨(by assumption), fun p hp => allLt_mem (by assumption) p hp⟩) (by repeat (first | exact .nil | refine .cons _ _ ?_)))
    · refine wpAny_IfExp ?_
      k_steps
      exact hltI (hq9 _ [_, _, _, _, _, _] _ _ (by k_asm) (by k_asm) (List.forall_mem_cons.mpr ⟨(by assumption), fun p hp => allLt_mem (by assumption) p hp⟩) (by repeat (first | exact .nil | refine .cons _ _ ?_)))
  intro D9 ts9 _ _ _ _ l9 hits9
  (k_lt l9)
  k_steps
  refine hltI ?_
  refine ifTup (by k_asm) (by k_asm) st ?_ ?_
  · intro Q9 hq9
    rcases G.cs with ⟨rfl, rfl, rfl⟩ | ⟨rfl, rfl, rfl⟩
    · refine wpAny_IfExp ?_
      k_steps
      exact hltI (hq9 _ [_, _] _ _ (by k_asm) (by k_asm) (List.forall_mem_cons.mpr ⟨(by assumption), List.forall_mem_cons.mpr ⟨(by assumption), fun p hp => allLt_mem (by assumption) p hp⟩⟩) (by repeat (first | exact .nil | refine .cons _ _ ?_)))
    · refine wpAny_IfExp ?_
      k_steps
      exact hltI (hq9 _ [_, _, _, _, _] _ _ (by k_asm) (by k_asm) (List.forall_mem_cons.mpr ⟨(by assumption), List.forall_mem_cons.mpr ⟨(by assumption), fun p hp => allLt_mem (by assumption) p hp⟩⟩) (by repeat (first | exact .nil | refine .cons _ _ ?_)))
  intro D8 ts8 _ _ _ _ l9 hits8
  (k_lt l9)
  k_steps
  refine stpI ?_
  rename Fr _ _ _ _ => lF
  rename News _ _ _ _ => lN
  rename_i g9 L9 h9a tk9 FG9 X9 T9 o9 d9 h9b tk9b le9 lt9a h9c h9d tk7 le8 le8b h9e l8 h9f le7 le7b le7c lt7 h9 _
  refine iter_tup2 (σ := TSt) [Str.ofString "tilts"] (fun c _ => some (.ref c.D)) (fun c => (D9, { cls := .type "tuple", data := .seq ts9.toArray }) :: (D8, { cls := .type "tuple", data := .seq ts8.toArray }) :: (c.D, listOf c.ys.toArray c.ep) :: (L9 + 1, c.oc) :: news)
    (fun i c => IntsAre c.ys (tlt (ws.take i)) ∧ (∃ v, c.oc.data = .cell v) ∧ (∀ p ∈ news, p.1 ≠ c.D) ∧ c.D ≠ D9 ∧ c.D ≠ D8 ∧ c.D ≠ L9 + 1) ⟨l8, [.int 0 (tk7 + 1)], 0, o9⟩ (by rfl) lF lN (.head _) rfl rfl ?hm ?hled ?h0 ?hk ?turn ?done
  case hm => exact offs_at fun z hz => by rw [List.mem_singleton.mp hz]; rfl
  case hled =>
    intro p hp
    simp only [List.mem_cons] at hp ⊢
    rcases hp with h | h | h | h | h
    · exact .inr (.inr (.inl h))
    · exact .inr (.inl h)
    · exact .inl h
    · exact .inr (.inr (.inr (.inl h)))
    · exact .inr (.inr (.inr (.inr h)))
  case h0 => exact ⟨.cons 0 _ .nil, ⟨_, d9⟩, fun p hp => Nat.ne_of_lt (allLt_mem lt7 p hp), Nat.ne_of_gt le7b, Nat.ne_of_gt le7, Nat.ne_of_gt le7c⟩
  case hk => exact fun i c h => .head _
  case turn =>
    intro i v c I it h tk hv hP hit hI ho F' N'
    (obtain ⟨D, ys, ep, oc⟩ := c)
    (have zq := hP; (try clear hP); refine an6 zq ?_; clear zq; intro p1 ze2 p3 p4 p5 p6; obtain ⟨v0, p2⟩ := ze2)
    dsimp only at F' N' ho p1 p2 p3 p4 p5 p6
    have q1 : @Ne Nat I D9 := Ne.symm (Nat.ne_of_lt (hI _ (.head _)))
    have q2 : @Ne Nat I D8 := Ne.symm (Nat.ne_of_lt (hI _ (.tail _ (.head _))))
    have q3 : @Ne Nat I D := Ne.symm (ho _ (.tail _ (.tail _ (.head _))))
    have q4 : @Ne Nat I (L9 + 1) := Ne.symm (Nat.ne_of_lt (hI _ (.tail _ (.tail _ (.tail _ (.head _))))))
    have q5 : @Ne Nat D D9 := p4
    have q6 : @Ne Nat D D8 := p5
    have q7 : @Ne Nat D (L9 + 1) := p6
    have hL1 : ∀ p ∈ news, p.1 ≠ L9 + 1 := fun p hp => Nat.ne_of_lt (Nat.lt_succ_of_lt (allLt_mem yl p hp))
    have hI' : ∀ p ∈ news, p.1 ≠ I := fun p hp => Nat.ne_of_lt (hI p (.tail _ (.tail _ (.tail _ (.tail _ hp)))))
    obtain ⟨k, tv, rfl, hk9⟩ := hits9.at i v hv
    have hi9 : i < ws.length := (List.getElem?_eq_some_iff.mp hk9).1
    clear lF lN hv
    k_steps
    have hlen : ys.length ≤ 64 := by
      rw [p1.length]
      exact G.sh i hi9
    have hsz : ys.toArray.size ≤ sizeLine := by rw [List.size_toArray, sizeLine_eq]; omega
    rename Fr _ _ _ _ => lF
    rename News _ _ _ _ => lN
    refine hltI ?_
    refine CompSrc.ledger (k := ep) (by rfl) lF lN (.tail _ (.tail _ (.tail _ (.head _)))) hsz (fun g => ?_)
    refine restUc (fun j zs => IntsAre zs (((tlt (List.take i ws)).take j).map (· + k))) .nil (.inr ⟨listOf ys.toArray ep, .tail _ (.tail _ (.tail _ (.head _))), rfl, _, rfl⟩) ?_ ?_
    · intro zs hJ D' h tk F' N' ho'
      clear lF lN
      rw [List.size_toArray, p1.length, List.take_length] at hJ
      have hz : (tlt (List.take i ws)).length + ((tlt (List.take i ws)).map (· + k)).length ≤ sizeLine := by
        rw [List.length_map, ← p1.length, sizeLine_eq]; omega
      (k_steps <;> repeat' ((first | (refine hltI ?_; (with_reducible show wpAny _ _ (binaryOp _ (Value.ref _) (Value.ref _)) _ _ _); k_dflt (refine' kmk_add_ints (by k_asm) (by k_asm) (by kmk_list) (by kmk_list) (by assumption) (by assumption) ?_ (by assumption)); intro _ _ _ _ _ l1 _; (try k_lt l1); revert l1; intro _; (try k_sweep))); k_steps))
      rename Fr _ _ _ _ => eF
      rename News _ _ _ _ => eN
      rename_i _ U9 us9 h9c f1 f2 f3 f4 f5 f6 f7 f8 h9d
      rename Obj.data _ = Data.cell (some (Value.int k tv)) => d8
      rename Obj => o8
      refine LEnd.intro (⟨U9, us9, 0, o8⟩ : TSt) eF eN (by k_mem) ?hsub ?hoff (offs_upd ?hu1 ?hu2) ⟨?hP, ⟨_, d8⟩, fun p hp => Nat.ne_of_lt (allLt_mem f8 p hp), Nat.ne_of_gt f4, Nat.ne_of_gt f5, Nat.ne_of_gt f7⟩
      case hP =>
        rw [List.take_add_one, hk9]
        show IntsAre us9 (tlt (_ ++ [k]))
        rw [tlt_snoc]
        exact f1
      case hu1 => exact fun z hz => by rw [List.mem_singleton.mp hz]; rfl
      case hu2 =>
        intro y hy
        have h1 := hy _ (.head _)
        simp only [if_neg h1, offs]
      case hsub =>
        intro p hp
        simp only [List.mem_cons] at hp ⊢
        rcases hp with h | h | h | h | h
        · exact .inr (.inr (.inr (.inl h)))
        · exact .inr (.inr (.inr (.inr (.inl h))))
        · exact .inl h
        · exact .inr (.inr (.inr (.inr (.inr (.inr (.inl h))))))
        · exact .inr (.inr (.inr (.inr (.inr (.inr (.inr h))))))
      case hoff =>
        intro p hp
        rcases List.mem_cons.mp hp with rfl | hp
        · exact Ne.symm q1
        · rcases List.mem_cons.mp hp with rfl | hp
          · exact Ne.symm q2
          · rcases List.mem_cons.mp hp with rfl | hp
            · exact Nat.ne_of_gt f3
            · rcases List.mem_cons.mp hp with rfl | hp
              · exact Ne.symm q4
              · exact hI' p hp
    · intro j zs v I2 oI C oC D' m₂ h tk E' hj hJ hP hns hx₁ ho' h1 h2 h3 F' N'
      clear lF lN
      (have zq := p1.at j v (by simpa using hP); refine ex2 zq ?_; clear zq; intro a9 ta9 zr; refine an2 zr ?_; clear zr; intro ze3 ha9; subst ze3)
      k_steps
      rename Fr _ _ _ _ => eF
      rename News _ _ _ _ => eN
      refine CEnd.intro _ eF eN (fun p hp => hp) ho' ⟨rfl, ?_⟩
      rw [List.take_add_one, ha9, List.map_append]
      exact hJ.append (.cons _ _ .nil)
  case done =>
    intro c h tk hP F' N'
    (obtain ⟨D, ys, ep, oc⟩ := c)
    (have zq := hP; (try clear hP); refine an6 zq ?_; clear zq; intro p1 ze7 p3 p4 p5 p6; obtain ⟨v0, p2⟩ := ze7)
    dsimp only at F' N' p1 p2
    have q5 : @Ne Nat D D9 := p4
    have q6 : @Ne Nat D D8 := p5
    have q7 : @Ne Nat D (L9 + 1) := p6
    have hL1 : ∀ p ∈ news, p.1 ≠ L9 + 1 := fun p hp => Nat.ne_of_lt (Nat.lt_succ_of_lt (allLt_mem yl p hp))
    clear lF lN
    (k_steps <;> repeat' ((first | (refine hltI ?_; (with_reducible show wpAny _ _ (binaryOp _ _ _) _ _ _); with_reducible (first | refine pow_int_small zp9 zq9 (by decide) ?_ | refine pow_int_small yp9 yq9 (by decide) ?_ | refine mod_int G.pn ?_ | refine floordiv_int G.yn ?_ (Or.inl (PyProof.noPylong_of_log2 G.np)))) | (refine hltI ?_; (with_reducible show wpAny _ _ (compareOp _ _ _) _ _ _); k_dflt (refine in_tuple_ints (News.isTup (by k_asm) (by k_mem)) hits8 ?_))); k_steps))
    refine stpI ?_
    rename_i l9 h9a F9a N9a g1 g2 g3 g4 ltl h9b F9b N9b _ h9c tk9c t1 u1 v1 hR lF lN kp
    clear F9a N9a F9b N9b
    have p1' : IntsAre ys (tlt ws) := by rw [hits9.length, List.take_length] at p1; exact p1
    refine iter_range1 (σ := List Value × Nat) [Str.ofString "state", Str.ofString "turned_back"] (fun c => (l9, listOf c.1.toArray c.2) :: (D9, { cls := .type "tuple", data := .seq ts9.toArray }) :: (D8, { cls := .type "tuple", data := .seq ts8.toArray }) :: (D, listOf ys.toArray ep) :: (L9 + 1, oc) :: news)
      (fun i c => TxAll c.1 ((TT).take i)) ([], 0) (by rfl) hR G.sm (n := n9) G.rs lF lN (fun p hp => hp) .nil ?_ ?_
    · intro i tv c u2 I it h tk hi hP hit hI ho F' N'
      (obtain ⟨zs, ep2⟩ := c)
      dsimp only at F' N' ho hP
      have z0 : @Ne Nat I l9 := Ne.symm (Nat.ne_of_lt (hI _ (.head _)))
      have z1 : @Ne Nat I D9 := Ne.symm (Nat.ne_of_lt (hI _ (.tail _ (.head _))))
      have z2 : @Ne Nat I D8 := Ne.symm (Nat.ne_of_lt (hI _ (.tail _ (.tail _ (.head _)))))
      have z3 : @Ne Nat I D := Ne.symm (Nat.ne_of_lt (hI _ (.tail _ (.tail _ (.tail _ (.head _))))))
      have z4 : @Ne Nat I (L9 + 1) := Ne.symm (Nat.ne_of_lt (hI _ (.tail _ (.tail _ (.tail _ (.tail _ (.head _)))))))
      have hI' : ∀ p ∈ news, p.1 ≠ I := fun p hp => Nat.ne_of_lt (hI p (.tail _ (.tail _ (.tail _ (.tail _ (.tail _ hp))))))
      have hl9 : ∀ p ∈ news, p.1 ≠ l9 := fun p hp => Nat.ne_of_lt (allLt_mem ltl p hp)
      have hzl : zs.length = i := by rw [hP.length, List.length_take]; exact Nat.min_eq_left (Nat.le_of_lt (by rw [G.lT]; exact hi))
      clear lF lN hR kp
      have htb := G.lo i hi
      have hTl : (tlt ws).length = n9 := G.tl
      (k_steps <;> repeat' ((first | (refine hltI ?_; (with_reducible show wpAny _ _ (binaryOp _ _ _) _ _ _); with_reducible (first | refine pow_int_small zp9 zq9 (by decide) ?_ | refine pow_int_small yp9 yq9 (by decide) ?_ | refine mod_int G.pn ?_ | refine floordiv_int G.yn ?_ (Or.inl (PyProof.noPylong_of_log2 G.np)))) | (refine hltI ?_; (with_reducible show wpAny _ _ (compareOp _ _ _) _ _ _); k_dflt (refine in_tuple_ints (News.isTup (by k_asm) (by k_mem)) hits8 ?_))); k_steps))
      · have e9 := G.tA i hi (by assumption)
        rename Fr _ _ _ _ => eF
        rename News _ _ _ _ => eN
        rw [List.push_toArray] at eN
        refine LEnd.intro ((_, ep2 + 1), _) eF eN (.head _) (fun p hp => .tail _ hp) (fun p hp => ?_) (offs_eq fun y hy => ?_) ?_
        · rcases List.mem_cons.mp hp with rfl | hp
          · exact Ne.symm z0
          · exact ho p (.tail _ hp)
        · have h1 := hy _ (.head _)
          have h2 := hy _ (.tail _ (.head _))
          simp only [if_neg h1, if_neg h2, offs]
        · rw [List.take_add_one, e9]
          exact hP.snoc
      · have e9 := G.tS i hi (by assumption) (by assumption)
        rename Fr _ _ _ _ => eF
        rename News _ _ _ _ => eN
        rw [List.push_toArray] at eN
        refine LEnd.intro ((_, ep2 + 1), _) eF eN (.head _) (fun p hp => .tail _ hp) (fun p hp => ?_) (offs_eq fun y hy => ?_) ?_
        · rcases List.mem_cons.mp hp with rfl | hp
          · exact Ne.symm z0
          · exact ho p (.tail _ hp)
        · have h1 := hy _ (.head _)
          have h2 := hy _ (.tail _ (.head _))
          simp only [if_neg h1, if_neg h2, offs]
        · rw [List.take_add_one, e9]
          exact hP.snoc
      · have e9 := G.tC i hi (by assumption) (by assumption) (by assumption)
        rename Fr _ _ _ _ => eF
        rename News _ _ _ _ => eN
        rw [List.push_toArray] at eN
        refine LEnd.intro ((_, ep2 + 1), _) eF eN (.head _) (fun p hp => .tail _ hp) (fun p hp => ?_) (offs_eq fun y hy => ?_) ?_
        · rcases List.mem_cons.mp hp with rfl | hp
          · exact Ne.symm z0
          · exact ho p (.tail _ hp)
        · have h1 := hy _ (.head _)
          have h2 := hy _ (.tail _ (.head _))
          simp only [if_neg h1, if_neg h2, offs]
        · rw [List.take_add_one, e9]
          exact hP.snoc
      · have e9 := G.tB i hi (by assumption) (by assumption) (by assumption)
        rename Fr _ _ _ _ => eF
        rename News _ _ _ _ => eN
        rw [List.push_toArray] at eN
        refine LEnd.intro ((_, ep2 + 1), _) eF eN (.head _) (fun p hp => .tail _ hp) (fun p hp => ?_) (offs_eq fun y hy => ?_) ?_
        · rcases List.mem_cons.mp hp with rfl | hp
          · exact Ne.symm z0
          · exact ho p (.tail _ hp)
        · have h1 := hy _ (.head _)
          have h2 := hy _ (.tail _ (.head _))
          simp only [if_neg h1, if_neg h2, offs]
        · rw [List.take_add_one, e9]
          exact hP.snoc
    · intro c u2 h tk hP F' N'
      (obtain ⟨zs, ep2⟩ := c)
      dsimp only at F' N' hP
      have hP' : TxAll zs TT := by rw [← G.lT, List.take_length] at hP; exact hP
      clear lF lN hR kp
      k_steps
      rename News _ _ _ _ => lN9
      refine hret _ ((l9, listOf zs.toArray ep2) :: news) _ _ ⟨l9, zs, _, rfl, rfl, hP', fun p hp => Nat.ne_of_lt (allLt_mem ltl p hp)⟩ (by k_asm) ?_
      intro p hp
      rcases List.mem_cons.mp hp with rfl | hp
      · exact lN9 _ (.head _)
      · exact lN9 _ (.tail _ (.tail _ (.tail _ (.tail _ (.tail _ hp)))))

theorem letters5 {w : World} {p : Program} {loose : List Str} {mean : ExcName → Option Value} {mg mb : Str → Option Value} {news : List (Addr × Obj)} {t : Tok} :
    Spec w p loose mean mg mb 10 160 (.ref 278) [.int 5 t] [] news (fun r news' => ∃ D ys ep, r = .ref D ∧ news' = (D, listOf ys.toArray ep) :: news ∧ TxAll ys ltab5 ∧ ∀ p ∈ news, p.1 ≠ D) := lettersG lg5
theorem letters6 {w : World} {p : Program} {loose : List Str} {mean : ExcName → Option Value} {mg mb : Str → Option Value} {news : List (Addr × Obj)} {t : Tok} :
    Spec w p loose mean mg mb 10 160 (.ref 278) [.int 6 t] [] news (fun r news' => ∃ D ys ep, r = .ref D ∧ news' = (D, listOf ys.toArray ep) :: news ∧ TxAll ys ltab6 ∧ ∀ p ∈ news, p.1 ≠ D) := lettersG lg6
end

section
theorem wtPR : True := by
  w_top off
  trivial
theorem TxAll.strs {vs : List Value} {xs : List Str} (h : TxAll vs xs) : StrsAre vs xs := by
  induction h with
  | nil => exact .nil
  | cons _ ih => exact .cons _ _ ih
theorem runR_skip {f : Nat → Nat} {per : Nat → Nat} {i : Nat} (h : (runR f per i).1 i = true) : runR f per (i + 1) = runR f per i := by
  show (if (runR f per i).1 i = true then _ else _) = _
  rw [if_pos h]
theorem runR_go {f : Nat → Nat} {per : Nat → Nat} {i : Nat} (h : (runR f per i).1 i = false) : runR f per (i + 1) = (fun z => (runR f per i).1 z || (orbit f i (per i)).contains z, (runR f per i).2 ++ [orbit f i (per i)]) := by
  show (if (runR f per i).1 i = true then _ else _) = _
  rw [if_neg (by rw [h]; decide)]
structure WhSt where
  k : Nat
  t1 : Tok
  t2 : Tok
  so : Obj
  Sf : Int → Bool
structure RSt where
  so : Obj
  Sf : Int → Bool
  vs : List Value
  hs : List (Str × Str)
  ep : Nat
  rest : List (Addr × Obj)
noncomputable def rled (M l : Addr) (c : RSt) : List (Addr × Obj) := (M, c.so) :: (l, listOf c.vs.toArray c.ep) :: c.rest
noncomputable abbrev hbase9 (w : World) (news : List (Addr × Obj)) (x d l D : Addr) (ys : List Value) (ep : Nat) (kt : Tok) (kk : Nat) : List (Addr × Obj) := (x, instObj 262 d) :: (d, dictOf [⟨PyData.keyHash w.params (Str.ofString "_headers"), .str (Str.ofString "_headers") kt, .ref l⟩] kk) :: (D, listOf ys.toArray ep) :: news
noncomputable def ltab (n : Nat) : List Str := if n = 5 then ltab5 else ltab6
theorem ltab_5 : ltab 5 = ltab5 := if_pos rfl
theorem ltab_6 : ltab 6 = ltab6 := if_neg (by decide)
noncomputable def txt (n : Nat) (r : List Nat) : Str := r.foldl (fun acc s => acc ++ (ltab n).getD s Str.empty) (Str.ofString "")
theorem txt_snoc (n : Nat) (r : List Nat) (s : Nat) : txt n (r ++ [s]) = txt n r ++ (ltab n).getD s Str.empty := by
  unfold txt; rw [List.foldl_append]; rfl
theorem ltab5_len : ∀ i : Nat, i < 2 ^ 5 → ((ltab 5).getD i Str.empty).length = 1 := by decide +kernel
theorem ltab6_len : ∀ i : Nat, i < 2 ^ 6 → ((ltab 6).getD i Str.empty).length = 1 := by decide +kernel
noncomputable abbrev okv (c : Nat) : Bool := !(decide (c < 256) && (valueCode.getD (5 + (1 + c / 32)) 0).testBit (c % 32))
theorem ltab5_ok : ∀ i : Nat, i < 2 ^ 5 → (((ltab 5).getD i Str.empty).cps.all okv) = true := by decide +kernel
theorem ltab6_ok : ∀ i : Nat, i < 2 ^ 6 → (((ltab 6).getD i Str.empty).cps.all okv) = true := by decide +kernel
structure SizeOk (z : Nat) : Prop where
  perm : ∀ xs : List Int, PermOn (nxt z xs) (2 ^ z)
  len : ∀ i : Nat, i < 2 ^ z → ((ltab z).getD i Str.empty).length = 1
  ok : ∀ i : Nat, i < 2 ^ z → (((ltab z).getD i Str.empty).cps.all okv) = true
theorem ok5 : SizeOk 5 := ⟨nxt_perm5, ltab5_len, ltab5_ok⟩
theorem ok6 : SizeOk 6 := ⟨nxt_perm6, ltab6_len, ltab6_ok⟩
theorem txt_len {z : Nat} (K : SizeOk z) {xs : List Int} {i : Nat} (hi : i < 2 ^ z) : ∀ k, (txt z (orbit (nxt z xs) i k)).length = k
  | 0 => by rfl
  | k + 1 => by
    show (txt z (orbit (nxt z xs) i k ++ [itr (nxt z xs) k i])).length = _
    rw [txt_snoc, PySem.Str.length_append, txt_len K hi k, K.len _ (itr_ltP (K.perm xs) hi k)]
theorem txt_ok {z : Nat} (K : SizeOk z) {xs : List Int} {i : Nat} (hi : i < 2 ^ z) : ∀ k, ((txt z (orbit (nxt z xs) i k)).cps.all okv) = true
  | 0 => by show ((Str.ofString "").cps.all okv) = true; decide +kernel
  | k + 1 => by
    show ((txt z (orbit (nxt z xs) i k ++ [itr (nxt z xs) k i])).cps.all okv) = true
    rw [txt_snoc]
    show (((txt z (orbit (nxt z xs) i k)).cps ++ ((ltab z).getD (itr (nxt z xs) k i) Str.empty).cps).all okv) = true
    rw [Array.all_append, txt_ok K hi k, K.ok _ (itr_ltP (K.perm xs) hi k)]
    rfl
theorem txt_free {z : Nat} (K : SizeOk z) {xs : List Int} {i : Nat} (hi : i < 2 ^ z) (k : Nat) : Free valueCode (txt z (orbit (nxt z xs) i k)).cps := free_value (txt_ok K hi k)
noncomputable def rP {w : World} (base : List (Addr × Obj)) (n : Nat) (xs : List Int) (per : Nat → Nat) (knd : KeyKind PySem.Challenge.rw_to0077_01.row.prog w Int) (M l : Addr) (i : Nat) (c : RSt) : Prop :=
  c.so.SetObjOf knd c.Sf (cnt (2 ^ n) c.Sf) ∧ HdrAll c.rest c.vs c.hs ∧ (∀ p ∈ c.rest, p.1 ≠ l) ∧ (∀ p ∈ c.rest, p.1 ≠ M) ∧ (∀ p ∈ base, p ∈ c.rest) ∧ (∀ z : Nat, z < 2 ^ n → c.Sf (z : Int) = (runR (nxt n xs) per i).1 z) ∧ c.hs = (runR (nxt n xs) per i).2.map (fun r => (Str.ofString "ring", txt n r)) ∧ c.vs.length ≤ i
noncomputable def whU (z : Nat) (xs : List Int) (i : Nat) (c : WhSt) : Str → Option Value := fun y => if y = Str.ofString "text" then some (.str (txt z (orbit (nxt z xs) i c.k)) c.t1) else some (.int (itr (nxt z xs) c.k i : Nat) c.t2)
noncomputable def whL (I M l : Addr) (it lo : Obj) (rest : List (Addr × Obj)) (c : WhSt) : List (Addr × Obj) := (I, it) :: (M, c.so) :: (l, lo) :: rest
noncomputable def whP {w : World} (z : Nat) (xs : List Int) (i p : Nat) (knd : KeyKind PySem.Challenge.rw_to0077_01.row.prog w Int) (Sf : Int → Bool) (n : Nat) (c : WhSt) : Prop :=
  n + c.k = p ∧ c.so.SetObjOf knd c.Sf (cnt (2 ^ z) c.Sf) ∧ ∀ y : Nat, y < 2 ^ z → c.Sf (y : Int) = (Sf (y : Int) || (orbit (nxt z xs) i c.k).contains y)
theorem text_ne_state : ¬ (Str.ofString "state" = Str.ofString "text") := by decide
section
variable {w : World} {z : Nat} {xs : List Int} {per : Nat → Nat} {i k n p st : Nat} {tx : Str} {t1 t2 : Tok} {Sf Sf2 Sf3 : Int → Bool} {so so2 : Obj} {h₀ h' : Heap} {L : Addr} {s : Shared} {tk : Nat} {m₀ m' : Str → Option Value} {I M l T : Addr} {it lo : Obj} {rest : List (Addr × Obj)} {knd : KeyKind PySem.Challenge.rw_to0077_01.row.prog w Int} {tb : List Str} {e : Int} {vs : List Value} {hs : List (Str × Str)} {ep ep9 n9 : Nat} {tv ty : Tok} {base : List (Addr × Obj)}
theorem wh_end (hx01 : ∀ k ∈ xs, k = 0 ∨ k = 1) (he : e.toNat = z - 1) (htb : ltab z = tb) (hst : st < 2 ^ z) (htx : txt z (orbit (nxt z xs) i k) = tx) (hsg : itr (nxt z xs) k i = st) (w1 : n + k = p) (hk : k < p)
    (w3 : ∀ y : Nat, y < 2 ^ z → Sf2 (y : Int) = (Sf (y : Int) || (orbit (nxt z xs) i k).contains y))
    (F : Fr h₀ L h' m') (N : News h₀ L h' ((I, it) :: (M, so2) :: (l, lo) :: rest))
    (hset : so2.SetObjOf knd (fun k' => Sf2 k' || decide (k' = (st : Int))) (if Sf2 (st : Int) = true then cnt (2 ^ z) Sf2 else cnt (2 ^ z) Sf2 + 1))
    (hm1 : m' (Str.ofString "text") = some (.str (tx ++ tb.getD (st : Int).toNat Str.empty) t1))
    (hm2 : m' (Str.ofString "state") = some (.int ((st : Int).fdiv 2 + ((st : Int) + xs.getD ((st : Int).fdiv 2).toNat 0).fmod 2 * 2 ^ e.toNat) t2))
    (hm3 : ∀ y, y ≠ Str.ofString "text" → y ≠ Str.ofString "state" → m' y = m₀ y) :
    WEnd (fun c => offs [Str.ofString "text", Str.ofString "state"] (whU z xs i c) m₀) (whL I M l it lo rest) (whP z xs i p knd Sf) n h₀ L s .next { s with heap := h', toks := tk } := by
  rw [cnt_if Sf2 st (2 ^ z) hst] at hset
  have htx2 : txt z (orbit (nxt z xs) i (k + 1)) = tx ++ tb.getD (st : Int).toNat Str.empty := by
    show txt z (orbit (nxt z xs) i k ++ [itr (nxt z xs) k i]) = _
    rw [txt_snoc, htx, hsg, htb]; rfl
  have hst2 : ((itr (nxt z xs) (k + 1) i : Nat) : Int) = (st : Int).fdiv 2 + ((st : Int) + xs.getD ((st : Int).fdiv 2).toNat 0).fmod 2 * 2 ^ e.toNat := by
    show ((nxt z xs (itr (nxt z xs) k i) : Nat) : Int) = _
    rw [hsg]; exact nxt_int z e he hx01 st
  refine WEnd.intro (⟨k + 1, t1, t2, so2, fun k' => Sf2 k' || decide (k' = (st : Int))⟩ : WhSt) (n - 1) F N (fun p hp => hp) (offs_upd ?_ ?_) (by omega) ⟨by show n - 1 + (k + 1) = p; omega, hset, ?_⟩
  · intro y hy
    rcases List.mem_cons.mp hy with rfl | hy
    · rw [hm1]; unfold whU; dsimp only; rw [if_pos rfl, htx2]
    · rw [List.mem_singleton.mp hy, hm2]; unfold whU; dsimp only; rw [if_neg text_ne_state, hst2]
  · intro y hy
    exact hm3 y (hy _ (.head _)) (hy _ (.tail _ (.head _)))
  · intro y hy
    show (Sf2 (y : Int) || decide ((y : Int) = (st : Int))) = (Sf (y : Int) || (orbit (nxt z xs) i k ++ [itr (nxt z xs) k i]).contains y)
    rw [w3 y hy, contains_snoc, hsg, Bool.or_assoc]
theorem r_exit (hi : i < 2 ^ z) (hP : rP base z xs per knd M l i ⟨so, Sf, vs, hs, ep, rest⟩) (ho : ∀ p ∈ rled M l ⟨so, Sf, vs, hs, ep, rest⟩, p.1 ≠ I) (hout : Sf (i : Int) = false) (hk : k = per i)
    (htx : txt z (orbit (nxt z xs) i k) = tx)
    (w3 : ∀ y : Nat, y < 2 ^ z → Sf2 (y : Int) = (Sf (y : Int) || (orbit (nxt z xs) i k).contains y)) (hset : so2.SetObjOf knd Sf2 (cnt (2 ^ z) Sf2)) (hMl : M ≠ l)
    (F : Fr h₀ L h' m') (N : News h₀ L h' ((T, tup2 (.str (Str.ofString "ring") tv) (.str tx ty) n9) :: (l, listOf (vs ++ [Value.ref T]).toArray ep9) :: (I, it) :: (M, so2) :: rest))
    (hTl : T ≠ l) (hT : ∀ p ∈ (I, it) :: (M, so2) :: rest, p.1 ≠ T) (hmm : ∀ y, (∀ q ∈ [Str.ofString "start", Str.ofString "text", Str.ofString "state"], y ≠ q) → m' y = m₀ y) :
    LEnd (fun c : RSt × (Str → Option Value) => offs [Str.ofString "start", Str.ofString "text", Str.ofString "state"] c.2 m₀) (fun c => rled M l c.1) (fun c => rP base z xs per knd M l (i + 1) c.1) h₀ L I it s { s with heap := h', toks := tk } := by
  obtain ⟨p1, p2, p3, p4, p5, p6, p7, p8⟩ := hP
  dsimp only at p1 p2 p3 p4 p5 p6 p7 p8
  subst hk
  have hrun := runR_go (f := nxt z xs) (per := per) (i := i) (by rw [← p6 i hi]; exact hout)
  refine LEnd.intro (⟨so2, Sf2, vs ++ [Value.ref T], hs ++ [(Str.ofString "ring", tx)], ep9, (T, tup2 (.str (Str.ofString "ring") tv) (.str tx ty) n9) :: rest⟩, m') F N (by simp) ?_ ?_ (offs_eq hmm) ?_
  · intro p hp
    rcases List.mem_cons.mp hp with rfl | hp
    · exact .tail _ (.tail _ (.tail _ (.head _)))
    · rcases List.mem_cons.mp hp with rfl | hp
      · exact .tail _ (.head _)
      · rcases List.mem_cons.mp hp with rfl | hp
        · exact .head _
        · exact .tail _ (.tail _ (.tail _ (.tail _ hp)))
  · intro p hp
    rcases List.mem_cons.mp hp with rfl | hp
    · exact ho (M, so) (.head _)
    · rcases List.mem_cons.mp hp with rfl | hp
      · exact ho (l, listOf vs.toArray ep) (.tail _ (.head _))
      · rcases List.mem_cons.mp hp with rfl | hp
        · exact fun e => hT (I, it) (.head _) e.symm
        · exact ho p (.tail _ (.tail _ hp))
  · refine ⟨hset, (p2.mono fun p hp => .tail _ hp).snoc (.head _), ?_, ?_, fun p hp => .tail _ (p5 p hp), ?_, ?_, by simp; omega⟩
    · intro p hp
      rcases List.mem_cons.mp hp with rfl | hp
      · exact hTl
      · exact p3 p hp
    · intro p hp
      rcases List.mem_cons.mp hp with rfl | hp
      · exact fun e => hT (M, so2) (.tail _ (.head _)) e.symm
      · exact p4 p hp
    · intro y hy
      rw [hrun]
      show Sf2 (y : Int) = _
      rw [w3 y hy, p6 y hy]
    · show hs ++ [(Str.ofString "ring", tx)] = _
      rw [hrun]
      show _ = List.map _ ((runR (nxt z xs) per i).2 ++ [orbit (nxt z xs) i (per i)])
      rw [List.map_append, p7, ← htx]; rfl
end
noncomputable def RingsRet (n : Nat) (xs : List Int) (per : Nat → Nat) (news : List (Addr × Obj)) (r : Value) (news' : List (Addr × Obj)) : Prop :=
  ∃ x dx l hsh kt kk ep' vs hs rest, r = .ref x ∧ news' = (l, listOf vs.toArray ep') :: rest ∧ (x, instObj 262 dx) ∈ rest ∧ (dx, dictOf [⟨hsh, .str (Str.ofString "_headers") kt, .ref l⟩] kk) ∈ rest ∧ HdrAll rest vs hs ∧ (∀ p ∈ rest, p.1 ≠ l) ∧ (∀ p ∈ news, p ∈ rest) ∧ hs = (runR (nxt n xs) per (2 ^ n)).2.map (fun r => (Str.ofString "ring", txt n r)) ∧ vs.length ≤ 2 ^ n
end

section
theorem wtCRG : True := by
  w_top off
  trivial
open LCt LCg LCp
local macro_rules | `(tactic| walk_at "call ref") => `(tactic| (k_here; refine stopCall [161, 209, 262, 278, 259] (by decide) ?_))


local macro_rules | `(tactic| walk_at "exec For Name Call cons nil") => `(tactic| walk_at "zF")
local macro_rules | `(tactic| walk_at "pyIter ref") => `(tactic| (k_here; refine stp ?_))
local macro_rules | `(tactic| walk_at "exec While BoolOp") => `(tactic| (k_here; refine stp ?_))
local macro_rules | `(tactic| walk_at "exec While") => `(tactic| (k_here; refine stp ?_))
local macro_rules | `(tactic| walk_at "binaryOp Add str str") => `(tactic| (k_dflt (refine' KXadd.add (K := 64) (L := 1) (by omega) (by assumption) (by decide) ?_); intro _ _ _))
local macro_rules | `(tactic| walk_at "binaryOp Pow int int") => `(tactic| (k_here; (with_reducible refine pow_int_small (by first | decide | assumption) (by first | decide | assumption) (by decide) ?_)))
local macro_rules | `(tactic| walk_at "subscriptTail Name Name ref int") => `(tactic| (k_dflt (refine' KTb.item_list (by kmk_list) (by assumption) (by omega) (by omega) (by omega) ?_); intro t9' z9'))
local macro_rules | `(tactic| walk_at "subscriptTail Name BinOp ref int") => `(tactic| (k_dflt (refine' item_anyK (by kmk_list) (by assumption) (by omega) (by omega) (by omega) ?_); intro t9'))
theorem news_third {h₀ h : Heap} {L : Addr} {a b c : Addr × Obj} {r : List (Addr × Obj)} (N : News h₀ L h (a :: b :: c :: r)) : News h₀ L h (c :: a :: b :: r) := fun p hp => by
  rcases List.mem_cons.mp hp with rfl | hp
  · exact N _ (.tail _ (.tail _ (.head _)))
  · rcases List.mem_cons.mp hp with rfl | hp
    · exact N _ (.head _)
    · rcases List.mem_cons.mp hp with rfl | hp
      · exact N _ (.tail _ (.head _))
      · exact N _ (.tail _ (.tail _ (.tail _ hp)))

structure RG (sz kk : Nat) (T : List Str) : Prop where
  ok : SizeOk sz
  tab : ltab sz = T
  tl : T.length = 2 ^ sz
  k2 : 2 ^ sz = 2 * kk
  p64 : 2 ^ sz ≤ 64
  zp : 0 ≤ (sz : Int)
  zq : (sz : Int) ≤ 1000000
  yp : 0 ≤ (sz : Int) - 1
  yq : (sz : Int) - 1 ≤ 1000000
  sm : Builtin.Range.small 0 (2 ^ Int.toNat (sz : Int)) 1 = true
  rs : Builtin.Range.rangeSize 0 (2 ^ Int.toNat (sz : Int)) 1 = ((2 ^ sz : Nat) : Int)
  e1 : Int.toNat ((sz : Int) - 1) = sz - 1
theorem cnt_no (n : Nat) : cnt n (fun _ => false) = 0 := by
  unfold cnt; rw [List.filter_eq_nil_iff.mpr (fun _ _ h => Bool.noConfusion h)]; rfl
theorem rg5 : RG 5 16 ltab5 := ⟨ok5, ltab_5, by decide, by decide, by decide, by decide, by decide, by decide, by decide, by decide, by decide, by decide⟩
theorem rg6 : RG 6 32 ltab6 := ⟨ok6, ltab_6, by decide, by decide, by decide, by decide, by decide, by decide, by decide, by decide, by decide, by decide⟩
set_option maxHeartbeats 16000000 in
theorem ringsG {sz kk : Nat} {TT : List Str} (G : RG sz kk TT) {w : World} {p : Program} {loose : List Str} {mean : ExcName → Option Value} {mg mb : Str → Option Value} {news : List (Addr × Obj)} {t : Tok} {cx : Addr} {xvs : List Value} {epx : Nat} {xs : List Int} {per : Nat → Nat}
    (hcx : (cx, listOf xvs.toArray epx) ∈ news) (hxs : IntsAre xvs xs) (hlx : xs.length = kk) (hx01 : ∀ k ∈ xs, k = 0 ∨ k = 1)
    (hper : PerOk (nxt sz xs) (2 ^ sz) per)
    (LT : ∀ {news : List (Addr × Obj)} {t : Tok}, Spec w p loose mean mg mb 10 160 (.ref 278) [.int (sz : Int) t] [] news (fun r news' => ∃ D ys ep, r = .ref D ∧ news' = (D, listOf ys.toArray ep) :: news ∧ TxAll ys TT ∧ ∀ p ∈ news, p.1 ≠ D)) :
    Spec w p loose mean mg mb 20 300 (.ref 285) [.int (sz : Int) t, .ref cx] [] news (RingsRet sz xs per news) := by
  have z64 := G.p64
  have zk2 := G.k2
  have zp9 := G.zp
  have zq9 := G.zq
  have yp9 := G.yp
  have yq9 := G.yq
  intro dp un gd cn cs a ccd cl outer A₀ base h₀ L m s Q E B F X N T hk hd hu hret
  revert X; k_fill; intro X
  refine wpAny_call ?_
  k_dflt ((first | (refine' code_def (by k_asm) (by k_asm) (by k_asm) (by k_asm) (by k_asm) rfl rfl (by assumption) (by k_is) (by k_is) (by ktr_room) (by first | exact BindsTo.of_eq rfl | exact binds_K (by k_in) rfl (by k_is) rfl rfl rfl) (by exact locs rfl) ?_ (by exact rfl) (by exact rfl) (by exact rfl) (by decide); k_whole; intro _ _ _ _ _ _ yB _ _; (try dsimp only); (try k_lift yB)) | (refine' code_defC (by k_asm) (by k_asm) (by k_asm) (by k_asm) (by k_asm) rfl rfl (by assumption) (by k_is) (by k_is) (by ktr_room) (by first | exact BindsTo.of_eq rfl | exact binds_K (by k_in) rfl (by k_is) rfl rfl rfl) (by exact rfl) (by decide +kernel) ?_ (by exact rfl) (by exact rfl) (by exact rfl); k_whole; intro _ _ _ _ _ _ _ yN yY yB _ _ yl; (try k_lt yl); k_cells yY; (try simp only [List.cons_append, List.nil_append] at yN); (try dsimp only); (try k_lift yB))); (try k_fold))
  (k_steps <;> repeat' ((first | (refine hltI ?_; (with_reducible show wpAny _ _ (call (Value.ref _) _ _) _ _ _); k_dflt (refine' use (S := LT) (k := ?_)); intro _ _ _ _ R9 _ _; obtain ⟨_, _, _, e9, e8, _, _⟩ := R9; subst e9; subst e8; (try dsimp only); (try k_fold)) | (refine hltI ?_; (with_reducible show wpAny _ _ (call (Value.ref _) _ _) _ _ _); k_dflt (refine' use (S := new_spec) (k := ?_)); intro _ _ _ _ R9 _ _; obtain ⟨_, _, _, _, _, e9, e8, _, _, o3⟩ := R9; subst e9; subst e8; (replace o3 := allLt_of o3); (try simp only [AllLt, and_true] at o3); (repeat (obtain ⟨_, o3⟩ := o3)); revert o3; intro _; (try dsimp only); (try k_fold))); k_steps))
  refine stpI ?_
  rename_i g9 L9 h9a FG9 X9 T9 qk9 ek9 tka h9b tkb D9 ys9 ep9 tx9 o9 h9c tkc h9d tkd x9 d9 l9 kt9 kk9 o1 o2 o2b o3 h9e _ M9 h9f led9 hs9 hz9 q1 q2 q3 q4 lt9 h9g F9b N9b h9h tkh t1 u1 v1 hR lF lN kp
  refine iter_range1 (σ := RSt) [Str.ofString "start", Str.ofString "text", Str.ofString "state"] (rled M9 l9) (rP (hbase9 w news x9 d9 l9 D9 ys9 ep9 kt9 kk9) sz xs per (intKind PySem.Challenge.rw_to0077_01.row.prog w) M9 l9)
    ⟨_, fun _ => false, [], [], 0, hbase9 w news x9 d9 l9 D9 ys9 ep9 kt9 kk9⟩ (by rfl) hR G.sm (n := 2 ^ sz) G.rs lF lN (fun p hp => hp) ?h0 ?turn ?done
  case h0 =>
    refine ⟨(cnt_no (2 ^ sz)).symm ▸ hs9, .nil, ?_, ?_, fun p hp => hp, fun z hz => rfl, rfl, Nat.le_refl _⟩
    · exact List.forall_mem_cons.mpr ⟨Nat.ne_of_lt o2, List.forall_mem_cons.mpr ⟨Nat.ne_of_lt (Nat.lt_trans o1 o2), List.forall_mem_cons.mpr ⟨Nat.ne_of_lt (Nat.lt_trans o2b (Nat.lt_trans o1 o2)), fun p hp => Nat.ne_of_lt (Nat.lt_trans (allLt_mem o3 p hp) (Nat.lt_trans o1 o2))⟩⟩⟩
    · exact List.forall_mem_cons.mpr ⟨Nat.ne_of_lt q2, List.forall_mem_cons.mpr ⟨Nat.ne_of_lt q3, List.forall_mem_cons.mpr ⟨Nat.ne_of_lt q4, fun p hp => Nat.ne_of_lt (allLt_mem lt9 p hp)⟩⟩⟩
  case turn =>
    intro i tv c u2 I it h tk hi hP hit hI ho F' N'
    (obtain ⟨so, Sf, vs, hs, ep, rest⟩ := c)
    (have zq := hP; (try clear hP); refine an8 zq ?_; clear zq; intro p1 p2 p3 p4 p5 p6 p7 p8)
    dsimp only [rled] at F' N' ho p1 p2 p3 p4 p5 p6 p7 p8
    have z0 : @Ne Nat I M9 := Ne.symm (ho _ (.head _))
    have z1 : @Ne Nat I l9 := Ne.symm (ho _ (.tail _ (.head _)))
    have z2 : @Ne Nat M9 l9 := Nat.ne_of_gt q1
    have hcn : cnt (2 ^ sz) Sf ≤ 2 ^ sz := cnt_le _ _
    have hb9 : cnt (2 ^ sz) Sf < scanBound := by unfold scanBound; omega
    clear lF lN hR kp F9b N9b
    rw [Int.zero_add]
    k_steps
    · rename Fr _ _ _ _ => eF
      rename News _ _ _ _ => eN
      rename Sf (i : Int) = true => hin
      have hrun : runR (nxt sz xs) per (i + 1) = runR (nxt sz xs) per i := runR_skip (by rw [← p6 i hi]; exact hin)
      refine LEnd.intro (⟨so, Sf, vs, hs, ep, rest⟩, _) eF eN (.head _) (fun p hp => .tail _ hp) ho (offs_eq fun y hy => ?_) ⟨p1, p2, p3, p4, p5, by rw [hrun]; exact p6, by rw [hrun]; exact p7, Nat.le_succ_of_le p8⟩
      have h1 := hy _ (.head _)
      simp only [if_neg h1, offs]
      rw [if_neg (hy _ (.tail _ (.head _))), if_neg (hy _ (.tail _ (.tail _ (.head _))))]
    · refine stpI ?_
      rename Fr _ _ _ _ => lF
      rename News _ _ _ _ => lN
      rename Sf (i : Int) = false => hout
      rename_i tkq _ _
      (have zq := hper i hi; refine an4 zq ?_; clear zq; intro hp1 hp2 hp3 hp4)
      have hD : (D9, listOf ys9.toArray ep9) ∈ rest := p5 _ (.tail _ (.tail _ (.head _)))
      have hC : (cx, listOf xvs.toArray epx) ∈ rest := p5 _ (.tail _ (.tail _ (.tail _ hcx)))
      have hX : (x9, instObj 262 d9) ∈ rest := p5 _ (.head _)
      have hDX : (d9, dictOf [⟨PyData.keyHash w.params (Str.ofString "_headers"), .str (Str.ofString "_headers") kt9, .ref l9⟩] kk9) ∈ rest := p5 _ (.tail _ (.head _))
      have hst9 : StrsAre ys9 TT := tx9.strs
      have hlt5 : TT.length = 2 ^ sz := G.tl
      refine While_J (σ := WhSt) [Str.ofString "text", Str.ofString "state"] (whU sz xs i) (whL I M9 l9 it (listOf vs.toArray ep) rest)
        (whP sz xs i (per i) (intKind PySem.Challenge.rw_to0077_01.row.prog w) Sf) (per i) ⟨0, tkq, tv, so, Sf⟩ lF lN (offs_at fun z hz => ?_) (fun p hp => hp) ⟨rfl, p1, fun z hz => (Bool.or_false _).symm⟩ ?_
      · rcases List.mem_cons.mp hz with rfl | hz
        · rfl
        · rw [List.mem_singleton.mp hz]; rfl
      · intro n c h tk hW F' N'
        (obtain ⟨k, t1, t2, so2, Sf2⟩ := c)
        (have zq := hW; (try clear hW); refine an3 zq ?_; clear zq; intro w1 w2 w3)
        delta whU at F'; delta whL at N'
        dsimp only at F' N' w1 w2 w3
        have hst : itr (nxt sz xs) k i < 2 ^ sz := itr_ltP (G.ok.perm xs) hi k
        have htl : (txt sz (orbit (nxt sz xs) i k)).length = k := txt_len G.ok hi k
        have hcn2 : cnt (2 ^ sz) Sf2 ≤ 2 ^ sz := cnt_le _ _
        have hfree : Free valueCode (txt sz (orbit (nxt sz xs) i k)).cps := txt_free G.ok hi k
        have hl1 : (TT.getD ((itr (nxt sz xs) k i : Nat) : Int).toNat Str.empty).length ≤ 1 := by
          rw [← G.tab]; exact Nat.le_of_eq (G.ok.len _ hst)
        generalize htx : txt sz (orbit (nxt sz xs) i k) = tx at F' htl hfree
        generalize hsg : itr (nxt sz xs) k i = st at F' hst hl1
        have hfd : 0 ≤ Int.fdiv (st : Int) 2 ∧ Int.fdiv (st : Int) 2 < kk := by rw [Int.fdiv_eq_ediv_of_nonneg _ (by decide)]; omega
        clear lF lN
        (k_steps <;> repeat' ((first | (refine hltI ?_; (with_reducible show wpAny _ _ (call (Value.ref _) _ _) _ _ _); k_dflt (refine' use (N := news_third (by k_asm)) (S := add_spec (by k_mem) (by k_mem) (by k_all) (by exact free_name (by decide +kernel)) (by assumption) (by decide +kernel) (by omega) (by omega)) (k := ?_)); intro _ _ _ _ R9 _ _; obtain ⟨e9, _, _, _, _, _, e8, _, _⟩ := R9; subst e9; subst e8; (try dsimp only); (try k_fold))); k_steps))
        · have hk9 : k < per i := by
            rename (tx == Str.ofString "") = true => hz
            have e : tx = Str.ofString "" := eq_of_beq hz
            rw [e] at htl
            have e2 : (Str.ofString "").length = 0 := by decide
            omega
          rename Fr _ _ _ _ => eF
          rename News _ _ _ _ => eN
          rename Obj.SetObjOf _ _ _ _ => hset
          refine wh_end (e := (sz : Int) - 1) hx01 G.e1 G.tab hst htx hsg w1 hk9 w3 eF eN hset rfl rfl fun y h1 h2 => ?_
          simp only [if_neg h1, if_neg h2, offs]
        · have hk9 : k = per i := by
            rename Builtin.bitXor (st : Int) (i : Int) = 0 => hz
            have e : st = i := bitXor_zero_eq st (Nat.lt_of_lt_of_le hst (Nat.le_trans z64 (by decide))) i (Nat.lt_of_lt_of_le hi (Nat.le_trans z64 (by decide))) hz
            rename (tx == Str.ofString "") = false => hz2
            have hk0 : 0 < k := by
              rcases Nat.eq_zero_or_pos k with h | h
              · exfalso
                subst h
                have e3 : tx = Str.ofString "" := htx.symm
                rw [e3] at hz2
                exact absurd hz2 (by decide)
              · exact h
            rcases Nat.lt_or_ge k (per i) with h | h
            · exact absurd (hsg.trans e) (hp4 k hk0 h)
            · omega
          rename Fr _ _ _ _ => eF
          rename News _ _ _ _ => eN
          refine r_exit (per := per) hi ⟨p1, p2, p3, p4, p5, p6, p7, p8⟩ ho hout hk9 htx w3 w2 z2 eF eN ?_ ?_ fun y hy => ?_
          · assumption
          · assumption
          · have h1 := hy _ (.head _)
            have h2 := hy _ (.tail _ (.head _))
            have h3 := hy _ (.tail _ (.tail _ (.head _)))
            simp only [if_neg h1, if_neg h2, if_neg h3, offs]
        · have hk9 : k < per i := by
            rename Builtin.bitXor (st : Int) (i : Int) ≠ 0 => hz
            rcases Nat.lt_or_ge k (per i) with h | h
            · exact h
            · have e : k = per i := by omega
              rw [e, hp3] at hsg
              exact absurd (by rw [← hsg]; exact bitXor_self i) hz
          rename Fr _ _ _ _ => eF
          rename News _ _ _ _ => eN
          rename Obj.SetObjOf _ _ _ _ => hset
          refine wh_end (e := (sz : Int) - 1) hx01 G.e1 G.tab hst htx hsg w1 hk9 w3 eF eN hset rfl rfl fun y h1 h2 => ?_
          simp only [if_neg h1, if_neg h2, offs]
  case done =>
    intro c u2 h tk hP F' N'
    (obtain ⟨so, Sf, vs, hs, ep, rest⟩ := c)
    (have zq := hP; (try clear hP); refine an8 zq ?_; clear zq; intro p1 p2 p3 p4 p5 p6 p7 p8)
    dsimp only [rled] at F' N' p1 p2 p3 p4 p5 p6 p7 p8
    clear lF lN hR kp F9b N9b
    k_steps
    rename News _ _ _ _ => eN
    refine hret _ ((l9, listOf vs.toArray ep) :: rest) _ _ ⟨x9, d9, l9, _, kt9, kk9, ep, vs, hs, rest, rfl, rfl, p5 _ (.head _), p5 _ (.tail _ (.head _)), p2, p3, fun p hp => p5 p (.tail _ (.tail _ (.tail _ hp))), p7, p8⟩ (by k_asm) ?_
    intro p hp
    rcases List.mem_cons.mp hp with rfl | hp
    · exact eN _ (.tail _ (.head _))
    · exact eN _ (.tail _ (.tail _ hp))
  all_goals w_report
theorem rings5 {w : World} {p : Program} {loose : List Str} {mean : ExcName → Option Value} {mg mb : Str → Option Value} {news : List (Addr × Obj)} {t : Tok} {cx : Addr} {xvs : List Value} {epx : Nat} {xs : List Int} {per : Nat → Nat}
    (hcx : (cx, listOf xvs.toArray epx) ∈ news) (hxs : IntsAre xvs xs) (hlx : xs.length = 16) (hx01 : ∀ k ∈ xs, k = 0 ∨ k = 1)
    (hper : PerOk (nxt 5 xs) (2 ^ 5) per) :
    Spec w p loose mean mg mb 20 300 (.ref 285) [.int 5 t, .ref cx] [] news (RingsRet 5 xs per news) := ringsG rg5 hcx hxs hlx hx01 hper letters5
theorem rings6 {w : World} {p : Program} {loose : List Str} {mean : ExcName → Option Value} {mg mb : Str → Option Value} {news : List (Addr × Obj)} {t : Tok} {cx : Addr} {xvs : List Value} {epx : Nat} {xs : List Int} {per : Nat → Nat}
    (hcx : (cx, listOf xvs.toArray epx) ∈ news) (hxs : IntsAre xvs xs) (hlx : xs.length = 32) (hx01 : ∀ k ∈ xs, k = 0 ∨ k = 1)
    (hper : PerOk (nxt 6 xs) (2 ^ 6) per) :
    Spec w p loose mean mg mb 20 300 (.ref 285) [.int 6 t, .ref cx] [] news (RingsRet 6 xs per news) := ringsG rg6 hcx hxs hlx hx01 hper letters6
end

section
theorem wtLWK : True := by
  w_top off
  trivial
section
variable {prog : Program} {w : World} {A : Around} {E : Value → Shared → Prop} {s : Shared} {h₀ : Heap} {L l : Addr} {m : Str → Option Value} {news : List (Addr × Obj)} {value slice : PySem.Expr} {vl vu : Value} {Q : Value → Shared → Prop}
theorem pick3 {a b c : Tok} (k : Nat) : ∃ zs : List Value, slicePick #[.int 5 a, .int 21 b, .int 10 c] (some (k : Int)) none none = zs.toArray ∧ IntsAre zs (([5, 21, 10] : List Int).drop k) := by
  refine ⟨_, kms_pick_eq _ _ _, ?_⟩
  unfold kms_pick
  have e : kms_lo (some (k : Int)) 3 = min k 3 := by
    unfold kms_lo; simp
    intro h; omega
  show IntsAre (List.take _ (List.drop (kms_lo (some (k : Int)) 3) [.int 5 a, .int 21 b, .int 10 c])) _
  rw [e]
  rcases k with _ | _ | _ | k
  · exact .cons _ _ (.cons _ _ (.cons _ _ .nil))
  · exact .cons _ _ (.cons _ _ .nil)
  · exact .cons _ _ .nil
  · have : min (k + 1 + 1 + 1) 3 = 3 := by omega
    rw [this]
    have e2 : ([5, 21, 10] : List Int).drop (k + 1 + 1 + 1) = [] := by simp
    rw [e2]
    show IntsAre (List.take _ []) []
    rw [List.take_nil]
    exact .nil
theorem slice3 {a b c : Tok} {k : Nat} (F : Fr h₀ L s.heap m) (N : News h₀ L s.heap news) (hl : s.heap.IsList l #[.int 5 a, .int 21 b, .int 10 c]) (pl : IsPart vl (some (k : Int))) (pu : IsPart vu none)
    (h : ∀ D h' zs, Fr h₀ L h' m → News h₀ L h' ((D, listOf (List.toArray zs) 0) :: news) → (∀ p ∈ news, p.1 < D) → IntsAre zs (([5, 21, 10] : List Int).drop k) → Q (.ref D) { s with heap := h' })
    (hs : subscripted slice false (.ref l) (.ref s.heap.objs.size) = operate [.ref s.heap.objs.size, .ref l] (getItem (.ref l) (.ref s.heap.objs.size))) :
    wpAny (model prog w) A (subscriptTail value slice (.ref l) (.ref s.heap.objs.size)) Q E { s with heap := s.heap.push { cls := .type "slice", data := .fields #[vl, vu, .none] } } := by
  refine kba_turn (value' := PySem.Expr.Name (PySem.Str.ofString "x") ⟨0, 0, 0, 0⟩) (fun _ => rfl) ?_
  obtain ⟨zs, e, hz⟩ := pick3 (a := a) (b := b) (c := c) k
  refine kmk_slice F N hl pl pu (fun D h' F' N' l1 => h D h' zs F' (by rw [← e]; exact N') l1 hz) hs (fun _ => rfl) (by rw [sizeLine_eq]; show 3 ≤ _; omega)
end
/-- the tuples alone -/
theorem HdrAll.tups {rest : List (Addr × Obj)} {vs : List Value} {hs : List (Str × Str)} (h : HdrAll rest vs hs) : ∃ ts : List (Addr × Obj), HdrAll ts vs hs ∧ ∀ p ∈ ts, p ∈ rest ∧ ∃ v₁ v₂ n, p.2 = tup2 v₁ v₂ n := by
  induction h with
  | nil => exact ⟨[], .nil, fun p hp => nomatch hp⟩
  | @cons t k x tk tx n vs hs hm _ ih =>
    obtain ⟨ts, a, b⟩ := ih
    refine ⟨(t, tup2 (.str k tk) (.str x tx) n) :: ts, .cons (.head _) (a.mono fun p hp => .tail _ hp), ?_⟩
    intro p hp
    rcases List.mem_cons.mp hp with rfl | hp
    · exact ⟨hm, _, _, _, rfl⟩
    · exact b p hp
noncomputable def S5 : Str := Str.ofString "abcdefghijklmnop"
noncomputable def S6 : Str := Str.ofString "abcdefghijklmnopqrstuvwxyz012345"
noncomputable abbrev okn (c : Nat) : Bool := decide (32 ≤ c) && decide (c ≠ 127)
theorem good_of {c : Str} (h : ((Txt.lower c == c) && (Txt.lower (Txt.upper c) == c) && c.cps.all okn && (Txt.upper c).cps.all okn && decide (c.length ≤ 1000) && decide ((Txt.upper c).length ≤ 1000)) = true) : GoodSign c := by
  simp only [Bool.and_eq_true, decide_eq_true_eq] at h
  obtain ⟨⟨⟨⟨⟨h1, h2⟩, h3⟩, h4⟩, h5⟩, h6⟩ := h
  exact ⟨eq_of_beq h1, eq_of_beq h2, free_name h3, free_name h4, h5, h6⟩
theorem g5 : ∀ i : Nat, i < 16 → ((Txt.lower (Txt.item S5 i) == Txt.item S5 i) && (Txt.lower (Txt.upper (Txt.item S5 i)) == Txt.item S5 i) && (Txt.item S5 i).cps.all okn && (Txt.upper (Txt.item S5 i)).cps.all okn && decide ((Txt.item S5 i).length ≤ 1000) && decide ((Txt.upper (Txt.item S5 i)).length ≤ 1000)) = true := by decide +kernel
theorem g6 : ∀ i : Nat, i < 32 → ((Txt.lower (Txt.item S6 i) == Txt.item S6 i) && (Txt.lower (Txt.upper (Txt.item S6 i)) == Txt.item S6 i) && (Txt.item S6 i).cps.all okn && (Txt.upper (Txt.item S6 i)).cps.all okn && decide ((Txt.item S6 i).length ≤ 1000) && decide ((Txt.upper (Txt.item S6 i)).length ≤ 1000)) = true := by decide +kernel
theorem len5 : S5.length = 16 := by decide
theorem len6 : S6.length = 32 := by decide
theorem good5 : ∀ i : Int, 0 ≤ i → i < S5.length → GoodSign (Txt.item S5 i) := by
  intro i h0 h1
  rw [len5] at h1
  obtain ⟨k, rfl⟩ := Int.eq_ofNat_of_zero_le h0
  exact good_of (g5 k (by omega))
theorem good6 : ∀ i : Int, 0 ≤ i → i < S6.length → GoodSign (Txt.item S6 i) := by
  intro i h0 h1
  rw [len6] at h1
  obtain ⟨k, rfl⟩ := Int.eq_ofNat_of_zero_le h0
  exact good_of (g6 k (by omega))
end

section
theorem wtLK : True := by
  w_top off
  trivial
noncomputable def crossAt (S : Str) (hs : List (Str × Str)) (i : Nat) : Int := match hlook (Txt.item S i) hs with
  | none => 0
  | some _ => 1
noncomputable def crossed (S : Str) (hs : List (Str × Str)) : List Int := (List.range S.length).map (crossAt S hs)
theorem sign_item {S : Str} {i : Nat} {v : Value} (h : SignAt S i v) : i < S.length ∧ ∃ t, v = .str (Txt.item S i) t := by
  obtain ⟨c, u, e, rfl⟩ := h
  have hi : i < S.cps.size := by
    rcases Nat.lt_or_ge i S.cps.size with h | h
    · exact h
    · rw [Array.getElem?_eq_none h] at e; cases e
  refine ⟨hi, u, ?_⟩
  have e2 : Txt.charAt S (i : Int) = some c := by
    have e3 : seqIndex? (i : Int) S.length = some i := by
      have hl : S.length = S.cps.size := rfl
      unfold seqIndex?
      simp
      omega
    unfold Txt.charAt
    rw [e3]
    exact e
  unfold Txt.item
  rw [e2]; rfl
theorem crossAt_none {S : Str} {hs : List (Str × Str)} {i : Nat} {c : Str} (hc : Txt.item S i = c) (h : hlook c hs = none) : crossAt S hs i = 0 := by
  unfold crossAt; rw [hc, h]
theorem crossAt_some {S : Str} {hs : List (Str × Str)} {i : Nat} {c x : Str} (hc : Txt.item S i = c) (h : hlook c hs = some x) : crossAt S hs i = 1 := by
  unfold crossAt; rw [hc, h]
theorem crossed_01 (S : Str) (hs : List (Str × Str)) : ∀ k ∈ crossed S hs, k = 0 ∨ k = 1 := by
  intro k hk
  obtain ⟨i, _, rfl⟩ := List.mem_map.mp hk
  unfold crossAt
  split
  · exact .inl rfl
  · exact .inr rfl
theorem crossed_len (S : Str) (hs : List (Str × Str)) : (crossed S hs).length = S.length := by
  unfold crossed; rw [List.length_map, List.length_range]
section
variable {h₀ h : Heap} {L : Addr} {news : List (Addr × Obj)}
theorem neq9 {a b : Addr} {oa ob : Obj} (N : News h₀ L h news) (ha : (a, oa) ∈ news) (hb : (b, ob) ∈ news) (hne : oa.data ≠ ob.data) : a ≠ b := by
  intro e
  subst e
  exact hne (congrArg Obj.data (Option.some.inj ((N _ ha).1.symm.trans (N _ hb).1)))
theorem lst_ne_cell {vs : List Value} {ep : Nat} {o : Obj} {v : Option Value} (h : o.data = .cell v) : (listOf vs.toArray ep).data ≠ o.data := by
  rw [h]; intro e; cases e
theorem inst_ne_cell {c d : Addr} {o : Obj} {v : Option Value} (h : o.data = .cell v) : (instObj c d).data ≠ o.data := by
  rw [h]; intro e; cases e
theorem dict_ne_cell {es : List DictEntry} {k : Nat} {o : Obj} {v : Option Value} (h : o.data = .cell v) : (dictOf es k).data ≠ o.data := by
  rw [h]; intro e; cases e
theorem tup_ne_cell {v₁ v₂ : Value} {n : Nat} {o : Obj} {v : Option Value} (h : o.data = .cell v) : (tup2 v₁ v₂ n).data ≠ o.data := by
  rw [h]; intro e; cases e
theorem exi9 {α0 : Type} {α1 : Type} {α2 : Type} {α3 : Type} {α4 : Type} {α5 : Type} {α6 : Type} {α7 : Type} {α8 : Type} {p : α0 → α1 → α2 → α3 → α4 → α5 → α6 → α7 → α8 → Prop} {x0 : α0} {x1 : α1} {x2 : α2} {x3 : α3} {x4 : α4} {x5 : α5} {x6 : α6} {x7 : α7} {x8 : α8} (h : p x0 x1 x2 x3 x4 x5 x6 x7 x8) : ∃ x0 x1 x2 x3 x4 x5 x6 x7 x8, p x0 x1 x2 x3 x4 x5 x6 x7 x8 := ⟨x0, x1, x2, x3, x4, x5, x6, x7, x8, h⟩
theorem exi10 {α0 : Type} {α1 : Type} {α2 : Type} {α3 : Type} {α4 : Type} {α5 : Type} {α6 : Type} {α7 : Type} {α8 : Type} {α9 : Type} {p : α0 → α1 → α2 → α3 → α4 → α5 → α6 → α7 → α8 → α9 → Prop} {x0 : α0} {x1 : α1} {x2 : α2} {x3 : α3} {x4 : α4} {x5 : α5} {x6 : α6} {x7 : α7} {x8 : α8} {x9 : α9} (h : p x0 x1 x2 x3 x4 x5 x6 x7 x8 x9) : ∃ x0 x1 x2 x3 x4 x5 x6 x7 x8 x9, p x0 x1 x2 x3 x4 x5 x6 x7 x8 x9 := ⟨x0, x1, x2, x3, x4, x5, x6, x7, x8, x9, h⟩
theorem ani18 {p0 p1 p2 p3 p4 p5 p6 p7 p8 p9 p10 p11 p12 p13 p14 p15 p16 p17 : Prop} (h0 : p0) (h1 : p1) (h2 : p2) (h3 : p3) (h4 : p4) (h5 : p5) (h6 : p6) (h7 : p7) (h8 : p8) (h9 : p9) (h10 : p10) (h11 : p11) (h12 : p12) (h13 : p13) (h14 : p14) (h15 : p15) (h16 : p16) (h17 : p17) : p0 ∧ p1 ∧ p2 ∧ p3 ∧ p4 ∧ p5 ∧ p6 ∧ p7 ∧ p8 ∧ p9 ∧ p10 ∧ p11 ∧ p12 ∧ p13 ∧ p14 ∧ p15 ∧ p16 ∧ p17 := ⟨h0, h1, h2, h3, h4, h5, h6, h7, h8, h9, h10, h11, h12, h13, h14, h15, h16, h17⟩
theorem ne_cells {l x dx : Addr} {vs : List Value} {ep kk : Nat} {c : Addr} {es : List DictEntry} {n9 : List (Addr × Obj)} (N9 : News h₀ L h n9)
    (n1 : (l, listOf vs.toArray ep) ∈ n9) (n2 : (x, instObj c dx) ∈ n9) (n3 : (dx, dictOf es kk) ∈ n9) : ∀ {a : Addr} {o : Obj} {v : Option Value}, (a, o) ∈ n9 → o.data = .cell v → @Ne Nat l a ∧ @Ne Nat x a ∧ @Ne Nat dx a := fun ca h =>
  ⟨neq9 N9 n1 ca (lst_ne_cell h), neq9 N9 n2 ca (inst_ne_cell h), neq9 N9 n3 ca (dict_ne_cell h)⟩
theorem tup_ne9 {n9 ts : List (Addr × Obj)} (N9 : News h₀ L h n9) (t2 : ∀ p ∈ ts, p ∈ n9 ∧ ∃ y1 y2 yn, p.2 = tup2 y1 y2 yn) {a : Addr} {o : Obj} {v : Option Value} (ca : (a, o) ∈ n9) (h : o.data = .cell v) : ∀ p ∈ ts, p.1 ≠ a := fun p hp => by
  obtain ⟨q1, y1, y2, yn, q2⟩ := t2 p hp
  exact neq9 (oa := p.2) N9 q1 ca (by rw [q2]; exact tup_ne_cell h)
theorem tup_cls9 {n9 ts : List (Addr × Obj)} (t2 : ∀ p ∈ ts, p ∈ n9 ∧ ∃ y1 y2 yn, p.2 = tup2 y1 y2 yn) : ∀ p ∈ ts, p.2.cls = .type "tuple" := fun p hp => by
  obtain ⟨q1, y1, y2, yn, q2⟩ := t2 p hp
  rw [q2]
theorem two_all {α : Type} {P : α → Prop} {a b : List α} (ha : ∀ p ∈ a, P p) (hb : ∀ p ∈ b, P p) : ∀ p ∈ a ++ b, P p := fun p hp => (List.mem_append.mp hp).elim (ha p) (hb p)
/-- what the wires' call leaves, told apart from the cells -/
theorem after_wires {S : Str} {a1 a2 a3 : Addr} {o1 o2 o3 : Obj} {v1 v2 v3 : Option Value} {j1 j2 j3 j4 j5 b1 b2 : Addr × Obj} {v : Value} {n9 : List (Addr × Obj)} (N9 : News h₀ L h n9)
    (R : ∃ x dx l hsh kt kk ep' vs hs rest, v = .ref x ∧ n9 = (l, listOf vs.toArray ep') :: rest ∧ (x, instObj 262 dx) ∈ rest ∧ (dx, dictOf [⟨hsh, .str (Str.ofString "_headers") kt, .ref l⟩] kk) ∈ rest ∧ HdrAll rest vs hs ∧ (∀ p ∈ rest, p.1 ≠ l) ∧ (∀ p ∈ [j1, j2, j3, j4, j5, (a1, o1), (a2, o2), (a3, o3), b1, b2], p ∈ rest) ∧ GoodHdr S hs ∧ vs.length ≤ 10)
    (h1 : o1.data = .cell v1) (h2 : o2.data = .cell v2) (h3 : o3.data = .cell v3) :
    ∃ (x dx l : Addr) (hsh : Int) (kt : Tok) (kk ep' : Nat) (vs : List Value) (hs : List (Str × Str)) (ts : List (Addr × Obj)), v = .ref x ∧ News h₀ L h ((l, listOf vs.toArray ep') :: (x, instObj 262 dx) :: (dx, dictOf [⟨hsh, .str (Str.ofString "_headers") kt, .ref l⟩] kk) :: (a1, o1) :: (a2, o2) :: (a3, o3) :: b1 :: b2 :: ts) ∧ HdrAll ts vs hs ∧ GoodHdr S hs ∧ vs.length ≤ 10 ∧
      @Ne Nat l a1 ∧ @Ne Nat l a2 ∧ @Ne Nat l a3 ∧ @Ne Nat x a1 ∧ @Ne Nat x a2 ∧ @Ne Nat x a3 ∧ @Ne Nat dx a1 ∧ @Ne Nat dx a2 ∧ @Ne Nat dx a3 ∧ (∀ p ∈ ts, p.1 ≠ a1) ∧ (∀ p ∈ ts, p.1 ≠ a2) ∧ (∀ p ∈ ts, p.1 ≠ a3) ∧ (∀ p ∈ ts, p.2.cls = .type "tuple") := by
  refine ex10 R ?_; clear R; intro x dx l hsh kt kk ep' vs hs rest R
  refine an9 R ?_; clear R; intro e1 e2 m1 m2 m3 m4 m5 m6 m7
  subst e1; subst e2
  obtain ⟨ts, t1, t3⟩ := m3.tups
  have m5' : ∀ p ∈ [(a1, o1), (a2, o2), (a3, o3), b1, b2], p ∈ (l, listOf vs.toArray ep') :: rest := fun p hp => .tail _ (m5 p (.tail _ (.tail _ (.tail _ (.tail _ (.tail _ hp))))))
  have t2 : ∀ p ∈ ts, p ∈ (l, listOf vs.toArray ep') :: rest ∧ ∃ y1 y2 yn, p.2 = tup2 y1 y2 yn := fun p hp => ⟨.tail _ (t3 p hp).1, (t3 p hp).2⟩
  clear m5 t3
  have c1 := m5' _ (.head _)
  have c2 := m5' _ (.tail _ (.head _))
  have c3 := m5' _ (.tail _ (.tail _ (.head _)))
  have e1 := ne_cells N9 (.head _) (.tail _ m1) (.tail _ m2) c1 h1
  have e2 := ne_cells N9 (.head _) (.tail _ m1) (.tail _ m2) c2 h2
  have e3 := ne_cells N9 (.head _) (.tail _ m1) (.tail _ m2) c3 h3
  exact exi10 (ani18 rfl (List.forall_mem_cons.mpr ⟨N9 _ (.head _), List.forall_mem_cons.mpr ⟨N9 _ (.tail _ m1), List.forall_mem_cons.mpr ⟨N9 _ (.tail _ m2), List.forall_mem_cons.mpr ⟨N9 _ c1, List.forall_mem_cons.mpr ⟨N9 _ c2, List.forall_mem_cons.mpr ⟨N9 _ c3,
    List.forall_mem_cons.mpr ⟨N9 _ (m5' _ (.tail _ (.tail _ (.tail _ (.head _))))), List.forall_mem_cons.mpr ⟨N9 _ (m5' _ (.tail _ (.tail _ (.tail _ (.tail _ (.head _)))))), fun p hp => N9 _ (t2 p hp).1⟩⟩⟩⟩⟩⟩⟩⟩)
    t1 m6 m7 e1.1 e2.1 e3.1 e1.2.1 e2.2.1 e3.2.1 e1.2.2 e2.2.2 e3.2.2 (tup_ne9 N9 t2 c1 h1) (tup_ne9 N9 t2 c2 h2) (tup_ne9 N9 t2 c3 h3) (tup_cls9 t2))
/-- what the rings' call leaves -/
theorem after_rings {n : Nat} {xs : List Int} {per : Nat → Nat} {a1 a2 a3 : Addr} {o1 o2 o3 : Obj} {v1 v2 v3 : Option Value} {v : Value} {n9 : List (Addr × Obj)} {d0 k1 k2 k3 b1 b2 : Addr × Obj} {ts9 : List (Addr × Obj)} {vs9 : List Value} {hs9 : List (Str × Str)}
    (hA9 : HdrAll ts9 vs9 hs9) (w1 : ∀ p ∈ ts9, p.1 ≠ a1) (w2 : ∀ p ∈ ts9, p.1 ≠ a2) (w3 : ∀ p ∈ ts9, p.1 ≠ a3) (w4 : ∀ p ∈ ts9, p.2.cls = .type "tuple")
    (N9 : News h₀ L h n9) (R : RingsRet n xs per (d0 :: k1 :: k2 :: k3 :: (a1, o1) :: (a2, o2) :: (a3, o3) :: b1 :: b2 :: ts9) v n9)
    (h1 : o1.data = .cell v1) (h2 : o2.data = .cell v2) (h3 : o3.data = .cell v3) :
    ∃ (x dx l : Addr) (hsh : Int) (kt : Tok) (kk ep' : Nat) (vs : List Value) (ts : List (Addr × Obj)), v = .ref x ∧ News h₀ L h ((l, listOf vs.toArray ep') :: (x, instObj 262 dx) :: (dx, dictOf [⟨hsh, .str (Str.ofString "_headers") kt, .ref l⟩] kk) :: k1 :: k2 :: k3 :: (a1, o1) :: (a2, o2) :: (a3, o3) :: b1 :: b2 :: ts) ∧ HdrAll ts vs9 hs9 ∧ HdrAll ts vs ((runR (nxt n xs) per (2 ^ n)).2.map (fun r => (Str.ofString "ring", txt n r))) ∧ vs.length ≤ 2 ^ n ∧
      @Ne Nat l a1 ∧ @Ne Nat l a2 ∧ @Ne Nat l a3 ∧ @Ne Nat x a1 ∧ @Ne Nat x a2 ∧ @Ne Nat x a3 ∧ @Ne Nat dx a1 ∧ @Ne Nat dx a2 ∧ @Ne Nat dx a3 ∧ (∀ p ∈ ts, p.1 ≠ a1) ∧ (∀ p ∈ ts, p.1 ≠ a2) ∧ (∀ p ∈ ts, p.1 ≠ a3) ∧ (∀ p ∈ ts, p.2.cls = .type "tuple") := by
  unfold RingsRet at R
  refine ex10 R ?_; clear R; intro x dx l hsh kt kk ep' vs hs rest R
  refine an9 R ?_; clear R; intro e1 e2 m1 m2 m3 m4 m5 m6 m7
  subst e1; subst e2; subst m6
  obtain ⟨ts, t1, t3⟩ := m3.tups
  have hh : ∀ p ∈ k1 :: k2 :: k3 :: (a1, o1) :: (a2, o2) :: (a3, o3) :: b1 :: b2 :: ts9, p ∈ (l, listOf vs.toArray ep') :: rest := fun p hp => .tail _ (m5 p (.tail _ hp))
  have t2 : ∀ p ∈ ts, p ∈ (l, listOf vs.toArray ep') :: rest ∧ ∃ y1 y2 yn, p.2 = tup2 y1 y2 yn := fun p hp => ⟨.tail _ (t3 p hp).1, (t3 p hp).2⟩
  clear m5 t3
  have hk : ∀ p ∈ (a1, o1) :: (a2, o2) :: (a3, o3) :: b1 :: b2 :: ts9, p ∈ (l, listOf vs.toArray ep') :: rest := fun p hp => hh p (.tail _ (.tail _ (.tail _ hp)))
  have c1 := hk _ (.head _)
  have c2 := hk _ (.tail _ (.head _))
  have c3 := hk _ (.tail _ (.tail _ (.head _)))
  have e1 := ne_cells N9 (.head _) (.tail _ m1) (.tail _ m2) c1 h1
  have e2 := ne_cells N9 (.head _) (.tail _ m1) (.tail _ m2) c2 h2
  have e3 := ne_cells N9 (.head _) (.tail _ m1) (.tail _ m2) c3 h3
  have NN : News h₀ L h ((k1 :: k2 :: k3 :: (a1, o1) :: (a2, o2) :: (a3, o3) :: b1 :: b2 :: ts9) ++ ts) := two_all (fun p hp => N9 p (hh p hp)) (fun p hp => N9 p (t2 p hp).1)
  exact exi9 (ani18 rfl (List.forall_mem_cons.mpr ⟨N9 _ (.head _), List.forall_mem_cons.mpr ⟨N9 _ (.tail _ m1), List.forall_mem_cons.mpr ⟨N9 _ (.tail _ m2), NN⟩⟩⟩)
    (hA9.mono (fun p hp => List.mem_append_left _ hp)) (t1.mono (fun p hp => List.mem_append_right _ hp)) m7 e1.1 e2.1 e3.1 e1.2.1 e2.2.1 e3.2.1 e1.2.2 e2.2.2 e3.2.2
    (two_all w1 (tup_ne9 N9 t2 c1 h1)) (two_all w2 (tup_ne9 N9 t2 c2 h2)) (two_all w3 (tup_ne9 N9 t2 c3 h3)) (two_all w4 (tup_cls9 t2)))
/-- two entries of one ledger at one address hold one object -/
theorem neqC {h : Heap} {a b : Addr} {oa ob : Obj} (ha : h.get? a = some oa) (hb : h.get? b = some ob) (hne : oa.cls ≠ ob.cls) : a ≠ b := fun e => by
  subst e; rw [ha] at hb; exact hne (congrArg Obj.cls (Option.some.inj hb))
end
end

section
theorem wtC11 : True := by
  w_top off
  trivial
open LCt LCg LCp

structure Stp9 (P : Prop) : Prop where
  out : P
theorem stp9 {P : Prop} (h : Stp9 P) : P := h.out
theorem stp9Q {prog : Program} {w : World} {A : Around} {α : Type} {t : Sem α} {Q : α → Shared → Prop} {E : Value → Shared → Prop} {s : Shared} (h : wpAny (model prog w) A t (fun v s' => Stp9 (Q v s')) E s) : wpAny (model prog w) A t Q E s :=
  wpAny_mono h (fun _ _ h => h.out) (fun _ _ e => e)
theorem stp9I {P : Prop} (h : P) : Stp9 P := ⟨h⟩
noncomputable def sc (c : Str) : Int := if c = Str.ofString "a" then 0 else if c = Str.ofString "A" then 1 else 2
set_option maxHeartbeats 4000000 in
theorem sub_spec {w : World} {p : Program} {loose : List Str} {mean : ExcName → Option Value} {mg mb : Str → Option Value} {news : List (Addr × Obj)} {c : Str} {t t2 : Tok} (hc : c = Str.ofString "A" ∨ c = Str.ofString "a" ∨ c = Str.ofString "b") :
    Spec w p loose mean mg mb 5 60 (.ref 116) [.str c t, .str (Str.ofString "a") t2] [] news (fun r news' => (∃ t', r = .int (sc c) t') ∧ news' = news) := by
  intro dp un gd cn cs a ccd cl outer A₀ base h₀ L m s Q E B F X N T hk hd hu hret
  revert X; k_fill; intro X
  rcases hc with rfl | rfl | rfl
  · refine wpAny_call ?_
    k_dflt ((first | (refine' code_def (by k_asm) (by k_asm) (by k_asm) (by k_asm) (by k_asm) rfl rfl (by assumption) (by k_is) (by k_is) (by ktr_room) (by first | exact BindsTo.of_eq rfl | exact binds_K (by k_in) rfl (by k_is) rfl rfl rfl) (by exact locs rfl) ?_ (by exact rfl) (by exact rfl) (by exact rfl) (by decide); k_whole; intro _ _ _ _ _ _ yB _ _; (try dsimp only); (try k_lift yB)) | (refine' code_defC (by k_asm) (by k_asm) (by k_asm) (by k_asm) (by k_asm) rfl rfl (by assumption) (by k_is) (by k_is) (by ktr_room) (by first | exact BindsTo.of_eq rfl | exact binds_K (by k_in) rfl (by k_is) rfl rfl rfl) (by exact rfl) (by decide +kernel) ?_ (by exact rfl) (by exact rfl) (by exact rfl); k_whole; intro _ _ _ _ _ _ _ yN yY yB _ _ yl; (try k_lt yl); k_cells yY; (try simp only [List.cons_append, List.nil_append] at yN); (try dsimp only); (try k_lift yB))); (try k_fold))
    k_steps
    all_goals exact hret _ _ _ _ ⟨⟨_, rfl⟩, rfl⟩ (by k_asm) (by k_asm)
  · refine wpAny_call ?_
    k_dflt ((first | (refine' code_def (by k_asm) (by k_asm) (by k_asm) (by k_asm) (by k_asm) rfl rfl (by assumption) (by k_is) (by k_is) (by ktr_room) (by first | exact BindsTo.of_eq rfl | exact binds_K (by k_in) rfl (by k_is) rfl rfl rfl) (by exact locs rfl) ?_ (by exact rfl) (by exact rfl) (by exact rfl) (by decide); k_whole; intro _ _ _ _ _ _ yB _ _; (try dsimp only); (try k_lift yB)) | (refine' code_defC (by k_asm) (by k_asm) (by k_asm) (by k_asm) (by k_asm) rfl rfl (by assumption) (by k_is) (by k_is) (by ktr_room) (by first | exact BindsTo.of_eq rfl | exact binds_K (by k_in) rfl (by k_is) rfl rfl rfl) (by exact rfl) (by decide +kernel) ?_ (by exact rfl) (by exact rfl) (by exact rfl); k_whole; intro _ _ _ _ _ _ _ yN yY yB _ _ yl; (try k_lt yl); k_cells yY; (try simp only [List.cons_append, List.nil_append] at yN); (try dsimp only); (try k_lift yB))); (try k_fold))
    k_steps
    all_goals exact hret _ _ _ _ ⟨⟨_, rfl⟩, rfl⟩ (by k_asm) (by k_asm)
  · refine wpAny_call ?_
    k_dflt ((first | (refine' code_def (by k_asm) (by k_asm) (by k_asm) (by k_asm) (by k_asm) rfl rfl (by assumption) (by k_is) (by k_is) (by ktr_room) (by first | exact BindsTo.of_eq rfl | exact binds_K (by k_in) rfl (by k_is) rfl rfl rfl) (by exact locs rfl) ?_ (by exact rfl) (by exact rfl) (by exact rfl) (by decide); k_whole; intro _ _ _ _ _ _ yB _ _; (try dsimp only); (try k_lift yB)) | (refine' code_defC (by k_asm) (by k_asm) (by k_asm) (by k_asm) (by k_asm) rfl rfl (by assumption) (by k_is) (by k_is) (by ktr_room) (by first | exact BindsTo.of_eq rfl | exact binds_K (by k_in) rfl (by k_is) rfl rfl rfl) (by exact rfl) (by decide +kernel) ?_ (by exact rfl) (by exact rfl) (by exact rfl); k_whole; intro _ _ _ _ _ _ _ yN yY yB _ _ yl; (try k_lt yl); k_cells yY; (try simp only [List.cons_append, List.nil_append] at yN); (try dsimp only); (try k_lift yB))); (try k_fold))
    k_steps
    all_goals exact hret _ _ _ _ ⟨⟨_, rfl⟩, rfl⟩ (by k_asm) (by k_asm)
local macro_rules | `(tactic| walk_at "call builtin:len") => `(tactic| (k_dflt (refine' len_ints_fit (by kmk_list) (by assumption) (by omega) ?_)))
local macro_rules | `(tactic| walk_at "compareOp Eq ref ref") => `(tactic| (k_dflt (refine' eq_intsK (by kmk_list) (by exact IntsAre.nil) (by kmk_list) (by exact IntsAre.nil) (by ktr_units) ?_)))
local macro_rules | `(tactic| walk_at "compareOp In int ref") => `(tactic| (k_dflt (refine in_list_ints (by kmk_list) (by assumption) ?_); (rename List.any _ _ = true => hany9); rw [hany9]))
local macro_rules | `(tactic| walk_at "subscriptTail Name Name ref int") => `(tactic| (k_dflt (refine' item_anyK (by kmk_list) (by assumption) (by omega) (by omega) (by omega) ?_); intro t9'))
local macro_rules | `(tactic| walk_at "subscriptTail Name BinOp ref int") => `(tactic| (k_dflt (first | (refine' item_anyK (by kmk_list) (by assumption) (by omega) (by omega) (by omega) ?_) | (refine' item_list_ints_neg (by kmk_list) (by assumption) (by omega) (by omega) (by omega) ?_)); intro t9'))
local macro_rules | `(tactic| walk_at "eval ListComp") => `(tactic| (k_here; refine stp9 ?_))
local macro_rules | `(tactic| walk_at "eval ListComp") => `(tactic| (k_here; refine stp9 ?_))
set_option maxHeartbeats 4000000 in
theorem sound_spec {w : World} {p : Program} {loose : List Str} {mean : ExcName → Option Value} {mg mb : Str → Option Value} {news : List (Addr × Obj)} {ax : Addr} {vs : List Value} {ep : Nat} {row : List Int}
    (ha : (ax, listOf vs.toArray ep) ∈ news) (hi : IntsAre vs row) (h2 : (2 : Int) ∈ row) (hl : row.length ≤ 64)
    (hn : ∀ k, k < row.length → row.getD (if k = 0 then row.length - 1 else k - 1) 0 = 1 → row.getD k 0 = 0 → False) :
    Spec w p loose mean mg mb 5 200 (.ref 295) [.ref ax] [] news (fun r news' => r = .bool true ∧ news' = news) := by
  intro dp un gd cn cs a ccd cl outer A₀ base h₀ L m s Q E B F X N T hk hd hu hret
  revert X; k_fill; intro X
  have hany : row.any (· == 2) = true := List.any_eq_true.mpr ⟨2, h2, by decide⟩
  have hvl : vs.length = row.length := hi.length
  have hvs : vs.toArray.size ≤ sizeLine := by rw [sizeLine_eq, List.size_toArray]; omega
  refine wpAny_call ?_
  k_dflt ((first | (refine' code_def (by k_asm) (by k_asm) (by k_asm) (by k_asm) (by k_asm) rfl rfl (by assumption) (by k_is) (by k_is) (by ktr_room) (by first | exact BindsTo.of_eq rfl | exact binds_K (by k_in) rfl (by k_is) rfl rfl rfl) (by exact locs rfl) ?_ (by exact rfl) (by exact rfl) (by exact rfl) (by decide); k_whole; intro _ _ _ _ _ _ yB _ _; (try dsimp only); (try k_lift yB)) | (refine' code_defC (by k_asm) (by k_asm) (by k_asm) (by k_asm) (by k_asm) rfl rfl (by assumption) (by k_is) (by k_is) (by ktr_room) (by first | exact BindsTo.of_eq rfl | exact binds_K (by k_in) rfl (by k_is) rfl rfl rfl) (by exact rfl) (by decide +kernel) ?_ (by exact rfl) (by exact rfl) (by exact rfl); k_whole; intro _ _ _ _ _ _ _ yN yY yB _ _ yl; (try k_lt yl); k_cells yY; (try simp only [List.cons_append, List.nil_append] at yN); (try dsimp only); (try k_lift yB))); (try k_fold))
  k_steps
  refine stp9I ?_
  refine ListComp_T (F₀ := by k_asm) (by with_unfolding_all rfl) (by decide) (by rfl) (by decide) (by rfl) (stp9Q ?_)
  k_steps
  refine stp9I ?_
  rename Fr _ _ _ _ => lF
  rename News _ _ _ _ => lN
  rename IsRange _ _ _ _ _ _ _ _ => hR
  refine CompSrcT.range (n := row.length) (by rfl) lF lN hR (small_one (by omega) (by omega) (by omega) (by omega)) (by unfold Builtin.Range.rangeSize; rw [if_pos (by decide)]; split <;> omega) (by rw [sizeLine_eq]; omega) (fun g => ?_)
  refine restTc (fun j zs => zs = []) rfl trivial ?_ ?_
  · intro zs hJ D h tk F' N' ho
    subst hJ
    clear lF lN hR
    k_steps
    refine hret _ _ _ _ ⟨rfl, rfl⟩ (by k_asm) ?_
    rename News _ _ _ _ => lN9
    exact fun p hp => lN9 p (by simp [hp])
  · intro i zs v I oI C oC D m₂ h tk E' hi9 hJ hP hns hx₁ ho h1 h2 h3 F' N'
    subst hJ
    clear lF lN hR
    (have zq := hP; (try clear hP); refine ex1 zq ?_; clear zq; intro tv zr; subst zr)
    rcases i with _ | i
    · k_steps
      · exfalso
        rename row.getD (0 + ((0 : Nat) : Int) - 1 + (row.length : Int)).toNat 0 = 1 => e1
        rename row.getD (0 + ((0 : Nat) : Int)).toNat 0 = 0 => e2
        refine hn 0 hi9 ?_ e2
        have e3 : (0 + ((0 : Nat) : Int) - 1 + (row.length : Int)).toNat = row.length - 1 := by omega
        rw [if_pos rfl, ← e3]; exact e1
      all_goals (rename Fr _ _ _ _ => eF; rename News _ _ _ _ => eN; exact CEnd.intro _ eF eN (fun p hp => hp) ho ⟨rfl, rfl⟩)
    · k_steps
      · exfalso
        rename row.getD (0 + ((i + 1 : Nat) : Int) - 1).toNat 0 = 1 => e1
        rename row.getD (0 + ((i + 1 : Nat) : Int)).toNat 0 = 0 => e2
        have e3 : (0 + ((i + 1 : Nat) : Int) - 1).toNat = i := by omega
        have e4 : (0 + ((i + 1 : Nat) : Int)).toNat = i + 1 := by omega
        rw [e3] at e1; rw [e4] at e2
        exact hn (i + 1) hi9 (by rw [if_neg (Nat.succ_ne_zero _)]; exact e1) e2
      all_goals (rename Fr _ _ _ _ => eF; rename News _ _ _ _ => eN; exact CEnd.intro _ eF eN (fun p hp => hp) ho ⟨rfl, rfl⟩)
end

section
theorem wtPC : True := by
  w_top off
  trivial
/-- plain: the texts' letters and their costs -/
noncomputable def chOf (z s : Nat) : Nat := ((ltab z).getD s Str.empty).cps.getD 0 0
noncomputable def cs (z s : Nat) : Int := sc ((ltab z).getD s Str.empty)
structure LetOk (z : Nat) : Prop where
  one : ∀ s, s < 2 ^ z → (ltab z).getD s Str.empty = ⟨#[chOf z s]⟩
  let3 : ∀ s, s < 2 ^ z → (ltab z).getD s Str.empty = Str.ofString "A" ∨ (ltab z).getD s Str.empty = Str.ofString "a" ∨ (ltab z).getD s Str.empty = Str.ofString "b"
theorem let5 : LetOk 5 := ⟨by decide +kernel, by decide +kernel⟩
theorem let6 : LetOk 6 := ⟨by decide +kernel, by decide +kernel⟩
theorem cs5 : ∀ s, s < 32 → cs 5 s = c5.getD s 0 := by decide +kernel
theorem cs6 : ∀ s, s < 64 → cs 6 s = c6.getD s 0 := by decide +kernel
theorem txt_cps {z : Nat} (K : LetOk z) : ∀ (r acc : List Nat), (∀ s ∈ r, s < 2 ^ z) → (txt z (acc ++ r)).cps = (txt z acc).cps ++ (r.map (chOf z)).toArray
  | [], acc, _ => by simp
  | s :: r, acc, h => by
    have e : acc ++ s :: r = (acc ++ [s]) ++ r := by simp
    rw [e, txt_cps K r (acc ++ [s]) (fun x hx => h x (.tail _ hx)), txt_snoc]
    show (txt z acc).cps ++ ((ltab z).getD s Str.empty).cps ++ _ = _
    rw [K.one s (h s (.head _))]
    simp
theorem txt_cps0 {z : Nat} (K : LetOk z) {r : List Nat} (h : ∀ s ∈ r, s < 2 ^ z) : (txt z r).cps = (r.map (chOf z)).toArray := by
  have := txt_cps K r [] h
  rw [List.nil_append] at this
  rw [this]
  have e : (txt z []).cps = #[] := (by decide : (Str.ofString "").cps = #[])
  rw [e]; simp
theorem txt_size {z : Nat} (K : LetOk z) {r : List Nat} (h : ∀ s ∈ r, s < 2 ^ z) : (txt z r).cps.size = r.length := by
  rw [txt_cps0 K h]; simp
theorem txt_sign {z : Nat} (K : LetOk z) {r : List Nat} (h : ∀ s ∈ r, s < 2 ^ z) {j : Nat} {v : Value} (hs : SignAt (txt z r) j v) : ∃ s t, r[j]? = some s ∧ s < 2 ^ z ∧ v = .str ((ltab z).getD s Str.empty) t := by
  obtain ⟨c, u, e, rfl⟩ := hs
  rw [txt_cps0 K h] at e
  simp only [List.getElem?_toArray, List.getElem?_map, Option.map_eq_some_iff] at e
  obtain ⟨s, e1, e2⟩ := e
  have hl := h s (List.mem_of_getElem? e1)
  exact ⟨s, u, e1, hl, by rw [K.one s hl, e2]⟩
/-- the rows of costs: what the ledger holds -/
inductive RowAll (news : List (Addr × Obj)) : List Value → List (List Int) → Prop
  | nil : RowAll news [] []
  | cons {a : Addr} {vs ws : List Value} {ep : Nat} {row : List Int} {rows : List (List Int)} : (a, listOf vs.toArray ep) ∈ news → IntsAre vs row → RowAll news ws rows → RowAll news (.ref a :: ws) (row :: rows)
theorem RowAll.mono {n1 n2 : List (Addr × Obj)} {ws : List Value} {rows : List (List Int)} (h : RowAll n1 ws rows) (hs : ∀ p ∈ n1, p ∈ n2) : RowAll n2 ws rows := by
  induction h with
  | nil => exact .nil
  | cons a b _ ih => exact .cons (hs _ a) b ih
theorem RowAll.snoc {news : List (Addr × Obj)} {ws : List Value} {rows : List (List Int)} (h : RowAll news ws rows) {a : Addr} {vs : List Value} {ep : Nat} {row : List Int} (hm : (a, listOf vs.toArray ep) ∈ news) (hi : IntsAre vs row) : RowAll news (ws ++ [.ref a]) (rows ++ [row]) := by
  induction h with
  | nil => exact .cons hm hi .nil
  | cons x y _ ih => exact .cons x y ih
theorem RowAll.length {news : List (Addr × Obj)} {ws : List Value} {rows : List (List Int)} (h : RowAll news ws rows) : ws.length = rows.length := by
  induction h with
  | nil => rfl
  | cons _ _ _ ih => simp [ih]
theorem RowAll.get {news : List (Addr × Obj)} {ws : List Value} {rows : List (List Int)} (h : RowAll news ws rows) : ∀ {i : Nat} {v : Value}, ws[i]? = some v → ∃ a vs ep row, v = .ref a ∧ (a, listOf vs.toArray ep) ∈ news ∧ IntsAre vs row ∧ rows[i]? = some row := by
  induction h with
  | nil => intro i v h; simp at h
  | cons hm hi _ ih =>
    intro i v h
    cases i with
    | zero => simp at h; subst h; exact ⟨_, _, _, _, rfl, hm, hi, rfl⟩
    | succ i => simp at h; obtain ⟨a, vs, ep, row, e1, e2, e3, e4⟩ := ih h; exact ⟨a, vs, ep, row, e1, e2, e3, by simpa using e4⟩
/-- the rows that the law reckons -/
noncomputable def rowsOf (z : Nat) (xs : List Int) (per : Nat → Nat) : List (List Int) := (runR (nxt z xs) per (2 ^ z)).2.map (fun r => r.map (cs z))
structure RowOk (row : List Int) : Prop where
  two : (2 : Int) ∈ row
  len : row.length ≤ 64
  noAa : ∀ k, k < row.length → row.getD (if k = 0 then row.length - 1 else k - 1) 0 = 1 → row.getD k 0 = 0 → False
theorem rows_ok {z : Nat} {xs : List Int} {per : Nat → Nat} (hz : 2 ^ z ≤ 64) (hf : PermOn (nxt z xs) (2 ^ z)) (hp : PerOk (nxt z xs) (2 ^ z) per) (rk : Nat → Nat)
    (hr : ∀ s, s < 2 ^ z → cs z s ≠ 2 → cs z (nxt z xs s) ≠ 2 → rk s < rk (nxt z xs s)) (hA : ∀ s, s < 2 ^ z → cs z s = 1 → cs z (nxt z xs s) ≠ 0) : ∀ row ∈ rowsOf z xs per, RowOk row := by
  intro row hrow
  obtain ⟨r, hr1, rfl⟩ := List.mem_map.mp hrow
  obtain ⟨i, _, hi, rfl⟩ := (runOk hf hp (2 ^ z) (Nat.le_refl _)).orb r hr1
  have hl : ((orbit (nxt z xs) i (per i)).map (cs z)).length = per i := by rw [List.length_map, orbit_length]
  refine ⟨has2 hf hp hr hi, by rw [hl]; exact Nat.le_trans (hp i hi).2.1 hz, ?_⟩
  intro k hk h1 h2
  rw [hl] at hk h1
  exact noAa hf hp hA hi hk h1 h2
theorem rows5 {xs : List Int} {per : Nat → Nat} (hp : PerOk (nxt 5 xs) (2 ^ 5) per) : ∀ row ∈ rowsOf 5 xs per, RowOk row := by
  refine rows_ok (by decide) (nxt_perm5 xs) hp (fun s => r5.getD s 0) ?_ ?_
  · intro s hs h1 h2
    obtain ⟨b, hb, e⟩ := nxt_form 5 xs s
    have hl := (nxt_perm5 xs).lt s hs
    rw [cs5 s hs] at h1
    rw [cs5 _ hl] at h2
    show r5.getD s 0 < r5.getD (nxt 5 xs s) 0
    rw [e] at h2 ⊢
    exact rk5 s hs b hb h1 h2
  · intro s hs h1
    obtain ⟨b, hb, e⟩ := nxt_form 5 xs s
    have hl := (nxt_perm5 xs).lt s hs
    rw [cs5 s hs] at h1
    rw [cs5 _ hl, e]
    exact na5 s hs b hb h1
theorem rows6 {xs : List Int} {per : Nat → Nat} (hp : PerOk (nxt 6 xs) (2 ^ 6) per) : ∀ row ∈ rowsOf 6 xs per, RowOk row := by
  refine rows_ok (by decide) (nxt_perm6 xs) hp (fun s => r6.getD s 0) ?_ ?_
  · intro s hs h1 h2
    obtain ⟨b, hb, e⟩ := nxt_form 6 xs s
    have hl := (nxt_perm6 xs).lt s hs
    rw [cs6 s hs] at h1
    rw [cs6 _ hl] at h2
    show r6.getD s 0 < r6.getD (nxt 6 xs s) 0
    rw [e] at h2 ⊢
    exact rk6 s hs b hb h1 h2
  · intro s hs h1
    obtain ⟨b, hb, e⟩ := nxt_form 6 xs s
    have hl := (nxt_perm6 xs).lt s hs
    rw [cs6 s hs] at h1
    rw [cs6 _ hl, e]
    exact na6 s hs b hb h1
theorem rows_sum {z : Nat} {xs : List Int} {per : Nat → Nat} (hf : PermOn (nxt z xs) (2 ^ z)) (hp : PerOk (nxt z xs) (2 ^ z) per) : ((rowsOf z xs per).map (fun row => row.countP (· == 2))).sum = (List.range (2 ^ z)).countP (fun s => cs z s == 2) := by
  rw [← rings_count hf hp (fun s => cs z s == 2)]
  unfold rowsOf
  rw [List.map_map]
  congr 1
  apply List.map_congr_left
  intro r _
  show (r.map (cs z)).countP _ = _
  rw [List.countP_map]; rfl
theorem sum5 {xs : List Int} {per : Nat → Nat} (hp : PerOk (nxt 5 xs) (2 ^ 5) per) : ((rowsOf 5 xs per).map (fun row => row.countP (· == 2))).sum = 8 := by
  rw [rows_sum (nxt_perm5 xs) hp]; decide +kernel
theorem sum6 {xs : List Int} {per : Nat → Nat} (hp : PerOk (nxt 6 xs) (2 ^ 6) per) : ((rowsOf 6 xs per).map (fun row => row.countP (· == 2))).sum = 14 := by
  rw [rows_sum (nxt_perm6 xs) hp]; decide +kernel
theorem rows_len (z : Nat) (xs : List Int) (per : Nat → Nat) : (rowsOf z xs per).length = (runR (nxt z xs) per (2 ^ z)).2.length := by
  unfold rowsOf; rw [List.length_map]
/-- as many wires as crossed places -/
theorem crossed_count {S : Str} {hs : List (Str × Str)} (g : GoodHdr S hs) (hn : ((List.range S.length).map (fun i : Nat => Txt.item S i)).Nodup) : (crossed S hs).countP (· == 1) = hs.length := by
  have e1 : (crossed S hs).countP (· == 1) = ((List.range S.length).map (fun i : Nat => Txt.item S i)).countP (fun c => (hlook c hs).isSome) := by
    unfold crossed
    rw [List.countP_map, List.countP_map]
    apply List.countP_congr
    intro i _
    simp only [Function.comp]
    unfold crossAt
    cases hlook (Txt.item S i) hs <;> simp
  rw [e1, List.countP_eq_length_filter]
  have hp : (((List.range S.length).map (fun i : Nat => Txt.item S i)).filter (fun c => (hlook c hs).isSome)).Perm (hs.map (fun q => Txt.lower q.1)) := by
    rw [List.perm_ext_iff_of_nodup (hn.sublist (List.filter_sublist)) g.nodup]
    intro c
    rw [List.mem_filter, List.mem_map, List.mem_map]
    unfold hlook
    constructor
    · rintro ⟨_, h⟩
      rw [Option.isSome_map, List.find?_isSome] at h
      obtain ⟨q, hq, e⟩ := h
      exact ⟨q, hq, eq_of_beq e⟩
    · rintro ⟨q, hq, e⟩
      obtain ⟨_, i, hi, e2⟩ := g.names q hq
      refine ⟨⟨i, List.mem_range.mpr hi, by rw [← e2, e]⟩, ?_⟩
      rw [Option.isSome_map, List.find?_isSome]
      exact ⟨q, hq, by rw [e]; exact beq_self_eq_true c⟩
  rw [hp.length_eq, List.length_map]
theorem nd5 : ((List.range S5.length).map (fun i : Nat => Txt.item S5 i)).Nodup := by decide +kernel
theorem nd6 : ((List.range S6.length).map (fun i : Nat => Txt.item S6 i)).Nodup := by decide +kernel
theorem even5 {hs : List (Str × Str)} (g : GoodHdr S5 hs) {per : Nat → Nat} (hp : PerOk (nxt 5 (crossed S5 hs)) (2 ^ 5) per) : ((rowsOf 5 (crossed S5 hs) per).length + hs.length) % 2 = 0 := by
  rw [rows_len, ← crossed_count g nd5]
  exact par5 _ (crossed_01 _ _) (by rw [crossed_len]; exact len5) hp
theorem even6 {hs : List (Str × Str)} (g : GoodHdr S6 hs) {per : Nat → Nat} (hp : PerOk (nxt 6 (crossed S6 hs)) (2 ^ 6) per) : ((rowsOf 6 (crossed S6 hs) per).length + hs.length) % 2 = 0 := by
  rw [rows_len, ← crossed_count g nd6]
  exact par6 _ (crossed_01 _ _) (by rw [crossed_len]; exact len6) hp
end

section
theorem wtCPB : True := by
  w_top off
  trivial
structure PSt where
  osn : Obj
  ond : Obj
  ows : Obj
  st : Nat × Nat × Nat
  vw : Option Value
  vlo : Option Value
noncomputable def pU (c : PSt) (y : Str) : Option Value := if y = Str.ofString "w" then c.vw else c.vlo
noncomputable def pL (S N W : Addr) (news : List (Addr × Obj)) (c : PSt) : List (Addr × Obj) := (W, c.ows) :: (N, c.ond) :: (S, c.osn) :: news
noncomputable def pP (w : World) (RS : List (Nat × Nat × Nat)) (n : Nat) (c : PSt) : Prop := c.st ∈ RS ∧ n = measN c.st ∧ IS w c.osn c.st.1 ∧ IS w c.ond c.st.2.1 ∧ IS w c.ows c.st.2.2 ∧ NS w c.ond c.st.2.1
theorem ints_cons {vs : List Value} {a : Int} {l : List Int} (h : IntsAre vs (a :: l)) : ∃ t us, vs = .int a t :: us ∧ IntsAre us l := by
  cases h with | cons _ t h => exact ⟨t, _, rfl, h⟩
theorem ints_nil {vs : List Value} (h : IntsAre vs []) : vs = [] := by
  cases h; rfl
theorem pwInts4 {vs : List Value} {a b c d : Int} (h : IntsAre vs [a, b, c, d]) : ∃ t1 t2 t3 t4, vs = [.int a t1, .int b t2, .int c t3, .int d t4] :=
  have ⟨t1, _, e1, h1⟩ := ints_cons h
  have ⟨t2, _, e2, h2⟩ := ints_cons h1
  have ⟨t3, _, e3, h3⟩ := ints_cons h2
  have ⟨t4, _, e4, h4⟩ := ints_cons h3
  ⟨t1, t2, t3, t4, by rw [e1, e2, e3, e4, ints_nil h4]⟩
noncomputable def pwDat (l : List (Int × Int)) : List (PyData × PyData) := l.map fun p => (PyData.int p.1, PyData.int p.2)
noncomputable def pwP (prog : Program) (w : World) (m₀ : Str → Option Value) (LD dd : Addr) (lo : Obj) (news : List (Addr × Obj)) (dat : List (Int × Int)) (i : Nat) (m' : Str → Option Value) (n' : List (Addr × Obj)) : Prop :=
  ∃ (od : Obj) (kvs : List (Int × Value)) (u : Str → Option Value), m' = offs [Str.ofString "this", Str.ofString "lo", Str.ofString "hi", Str.ofString "sq"] u m₀ ∧ n' = (LD, lo) :: (dd, od) :: news ∧ od.IsDictOf (PySem.intKind prog w) kvs ∧ PyProof.V.FlatPairs PyData.int kvs (pwDat (dat.take (i + 1)))
theorem pw_end {prog : Program} {w : World} {m₀ : Str → Option Value} {LD dd I L : Addr} {g : Heap} {lo od io : Obj} {news : List (Addr × Obj)} {dat : List (Int × Int)} {D : List (PyData × PyData)} {i : Nat} {m' : Str → Option Value} {s : Shared} {h' : Heap} {tk : Nat} {kvs : List (Int × Value)}
    (F : Fr g L h' m') (N : News g L h' ((I, io) :: (LD, lo) :: (dd, od) :: news)) (ho : ∀ p ∈ (LD, lo) :: (dd, od) :: news, p.1 ≠ I)
    (hm : ∀ y, y ≠ Str.ofString "this" → y ≠ Str.ofString "lo" → y ≠ Str.ofString "hi" → y ≠ Str.ofString "sq" → m' y = m₀ y) (hd : od.IsDictOf (PySem.intKind prog w) kvs) (hf : PyProof.V.FlatPairs PyData.int kvs D) (e : D = pwDat (dat.take (i + 1))) :
    IPost (pwP prog w m₀ LD dd lo news dat i) g L I io s .next { s with heap := h', toks := tk } :=
  IPost.intro ((LD, lo) :: (dd, od) :: news) F N (.head _) (fun p hp => .tail _ hp) ho ⟨od, kvs, m', funext fun y => offs_eq (fun y hy => hm y (hy _ (.head _)) (hy _ (.tail _ (.head _))) (hy _ (.tail _ (.tail _ (.head _)))) (hy _ (.tail _ (.tail _ (.tail _ (.head _)))))) y, rfl, hd, e ▸ hf⟩
theorem iter_pw {prog : Program} {w : World} {A : Around} {E : Value → Shared → Prop} {s : Shared} {env : Env} {h₀ : Heap} {target : Expr} {body : List Stmt} {Q : Flow → Shared → Prop} {I LD dd : Addr} {od : Obj} {vs : List Value} {k : Nat} {m₀ : Str → Option Value} {news news0 : List (Addr × Obj)} {kvs : List (Int × Value)} (dat : List (Int × Int))
    (hh : A.handled = none) (F : Fr h₀ env.locals s.heap m₀) (N : News h₀ env.locals s.heap news0) (hI : (I, liObj LD k) ∈ news0) (hL : (LD, W.listOf vs.toArray 2) ∈ news0) (hdd : (dd, od) ∈ news0) (hn : ∀ p ∈ news, p ∈ news0) (ho : ∀ p ∈ (LD, W.listOf vs.toArray 2) :: (dd, od) :: news, p.1 ≠ I) (hk : k ≤ vs.length)
    (hd : od.IsDictOf (PySem.intKind prog w) kvs) (hf : PyProof.V.FlatPairs PyData.int kvs (pwDat (dat.take 1)))
    (turn : ∀ i v od kvs u io₁ h tk, vs[k + i]? = some v → od.IsDictOf (PySem.intKind prog w) kvs → PyProof.V.FlatPairs PyData.int kvs (pwDat (dat.take (i + 1))) → Fr h₀ env.locals h (offs [Str.ofString "this", Str.ofString "lo", Str.ofString "hi", Str.ofString "sq"] u m₀) → News h₀ env.locals h ((I, io₁) :: (LD, W.listOf vs.toArray 2) :: (dd, od) :: news) →
      wpAny (model prog w) A (assign target env v) (fun _ s₂ => wpAny (model prog w) A (execs body env) (IPost (pwP prog w m₀ LD dd (W.listOf vs.toArray 2) news dat (i + 1)) h₀ env.locals I io₁ { s with heap := h, toks := tk }) E s₂) E { s with heap := h, toks := tk })
    (done : ∀ od kvs u h tk, od.IsDictOf (PySem.intKind prog w) kvs → PyProof.V.FlatPairs PyData.int kvs (pwDat (dat.take (vs.length - k + 1))) → Fr h₀ env.locals h (offs [Str.ofString "this", Str.ofString "lo", Str.ofString "hi", Str.ofString "sq"] u m₀) → News h₀ env.locals h ((LD, W.listOf vs.toArray 2) :: (dd, od) :: news) → Q .next { s with heap := h, toks := tk }) :
    wpAny (model prog w) A (pyIter (.ref I)) (fun it s₂ => TurnsAt prog w A h₀ env target body Q E it s₂) E s := by
  refine iter_it (news := (LD, W.listOf vs.toArray 2) :: (dd, od) :: news) (n := 2) (pwP prog w m₀ LD dd (W.listOf vs.toArray 2) news dat) hh F (fun p hp => ?_) ho (.head _) hk
    ⟨od, kvs, m₀, funext fun y => (offs_self m₀ _ y).symm, rfl, hd, hf⟩ (fun i m' n' hP => by obtain ⟨od, kvs, u, -, rfl, -, -⟩ := hP; exact .head _) ?_ ?_
  · rcases List.mem_cons.mp hp with rfl | hp
    · exact N _ hI
    rcases List.mem_cons.mp hp with rfl | hp
    · exact N _ hL
    rcases List.mem_cons.mp hp with rfl | hp
    · exact N _ hdd
    · exact N _ (hn p hp)
  · intro i v m₁ news₁ io₁ h1 tk1 hv hP hoff F' N'
    obtain ⟨od, kvs, u, rfl, rfl, hd6, hf6⟩ := hP
    exact turn i v od kvs u io₁ h1 tk1 hv hd6 hf6 F' N'
  · intro m' n' h1 tk1 hP F' N'
    obtain ⟨od, kvs, u, rfl, rfl, hd6, hf6⟩ := hP
    exact done od kvs u h1 tk1 hd6 hf6 F' N'
noncomputable def PowRet (w : World) (news : List (Addr × Obj)) (dat : List (Int × Int)) (r : Value) (news' : List (Addr × Obj)) : Prop :=
  ∃ (dd : Addr) (od : Obj) (kvs : List (Int × Value)), r = .ref dd ∧ news' = (dd, od) :: news ∧ od.IsDictOf (PySem.intKind PySem.Challenge.rw_to0077_01.row.prog w) kvs ∧ PyProof.V.FlatPairs PyData.int kvs (pwDat dat) ∧ (dd == sysModules) = false ∧ (∀ p ∈ news, p.1 < dd)
theorem popN_skip {sn nd ws k : Nat} (h : sn.testBit k = true ∨ k ≤ 1) : popN (sn, nd, ws) k = (sn, nd, ws ^^^ 1 <<< k) := if_pos h
theorem popN_odd {sn nd ws k : Nat} (h : ¬ (sn.testBit k = true ∨ k ≤ 1)) (h2 : k % 2 = 1) : popN (sn, nd, ws) k = (sn ||| 1 <<< k, nd ||| 1 <<< (k / 2), ((ws ^^^ 1 <<< k) ||| 1 <<< (k / 2)) ||| 1 <<< (k / 2 + 1)) := by
  unfold popN; rw [if_neg h, if_pos h2]
theorem popN_even {sn nd ws k : Nat} (h : ¬ (sn.testBit k = true ∨ k ≤ 1)) (h2 : ¬ k % 2 = 1) : popN (sn, nd, ws) k = (sn ||| 1 <<< k, nd ||| 1 <<< (k / 2), (ws ^^^ 1 <<< k) ||| 1 <<< (k / 2)) := by
  unfold popN; rw [if_neg h, if_neg h2]
theorem bitS_range {b : Nat} {K : Int} (hb : b < 65536) (h : bitS b K = true) : 0 ≤ K ∧ K.toNat ∈ List.range 16 ∧ b.testBit K.toNat = true := by
  simp only [bitS, Bool.and_eq_true, decide_eq_true_eq] at h
  refine ⟨h.1, ?_, h.2⟩
  rw [List.mem_range]
  rcases Nat.lt_or_ge K.toNat 16 with hl | hl
  · exact hl
  · have h2 : b < 2 ^ K.toNat := Nat.lt_of_lt_of_le hb (Nat.pow_le_pow_right (by decide : 0 < 2) hl)
    rw [Nat.testBit_lt_two_pow h2] at h; exact absurd h.2 (by decide)
theorem pU_eq {m' m : Str → Option Value} {c : PSt} (hw : c.vw = m' (Str.ofString "w")) (hl : c.vlo = m' (Str.ofString "lo")) (h : ∀ y, y ≠ Str.ofString "w" → y ≠ Str.ofString "lo" → m' y = m y) : ∀ y, m' y = offs [Str.ofString "w", Str.ofString "lo"] (pU c) m y := by
  intro y
  simp only [offs, pU]
  by_cases h1 : y = Str.ofString "w"
  · rw [if_pos h1, if_pos h1, hw, h1]
  · rw [if_neg h1]
    by_cases h2 : y = Str.ofString "lo"
    · rw [if_pos h2, if_neg h1, hl, h2]
    · rw [if_neg h2]; exact h y h1 h2
theorem p_end {w : World} {RS : List (Nat × Nat × Nat)} {S N W L : Addr} {news : List (Addr × Obj)} {g : Heap} {m₀ m' : Str → Option Value} {osn ond ows : Obj} {f : Flow} {s : Shared} {h' : Heap} {tk : Nat} {dr : Drawn} {st st' : Nat × Nat × Nat}
    (hf : f = .next ∨ f = .cont) (eF : Fr g L h' m') (eN : News g L h' ((W, ows) :: (N, ond) :: (S, osn) :: news)) (hm : ∀ y, y ≠ Str.ofString "w" → y ≠ Str.ofString "lo" → m' y = m₀ y)
    (hst : st' ∈ RS) (hlt : measN st' < measN st) (i1 : IS w osn st'.1) (i2 : IS w ond st'.2.1) (i3 : IS w ows st'.2.2) (i4 : NS w ond st'.2.1) :
    WEndD (fun c => offs [Str.ofString "w", Str.ofString "lo"] (pU c) m₀) (pL S N W news) (pP w RS) (measN st) g L s f { s with heap := h', toks := tk, drawn := dr } :=
  WEndD.intro ⟨osn, ond, ows, st', m' (Str.ofString "w"), m' (Str.ofString "lo")⟩ (measN st') hf eF eN (fun p hp => hp) (pU_eq rfl rfl hm) hlt ⟨hst, rfl, i1, i2, i3, i4⟩
theorem bit_of {b : Nat} {K : Int} (h : bitS b K = true) : b.testBit K.toNat = true := by
  simp only [bitS, Bool.and_eq_true] at h; exact h.2
theorem bit_not {b : Nat} {K : Int} (hK : 0 ≤ K) (h : bitS b K = false) : ¬ b.testBit K.toNat = true := by
  intro h2
  rw [bitS, h2, decide_eq_true hK] at h; cases h
theorem fdiv_two : ∀ k : Nat, k < 16 → Int.fdiv (k : Int) (2 ^ Int.toNat 1) = ((k / 2 : Nat) : Int) := by decide +kernel
theorem and_one : ∀ k : Nat, k < 16 → Builtin.bitAnd (k : Int) 1 = ((k % 2 : Nat) : Int) := by decide +kernel
theorem shl_lt' : ∀ k : Nat, k < 16 → 1 <<< k < 2 ^ 16 := by decide
theorem rsh1 {prog : Program} {w : World} {A : Around} {E : Value → Shared → Prop} {s : Shared} {Q : Value → Shared → Prop} {k : Nat} {t u : Tok} (hk : k < 16) (h : Q (.int ((k / 2 : Nat) : Int) s.toks) { s with toks := s.toks + 1 }) :
    wpAny (model prog w) A (binaryOp .RShift (.int (k : Int) t) (.int 1 u)) Q E s := rshift_int (by decide) (by rw [fdiv_two k hk]; exact h)
theorem and1 {prog : Program} {w : World} {A : Around} {E : Value → Shared → Prop} {s : Shared} {Q : Value → Shared → Prop} {k : Nat} {t u : Tok} (hk : k < 16) (h : Q (.int ((k % 2 : Nat) : Int) s.toks) { s with toks := s.toks + 1 }) :
    wpAny (model prog w) A (binaryOp .BitAnd (.int (k : Int) t) (.int 1 u)) Q E s := and_int (by rw [and_one k hk]; exact h)
end

section
theorem wtCPG : True := by
  w_top off
  trivial


local macro_rules | `(tactic| walk_at "binaryOp RShift int int") => `(tactic| (k_here; refine rsh1 (by assumption) ?_))
local macro_rules | `(tactic| walk_at "binaryOp BitAnd int int") => `(tactic| (k_here; refine and1 (by assumption) ?_))
local macro_rules | `(tactic| walk_at "call type:set nil nil") => `(tactic| (k_here; refine hlt ?_))
local macro_rules | `(tactic| walk_at "call builtin:set.add") => `(tactic| (k_here; refine hlt ?_))
local macro_rules | `(tactic| walk_at "getMethod ref") => `(tactic| (k_here; (with_reducible show wpAny _ _ (getMethod (Value.ref _) (Str.ofString "add") _) _ _ _); refine hlt ?_))
local macro_rules | `(tactic| walk_at "getMethod ref") => `(tactic| (k_here; (with_reducible show wpAny _ _ (getMethod (Value.ref _) (Str.ofString "pop") _) _ _ _); refine hlt ?_))
local macro_rules | `(tactic| walk_at "call builtin:set.pop") => `(tactic| (k_here; refine hlt ?_))
local macro_rules | `(tactic| walk_at "truthy ref") => `(tactic| (k_here; refine hlt ?_))
local macro_rules | `(tactic| walk_at "call builtin:sorted") => `(tactic| (k_here; refine hlt ?_))
local macro_rules | `(tactic| walk_at "call builtin:iter") => `(tactic| (k_here; refine hlt ?_))
local macro_rules | `(tactic| walk_at "call builtin:next") => `(tactic| (k_here; refine hlt ?_))
local macro_rules | `(tactic| walk_at "eval Set") => `(tactic| (k_dflt (refine' is_disp (by k_asm) (by k_asm) (by k_asm) (by first | k_is | kernel_rfl!) (by kds_road) (by kds_road) ?_); intro d' h' F' N' l1; (try k_lt l1)))

local macro_rules | `(tactic| walk_at "setAdd int") => `(tactic| (k_dflt (refine' is_setAdd (by k_asm) (by k_asm) (by k_updF) (by first | assumption | exact IS.fresh) (by first | assumption | decide) (by first | assumption | decide) ?_); intro r' h' o' F' N' hs' hn'; (try dsimp only at N')))
local macro_rules | `(tactic| walk_at "compareOp In int ref") => `(tactic| (k_dflt (refine' is_in (by k_asm) (by k_mem) (by first | assumption | exact IS.fresh) (by first | assumption | decide) ?_); (try dsimp only)))
local macro_rules | `(tactic| walk_at "exec While") => `(tactic| (k_here; refine hlt ?_))
local macro_rules | `(tactic| walk_at "exec While Name") => `(tactic| (k_here; refine hlt ?_))
local macro_rules | `(tactic| walk_at "pyIter ref") => `(tactic| (k_here; refine hlt ?_))
local macro_rules | `(tactic| walk_at "exec For Name Name cons nil") => `(tactic| walk_at "zF")


structure PG (W c pc : Int) (B0 nE : Nat) (RS : List (Nat × Nat × Nat)) : Prop where
  cs : (c = 5 ∧ pc = 32) ∨ (c = 6 ∧ pc = 64)
  w0 : 0 ≤ W
  s0 : 0 ||| 1 <<< W.toNat = B0
  st : (0, 0, B0) ∈ RS
  pop : ∀ st ∈ RS, ∀ k ∈ List.range 16, st.2.2.testBit k = true → popN st k ∈ RS ∧ measN (popN st k) < measN st ∧ (st.1.testBit k = true ∨ k ≤ 1 ∨ nsAdd st.2.1 (k / 2) = true)
  fin : ∀ st ∈ RS, st.2.2 = 0 → st.2.1 = nE
  small : ∀ st ∈ RS, st.1 < 65536 ∧ st.2.1 < 65536 ∧ st.2.2 < 65536
  ne : nE ≠ 0
  ok : belOk nE = true
  len : 0 < (bitsL nE).length
  srt : ((bitsL nE).map Int.ofNat).Pairwise (· ≤ ·)
  bits : (bitsL nE).map Int.ofNat = [1, 2, 3, c]
theorem pg5 : PG 11 5 32 2048 46 RS11 := ⟨.inl ⟨rfl, rfl⟩, by decide, by decide, .head _, fun s h k hk ht => (rs11_pop s h k hk ht).2, rs11_end, rs11_small, by decide, by decide, by decide, by decide, by decide⟩
theorem pg6 : PG 13 6 64 8192 78 RS13 := ⟨.inr ⟨rfl, rfl⟩, by decide, by decide, .head _, fun s h k hk ht => (rs13_pop s h k hk ht).2, rs13_end, rs13_small, by decide, by decide, by decide, by decide, by decide⟩
set_option maxHeartbeats 16000000 in
theorem powersG {W c pc : Int} {B0 nE : Nat} {RS : List (Nat × Nat × Nat)} (G : PG W c pc B0 nE RS) {w : World} {p : Program} {loose : List Str} {mean : ExcName → Option Value} {mg mb : Str → Option Value} {news : List (Addr × Obj)} {t1 t2 t3 : Tok} :
    SpecD w p loose mean mg mb 10 300 (.ref 46) [.int W t1, .int 2 t2, .int 1 t3] [] news (PowRet w news [(1, 2), (2, 4), (3, 8), (c, pc)]) := by
  have hW0 := G.w0
  have hE0 := G.ne
  intro dp un gd cn cs a ccd cl outer A₀ base h₀ L m s Q E B F X N T hk hd hu hret
  revert X; k_fill; intro X
  refine wpAny_call ?_
  k_dflt ((first | (refine' code_def (by k_asm) (by k_asm) (by k_asm) (by k_asm) (by k_asm) rfl rfl (by assumption) (by k_is) (by k_is) (by ktr_room) (by first | exact BindsTo.of_eq rfl | exact binds_K (by k_in) rfl (by k_is) rfl rfl rfl) (by exact locs rfl) ?_ (by exact rfl) (by exact rfl) (by exact rfl) (by decide); k_whole; intro _ _ _ _ _ _ yB _ _; (try dsimp only); (try k_lift yB)) | (refine' code_defC (by k_asm) (by k_asm) (by k_asm) (by k_asm) (by k_asm) rfl rfl (by assumption) (by k_is) (by k_is) (by ktr_room) (by first | exact BindsTo.of_eq rfl | exact binds_K (by k_in) rfl (by k_is) rfl rfl rfl) (by exact rfl) (by decide +kernel) ?_ (by exact rfl) (by exact rfl) (by exact rfl); k_whole; intro _ _ _ _ _ _ _ yN yY yB _ _ yl; (try k_lt yl); k_cells yY; (try simp only [List.cons_append, List.nil_append] at yN); (try dsimp only); (try k_lift yB))); (try k_fold))
  (k_steps <;> repeat' ((first | (refine hltI ?_; (with_reducible show wpAny _ _ (call (Value.type _) _ _) _ _ _); k_dflt (refine is_new (by k_asm) (by k_asm) ?_); intro _ _ _ _ l1; (try k_lt l1); revert l1; intro _)); k_steps))
  refine hltI ?_
  rename_i g9 L9 ha9 FG9 X9 T9 _ S9 hb9 l9 hc9 D9 hd9 q1 l9b he9 W9 hf9 q2 q3 l9c r9 hg9 o9 hs9 hn9 hh9 lF lN
  refine While_D (σ := PSt) [Str.ofString "w", Str.ofString "lo"] pU (pL S9 D9 W9 news) (pP w RS) (measN (0, 0, B0)) ⟨newSetObj w, newSetObj w, o9, (0, 0, B0), some (.int W t1), none⟩ lF lN
    (offs_at fun z hz => ?_) (fun p hp => hp) ⟨G.st, rfl, IS.fresh, IS.fresh, G.s0 ▸ hs9, NS.fresh⟩ ?_
  · rcases List.mem_cons.mp hz with rfl | hz
    · rfl
    · rw [List.mem_singleton.mp hz]; rfl
  · intro n c9 h tk dr hP F' N'
    (obtain ⟨osn, ond, ows, ⟨sn, nd, ws⟩, vw, vlo⟩  := c9)
    (have zq := hP; (try clear hP); refine an6 zq ?_; clear zq; intro p1 p2 p3 p4 p5 p6)
    subst p2
    delta pU at F'; delta pL at N'
    dsimp only at F' N' p1 p3 p4 p5 p6
    clear lF lN
    (have zq := G.small _ p1; refine an3 zq ?_; clear zq; intro b1 b2 b3)
    dsimp only at b1 b2 b3
    by_cases hz : ws = 0
    · subst hz
      have hnd : nd = nE := G.fin _ p1 rfl
      subst hnd
      (k_steps <;> repeat' ((first | (refine hltI ?_; (with_reducible show wpAny _ _ (call (Value.builtin "next") _ _) _ _ _); k_dflt (refine' li_next (by k_asm) (by k_asm) (by k_updF) (by exact List.Mem.tail _ (List.Mem.head _)) (by exact rfl) ?_); intro _ _ N'; (try dsimp only at N'); revert N'; intro _) | (refine hltI ?_; (with_reducible show wpAny _ _ (call (Value.builtin "iter") _ _) _ _ _); k_dflt (refine' li_iter (by k_asm) (by k_asm) (by exact List.Mem.head _) ?_); intro _ _ _ _ l1; (try k_lt l1); revert l1; intro _) | (refine hltI ?_; (with_reducible show wpAny _ _ (call (Value.builtin "sorted") _ _) _ _ _); k_dflt (refine' set_sorted (by rfl) (by k_asm) (by k_asm) (by k_mem) (by assumption) (by assumption) G.ok G.len G.srt ?_); intro _ vs9 _ _ _ _ l1 hI9; (obtain ⟨_, _, _, _, e9⟩ : ∃ t1 t2 t3 t4, vs9 = [Value.int 1 t1, Value.int 2 t2, Value.int 3 t3, Value.int c t4] := pwInts4 (G.bits ▸ hI9)); subst e9; clear hI9; (try k_lt l1); revert l1; intro _) | (refine hltI ?_; (with_reducible show wpAny _ _ (truthy _) _ _ _); k_dflt (refine' is_truthy (by k_asm) (by k_mem) (by first | assumption | exact IS.fresh) (by first | assumption | decide) ?_); (first | rw [show decide ((0 : Nat) ≠ 0) = false from rfl] | rw [decide_eq_true hE0] | skip); (try dsimp only))); k_steps))
      refine hltI ?_
      rename_i tkA dA hA oA loA hsA fsA hiA fiA lt1 lt2 lt3 lA hB tkB LD hC tkC ta tb tc td e1 e2 e3 e4 lB I5 hD f1 f2 f3 f4 f5 lC hE tkE hF hG _ hH o5 F5 N5 hd5 hf5
      have z1 : ∀ p ∈ news, p.1 ≠ I5 := fun p hp => Nat.ne_of_lt (allLt_mem lC p hp)
      have z2 : @Ne Nat LD I5 := Nat.ne_of_lt f1
      have z3 : @Ne Nat dA I5 := Nat.ne_of_lt f2
      have z4 : @Ne Nat LD dA := Nat.ne_of_gt e1
      refine iter_pw (vs := [Value.int 1 ta, Value.int 2 tb, Value.int 3 tc, Value.int c td]) (k := 1) (news := news) [(1, 2), (2, 4), (3, 8), (c, pc)]
        (by rfl) F5 N5 (.head _) (.tail _ (.head _)) (.tail _ (.tail _ (.head _))) (fun p hp => .tail _ (.tail _ (.tail _ (.tail _ (.tail _ (.tail _ hp)))))) (List.forall_mem_cons.mpr ⟨z2, List.forall_mem_cons.mpr ⟨z3, z1⟩⟩) (by simp) hd5 hf5 ?_ ?_
      · intro i v od kvs u io₁ h1 tk1 hv hd6 hf6 F' N'
        clear F5 N5 hd5 hf5 hsA fsA hiA fiA
        have hi3 : i = 0 ∨ i = 1 ∨ i = 2 := by
          rcases i with _ | _ | _ | i
          · exact .inl rfl
          · exact .inr (.inl rfl)
          · exact .inr (.inr rfl)
          · exact absurd (List.getElem?_eq_some_iff.mp hv).1 (by simp only [List.length_cons, List.length_nil]; omega)
        rcases hi3 with rfl | rfl | rfl
        · obtain rfl : v = Value.int 2 tb := (Option.some.inj hv).symm
          have hf7 : PyProof.V.FlatPairs PyData.int kvs [(PyData.int 1, PyData.int 2)] := hf6
          clear hf6
          k_steps
          all_goals (rename Fr _ _ _ _ => eF; rename News _ _ _ _ => eN; rename Obj.IsDictOf _ _ _ => hd8; rename PyProof.V.FlatPairs _ _ _ => hf8)
          all_goals (refine pw_end eF eN (List.forall_mem_cons.mpr ⟨z2, List.forall_mem_cons.mpr ⟨z3, z1⟩⟩) (fun y w1 w2 w3 w4 => ?_) hd8 hf8 rfl)
          all_goals simp only [if_neg w1, if_neg w2, if_neg w3, if_neg w4, offs]
        · obtain rfl : v = Value.int 3 tc := (Option.some.inj hv).symm
          have hf7 : PyProof.V.FlatPairs PyData.int kvs [(PyData.int 1, PyData.int 2), (PyData.int 2, PyData.int 4)] := hf6
          clear hf6
          k_steps
          all_goals (rename Fr _ _ _ _ => eF; rename News _ _ _ _ => eN; rename Obj.IsDictOf _ _ _ => hd8; rename PyProof.V.FlatPairs _ _ _ => hf8)
          all_goals (refine pw_end eF eN (List.forall_mem_cons.mpr ⟨z2, List.forall_mem_cons.mpr ⟨z3, z1⟩⟩) (fun y w1 w2 w3 w4 => ?_) hd8 hf8 rfl)
          all_goals simp only [if_neg w1, if_neg w2, if_neg w3, if_neg w4, offs]
        · rcases G.cs with ⟨rfl, rfl⟩ | ⟨rfl, rfl⟩
          · obtain rfl : v = Value.int 5 td := (Option.some.inj hv).symm
            have hf7 : PyProof.V.FlatPairs PyData.int kvs [(PyData.int 1, PyData.int 2), (PyData.int 2, PyData.int 4), (PyData.int 3, PyData.int 8)] := hf6
            clear hf6
            k_steps
            all_goals (rename Fr _ _ _ _ => eF; rename News _ _ _ _ => eN; rename Obj.IsDictOf _ _ _ => hd8; rename PyProof.V.FlatPairs _ _ _ => hf8)
            all_goals (refine pw_end eF eN (List.forall_mem_cons.mpr ⟨z2, List.forall_mem_cons.mpr ⟨z3, z1⟩⟩) (fun y w1 w2 w3 w4 => ?_) hd8 hf8 rfl)
            all_goals simp only [if_neg w1, if_neg w2, if_neg w3, if_neg w4, offs]
          · obtain rfl : v = Value.int 6 td := (Option.some.inj hv).symm
            have hf7 : PyProof.V.FlatPairs PyData.int kvs [(PyData.int 1, PyData.int 2), (PyData.int 2, PyData.int 4), (PyData.int 3, PyData.int 8)] := hf6
            clear hf6
            k_steps
            all_goals (rename Fr _ _ _ _ => eF; rename News _ _ _ _ => eN; rename Obj.IsDictOf _ _ _ => hd8; rename PyProof.V.FlatPairs _ _ _ => hf8)
            all_goals (refine pw_end eF eN (List.forall_mem_cons.mpr ⟨z2, List.forall_mem_cons.mpr ⟨z3, z1⟩⟩) (fun y w1 w2 w3 w4 => ?_) hd8 hf8 rfl)
            all_goals simp only [if_neg w1, if_neg w2, if_neg w3, if_neg w4, offs]
      · intro od kvs u h1 tk1 hd6 hf6 F' N'
        clear F5 N5 hd5 hf5 hsA fsA hiA fiA
        have hf7 : PyProof.V.FlatPairs PyData.int kvs [(PyData.int 1, PyData.int 2), (PyData.int 2, PyData.int 4), (PyData.int 3, PyData.int 8), (PyData.int c, PyData.int pc)] := hf6
        clear hf6
        · k_steps
          all_goals (rename News _ _ _ _ => eN; exact hret _ ((dA, od) :: news) _ _ _ ⟨dA, od, kvs, rfl, rfl, hd6, hf7, loA, fun p hp => allLt_mem lA p hp⟩ (by k_asm) (fun p hp => eN p (.tail _ hp)))

    · (k_steps <;> repeat' ((first | (refine hltI ?_; (with_reducible show wpAny _ _ (truthy _) _ _ _); k_dflt (refine' is_truthy (by k_asm) (by k_mem) (by first | assumption | exact IS.fresh) (by first | assumption | decide) ?_); (first | rw [decide_eq_true (show ws ≠ 0 from hz)] | skip); (try dsimp only)) | (refine hltI ?_; (with_reducible show wpAny _ _ (call (Value.builtin "set.pop") _ _) _ _ _); k_dflt (refine' is_pop (by k_asm) (by k_asm) (by k_updF) (by first | assumption | exact IS.fresh) (by assumption) (by assumption) ?_); intro _ _ _ _ _ _ _ N'; (try dsimp only at N'); revert N'; intro _ _; refine hlt ?_) | (refine hltI ?_; (with_reducible show wpAny _ _ (getMethod _ _ _) _ _ _); k_dflt (refine' is_mpop (by k_asm) (by k_mem) (by first | assumption | exact IS.fresh) ?_))); k_steps))
      refine hltI ?_
      rename_i _ h' o' K9 tk9 dr9 hb9 F' N' hs'
      (have zq := bitS_range b3 hb9; refine an3 zq ?_; clear zq; intro k1 k2 k3)
      (have zq := G.pop _ p1 _ k2 k3; refine an3 zq ?_; clear zq; intro j2 j3 j4)
      (have zq := Int.eq_ofNat_of_zero_le k1; refine ex1 zq ?_; clear zq; intro k zr; subst zr)
      have hk : k < 16 := List.mem_range.mp k2
      have s1 : 1 <<< Int.toNat (k : Int) < 2 ^ 16 := shl_lt' _ hk
      have s2 : 1 <<< Int.toNat ((k / 2 : Nat) : Int) < 2 ^ 16 := shl_lt' (k / 2) (by omega)
      have s3 : 1 <<< Int.toNat (((k / 2 : Nat) : Int) + 1) < 2 ^ 16 := shl_lt' (k / 2 + 1) (by omega)
      have y1 : (0 : Int) ≤ ((k / 2 : Nat) : Int) := by omega
      have y2 : (0 : Int) ≤ ((k / 2 : Nat) : Int) + 1 := by omega
      (k_steps <;> repeat' ((first | (refine hltI ?_; (with_reducible show wpAny _ _ (getMethod _ _ _) _ _ _); k_dflt (refine' is_madd (by k_asm) (by k_mem) (by first | assumption | exact IS.fresh) ?_)) | (refine hltI ?_; (with_reducible show wpAny _ _ (call (Value.builtin "set.add") _ _) _ _ _); k_dflt (refine' is_add (by k_asm) (by k_asm) (by k_updF) (by first | assumption | exact IS.fresh) (by first | assumption | decide | (refine Nat.xor_lt_two_pow ?_ ?_ <;> first | assumption | decide) | (refine Nat.or_lt_two_pow (Nat.xor_lt_two_pow ?_ ?_) ?_ <;> first | assumption | decide)) (by first | assumption | decide) ?_); intro _ _ _ N'; (try dsimp only at N'); revert N'; intro _ _ _)); k_steps))
      all_goals (try dsimp only)
      all_goals (rename Fr _ _ _ _ => eF; rename News _ _ _ _ => eN)
      · have e0 := popN_skip (sn := sn) (nd := nd) (ws := ws) (k := Int.toNat (k : Int)) (.inl (bit_of (by assumption)))
        rw [e0] at j2 j3
        refine p_end (.inr rfl) eF eN (fun y h1 h2 => ?_) j2 j3 p3 p4 hs' p6
        simp only [if_neg h1, if_neg h2, offs]
      · rename (k : Int) ≤ 1 => hle
        have e0 := popN_skip (sn := sn) (nd := nd) (ws := ws) (k := Int.toNat (k : Int)) (.inr (by omega))
        rw [e0] at j2 j3
        refine p_end (.inr rfl) eF eN (fun y h1 h2 => ?_) j2 j3 p3 p4 hs' p6
        simp only [if_neg h1, if_neg h2, offs]
      · rename bitS sn _ = false => a9
        rename ¬ ((k : Int) ≤ 1) => hle
        rename IS _ _ (sn ||| _) => i1
        rename IS _ _ (nd ||| _) => i2
        rename IS _ _ (((ws ^^^ _) ||| _) ||| _) => i3
        rename NS _ ond nd → _ → _ => i4
        have hc9 : ¬ (sn.testBit (Int.toNat (k : Int)) = true ∨ Int.toNat (k : Int) ≤ 1) := fun h9 => h9.elim (bit_not (by omega) a9) (fun h9 => hle (by omega))
        have e0 := popN_odd (sn := sn) (nd := nd) (ws := ws) (k := Int.toNat (k : Int)) hc9 (by omega)
        have j5 := (j4.resolve_left fun h9 => hc9 (.inl h9)).resolve_left fun h9 => hc9 (.inr h9)
        rw [e0] at j2 j3
        refine p_end (.inl rfl) eF eN (fun y h1 h2 => ?_) j2 j3 i1 i2 i3 (i4 p6 j5)
        simp only [if_neg h1, if_neg h2, offs]
      · rename bitS sn _ = false => a9
        rename ¬ ((k : Int) ≤ 1) => hle
        rename IS _ _ (sn ||| _) => i1
        rename IS _ _ (nd ||| _) => i2
        rename IS _ _ ((ws ^^^ _) ||| _) => i3
        rename NS _ ond nd → _ → _ => i4
        have hc9 : ¬ (sn.testBit (Int.toNat (k : Int)) = true ∨ Int.toNat (k : Int) ≤ 1) := fun h9 => h9.elim (bit_not (by omega) a9) (fun h9 => hle (by omega))
        have e0 := popN_even (sn := sn) (nd := nd) (ws := ws) (k := Int.toNat (k : Int)) hc9 (by omega)
        have j5 := (j4.resolve_left fun h9 => hc9 (.inl h9)).resolve_left fun h9 => hc9 (.inr h9)
        rw [e0] at j2 j3
        refine p_end (.inl rfl) eF eN (fun y h1 h2 => ?_) j2 j3 i1 i2 i3 (i4 p6 j5)
        simp only [if_neg h1, if_neg h2, offs]

theorem powers5 {w : World} {p : Program} {loose : List Str} {mean : ExcName → Option Value} {mg mb : Str → Option Value} {news : List (Addr × Obj)} {t1 t2 t3 : Tok} :
    SpecD w p loose mean mg mb 10 300 (.ref 46) [.int 11 t1, .int 2 t2, .int 1 t3] [] news (PowRet w news [(1, 2), (2, 4), (3, 8), (5, 32)]) := powersG pg5
theorem powers6 {w : World} {p : Program} {loose : List Str} {mean : ExcName → Option Value} {mg mb : Str → Option Value} {news : List (Addr × Obj)} {t1 t2 t3 : Tok} :
    SpecD w p loose mean mg mb 10 300 (.ref 46) [.int 13 t1, .int 2 t2, .int 1 t3] [] news (PowRet w news [(1, 2), (2, 4), (3, 8), (6, 64)]) := powersG pg6
end

section

theorem wtDI2 : True := by
  w_top off
  trivial


theorem lenL {prog : Program} {w : World} {A : Around} {E : Value → Shared → Prop} {s : Shared} {h₀ : Heap} {L l : Addr} {news : List (Addr × Obj)} {o : Obj} {vs : Array Value} {ep : Nat} {Q : Value → Shared → Prop} (n : Nat) (N : News h₀ L s.heap news) (hl : (l, o) ∈ news) (hc : o.cls = .type "list") (hd : o.data = .seq vs ep) (hn : vs.size = n) (h9 : n ≤ 9)
    (h : Q (.int (n : Nat) (s.toks + 1)) { s with toks := s.toks + 1 + 1 }) : wpAny (model prog w) A (call (.builtin "len") [.ref l]) Q E s :=
  Calls.call_len_list ⟨o, (N _ hl).1, hc, ep, hd⟩ (by rw [hn]; omega) (by rw [hn]; exact h)
theorem truthyL {prog : Program} {w : World} {A : Around} {E : Value → Shared → Prop} {s : Shared} {h₀ : Heap} {L l : Addr} {news : List (Addr × Obj)} {o : Obj} {vs : Array Value} {ep : Nat} {Q : Bool → Shared → Prop} (N : News h₀ L s.heap news) (hl : (l, o) ∈ news) (hc : o.cls = .type "list") (hd : o.data = .seq vs ep) (hn : Nat.ble vs.size 9 = true) (he : vs.isEmpty = false)
    (h : Q true { s with toks := s.toks + 1 + 1 }) : wpAny (model prog w) A (truthy (.ref l)) Q E s :=
  wpAny_truthy_list ⟨o, (N _ hl).1, hc, ep, hd⟩ (by have := Nat.le_of_ble_eq_true hn; omega) (by rw [he]; exact h)
theorem offI_ne {I : Addr} {o : Obj} : ∀ {l : List (Addr × Obj)}, (∀ p ∈ l, p.1 ≠ I) → OffI I o l
  | [], _ => trivial
  | p :: l, h => ⟨.inl (h p (.head _)), offI_ne fun q hq => h q (.tail _ hq)⟩
theorem blen {prog : Program} {w : World} {A : Around} {E : Value → Shared → Prop} {s : Shared} {k : Int} {t : Tok} {Q : Value → Shared → Prop} (n : Nat) (h : Builtin.Int.intBits k = n) (hQ : ∀ t', Q (.int n t') { s with toks := s.toks + 1 }) :
    wpAny (model prog w) A (call (.builtin "int.bit_length") [.int k t]) Q E s := by
  refine call_int_bit_length ?_
  rw [h]
  exact hQ _
local macro_rules | `(tactic| walk_at "call builtin:len") => `(tactic| (k_here; refine hlt ?_))
local macro_rules | `(tactic| walk_at "call builtin:int.bit_length") => `(tactic| (k_here; refine hlt ?_))



set_option maxHeartbeats 16000000 in
theorem i2d5 {w : World} {p : Program} {loose : List Str} {mean : ExcName → Option Value} {mg mb : Str → Option Value} {news : List (Addr × Obj)} {t1 t2 : Tok} (hn1 : ∀ p ∈ news, p.1 ≠ 62) (hn2 : ∀ p ∈ news, p.1 ≠ 69) :
    SpecN w p loose mean mg mb 12 200 (.ref 67) [.int 40 t1, .int 3 t2] [] news (fun r news' => ∃ (D : Addr) (n : Nat) (t0 t1 : Tok) (ps : Array Value), r = .ref D ∧ news' = (D, W.listOf #[.int 0 t0, .int 5 t1] n) :: (69, tabObj #[]) :: (62, tabObj ps) :: news ∧ @LT.lt Nat _ 69 D ∧ ∀ p ∈ (62, tabObj ps) :: news, p.1 < D) := by
  intro dp un gd cn cs a ccd cl outer A₀ base h₀ L m s Q E C1 C2 B F X N T hk hd hu hret
  revert X; k_fill; intro X
  refine wpAny_call ?_
  k_dflt ((first | (refine' code_def (by k_asm) (by k_asm) (by k_asm) (by k_asm) (by k_asm) rfl rfl (by assumption) (by k_is) (by k_is) (by ktr_room) (by first | exact BindsTo.of_eq rfl | exact binds_K (by k_in) rfl (by k_is) rfl rfl rfl) (by exact locs rfl) ?_ (by exact rfl) (by exact rfl) (by exact rfl) (by decide); k_whole; intro _ _ _ _ _ _ yB _ _; (try dsimp only); (try k_lift yB)) | (refine' code_defC (by k_asm) (by k_asm) (by k_asm) (by k_asm) (by k_asm) rfl rfl (by assumption) (by k_is) (by k_is) (by ktr_room) (by first | exact BindsTo.of_eq rfl | exact binds_K (by k_in) rfl (by k_is) rfl rfl rfl) (by exact rfl) (by decide +kernel) ?_ (by exact rfl) (by exact rfl) (by exact rfl); k_whole; intro _ _ _ _ _ _ _ yN yY yB _ _ yl; (try k_lt yl); k_cells yY; (try simp only [List.cons_append, List.nil_append] at yN); (try dsimp only); (try k_lift yB))); (try k_fold))
  (k_steps <;> repeat' ((first | (refine hltI ?_; (with_reducible show wpAny _ _ (call (Value.builtin "len") _ _) _ _ _); k_dflt (first | refine lenL 2 (by k_asm) (by k_mem) rfl rfl rfl (by decide) ?_ | refine lenL 3 (by k_asm) (by k_mem) rfl rfl rfl (by decide) ?_); (try dsimp only [Int.cast_ofNat_Int])) | (refine hltI ?_; (with_reducible show wpAny _ _ (call (Value.builtin "int.bit_length") _ _) _ _ _); first | refine blen 0 (by decide +kernel) ?_ | refine blen 1 (by decide +kernel) ?_ | refine blen 2 (by decide +kernel) ?_ | refine blen 3 (by decide +kernel) ?_ | refine blen 4 (by decide +kernel) ?_ | refine blen 5 (by decide +kernel) ?_ | refine blen 6 (by decide +kernel) ?_ | refine blen 7 (by decide +kernel) ?_ | refine blen _ rfl ?_; intro _; (try dsimp only [Int.cast_ofNat_Int]))); k_steps))
  all_goals (rename News _ _ _ _ => eN; refine hret _ _ _ _ ⟨_, _, _, _, _, rfl, rfl, (by omega), List.forall_mem_cons.mpr ⟨(by show @LT.lt Nat _ 62 _; omega), fun p hp => allLt_mem (by assumption) p hp⟩⟩ (by k_asm) (List.forall_mem_cons.mpr ⟨eN (_, _) (by k_mem), List.forall_mem_cons.mpr ⟨eN (_, _) (by k_mem), List.forall_mem_cons.mpr ⟨eN (62, tabObj _) (by k_mem), fun p hp => eN p ?_⟩⟩⟩); (repeat (refine List.mem_cons_of_mem _ ?_)); exact hp)

set_option maxHeartbeats 16000000 in
theorem i2d6 {w : World} {p : Program} {loose : List Str} {mean : ExcName → Option Value} {mg mb : Str → Option Value} {news : List (Addr × Obj)} {t1 t2 : Tok} (hn1 : ∀ p ∈ news, p.1 ≠ 62) (hn2 : ∀ p ∈ news, p.1 ≠ 69) :
    SpecN w p loose mean mg mb 12 200 (.ref 67) [.int 84 t1, .int 3 t2] [] news (fun r news' => ∃ (D : Addr) (n : Nat) (t0 t1 t2 : Tok) (ps : Array Value), r = .ref D ∧ news' = (D, W.listOf #[.int 4 t0, .int 2 t1, .int 1 t2] n) :: (69, tabObj #[]) :: (62, tabObj ps) :: news ∧ @LT.lt Nat _ 69 D ∧ ∀ p ∈ (62, tabObj ps) :: news, p.1 < D) := by
  intro dp un gd cn cs a ccd cl outer A₀ base h₀ L m s Q E C1 C2 B F X N T hk hd hu hret
  revert X; k_fill; intro X
  refine wpAny_call ?_
  k_dflt ((first | (refine' code_def (by k_asm) (by k_asm) (by k_asm) (by k_asm) (by k_asm) rfl rfl (by assumption) (by k_is) (by k_is) (by ktr_room) (by first | exact BindsTo.of_eq rfl | exact binds_K (by k_in) rfl (by k_is) rfl rfl rfl) (by exact locs rfl) ?_ (by exact rfl) (by exact rfl) (by exact rfl) (by decide); k_whole; intro _ _ _ _ _ _ yB _ _; (try dsimp only); (try k_lift yB)) | (refine' code_defC (by k_asm) (by k_asm) (by k_asm) (by k_asm) (by k_asm) rfl rfl (by assumption) (by k_is) (by k_is) (by ktr_room) (by first | exact BindsTo.of_eq rfl | exact binds_K (by k_in) rfl (by k_is) rfl rfl rfl) (by exact rfl) (by decide +kernel) ?_ (by exact rfl) (by exact rfl) (by exact rfl); k_whole; intro _ _ _ _ _ _ _ yN yY yB _ _ yl; (try k_lt yl); k_cells yY; (try simp only [List.cons_append, List.nil_append] at yN); (try dsimp only); (try k_lift yB))); (try k_fold))
  (k_steps <;> repeat' ((first | (refine hltI ?_; (with_reducible show wpAny _ _ (call (Value.builtin "len") _ _) _ _ _); k_dflt (first | refine lenL 2 (by k_asm) (by k_mem) rfl rfl rfl (by decide) ?_ | refine lenL 3 (by k_asm) (by k_mem) rfl rfl rfl (by decide) ?_); (try dsimp only [Int.cast_ofNat_Int])) | (refine hltI ?_; (with_reducible show wpAny _ _ (call (Value.builtin "int.bit_length") _ _) _ _ _); first | refine blen 0 (by decide +kernel) ?_ | refine blen 1 (by decide +kernel) ?_ | refine blen 2 (by decide +kernel) ?_ | refine blen 3 (by decide +kernel) ?_ | refine blen 4 (by decide +kernel) ?_ | refine blen 5 (by decide +kernel) ?_ | refine blen 6 (by decide +kernel) ?_ | refine blen 7 (by decide +kernel) ?_ | refine blen _ rfl ?_; intro _; (try dsimp only [Int.cast_ofNat_Int]))); k_steps))
  all_goals (rename News _ _ _ _ => eN; refine hret _ _ _ _ ⟨_, _, _, _, _, _, rfl, rfl, (by omega), List.forall_mem_cons.mpr ⟨(by show @LT.lt Nat _ 62 _; omega), fun p hp => allLt_mem (by assumption) p hp⟩⟩ (by k_asm) (List.forall_mem_cons.mpr ⟨eN (_, _) (by k_mem), List.forall_mem_cons.mpr ⟨eN (_, _) (by k_mem), List.forall_mem_cons.mpr ⟨eN (62, tabObj _) (by k_mem), fun p hp => eN p ?_⟩⟩⟩); (repeat (refine List.mem_cons_of_mem _ ?_)); exact hp)

section
theorem wtDV : True := by
  w_top off
  trivial

local macro_rules | `(tactic| walk_at "call builtin:divmod") => `(tactic| (k_here; refine hlt ?_))

theorem divT {prog : Program} {w : World} {A : Around} {E : Value → Shared → Prop} {s : Shared} {a b : Int} {t u : Tok} {Q : Value → Shared → Prop} {h₀ : Heap} {L : Addr} {m : Str → Option Value} {news : List (Addr × Obj)} (F : Fr h₀ L s.heap m) (N : News h₀ L s.heap news) (hb : b ≠ 0) (hp : Builtin.divisionGoesByPylong a b = false)
    (h : ∀ (T : Addr) h' (t t' : Tok), Fr h₀ L h' m → News h₀ L h' ((T, { cls := .type "tuple", data := .seq #[.int (a.fdiv b) t, .int (a.fmod b) t'] }) :: news) → (∀ p ∈ news, p.1 < T) → Q (.ref T) { s with toks := s.toks + 1 + 1, heap := h' }) :
    wpAny (model prog w) A (call (.builtin "divmod") [.int a t, .int b u]) Q E s :=
  divmod_N F N hb (fun h' F' N' => h _ h' _ _ F' N' fun p hp => Heap.lt_size (N p hp).1) (.inl hp)
set_option maxHeartbeats 16000000 in
theorem d2n {w : World} {p : Program} {loose : List Str} {mean : ExcName → Option Value} {mg mb : Str → Option Value} {news : List (Addr × Obj)} {t1 t2 t3 : Tok} {x y : Int} (h10 : Builtin.Int.intBits x ≤ 10) (hy : 0 < y) (hpl : Builtin.divisionGoesByPylong x y = false) :
    Spec w p loose mean mg mb 5 100 (.ref 53) [.int x t1, .int y t2, .int 3 t3] [] news (fun r news' => ∃ (T : Addr) (t t' : Tok), r = .ref T ∧ news' = (T, { cls := .type "tuple", data := .seq #[.int (x.fdiv y) t, .int (x.fmod y) t'] }) :: news ∧ ∀ p ∈ news, p.1 < T) := by
  intro dp un gd cn cs a ccd cl outer A₀ base h₀ L m s Q E B F X N T hk hd hu hret
  revert X; k_fill; intro X
  refine wpAny_call ?_
  k_dflt ((first | (refine' code_def (by k_asm) (by k_asm) (by k_asm) (by k_asm) (by k_asm) rfl rfl (by assumption) (by k_is) (by k_is) (by ktr_room) (by first | exact BindsTo.of_eq rfl | exact binds_K (by k_in) rfl (by k_is) rfl rfl rfl) (by exact locs rfl) ?_ (by exact rfl) (by exact rfl) (by exact rfl) (by decide); k_whole; intro _ _ _ _ _ _ yB _ _; (try dsimp only); (try k_lift yB)) | (refine' code_defC (by k_asm) (by k_asm) (by k_asm) (by k_asm) (by k_asm) rfl rfl (by assumption) (by k_is) (by k_is) (by ktr_room) (by first | exact BindsTo.of_eq rfl | exact binds_K (by k_in) rfl (by k_is) rfl rfl rfl) (by exact rfl) (by decide +kernel) ?_ (by exact rfl) (by exact rfl) (by exact rfl); k_whole; intro _ _ _ _ _ _ _ yN yY yB _ _ yl; (try k_lt yl); k_cells yY; (try simp only [List.cons_append, List.nil_append] at yN); (try dsimp only); (try k_lift yB))); (try k_fold))
  (k_steps <;> repeat' ((first | (refine hltI ?_; (with_reducible show wpAny _ _ (call (Value.builtin "divmod") _ _) _ _ _); k_dflt (refine divT (by k_asm) (by k_asm) (by omega) (by assumption) ?_); intro _ _ _ _ _ _ _) | (refine hltI ?_; (with_reducible show wpAny _ _ (call (Value.builtin "int.bit_length") _ _) _ _ _); first | refine blen 0 (by decide +kernel) ?_ | refine blen 1 (by decide +kernel) ?_ | refine blen 2 (by decide +kernel) ?_ | refine blen 3 (by decide +kernel) ?_ | refine blen 4 (by decide +kernel) ?_ | refine blen 5 (by decide +kernel) ?_ | refine blen 6 (by decide +kernel) ?_ | refine blen 7 (by decide +kernel) ?_ | refine blen _ rfl ?_; intro _; (try dsimp only [Int.cast_ofNat_Int]))); k_steps))
  all_goals exact hret _ _ _ _ ⟨_, _, _, rfl, rfl, by assumption⟩ (by k_asm) (by k_asm)
end

section

local macro_rules | `(tactic| walk_at "truthy ref") => `(tactic| (k_here; refine hlt ?_))
local macro_rules | `(tactic| walk_at "pyIter ref") => `(tactic| (k_here; refine hlt ?_))
local macro_rules | `(tactic| walk_at "callWith ref") => `(tactic| (k_here; (with_reducible show wpAny _ _ (callWith _ (Value.ref 53) _ _ _) _ _ _); refine hlt ?_))
local macro_rules | `(tactic| walk_at "call ref") => `(tactic| (k_here; refine stopCall [67, 53] (by decide) ?_))
section
theorem wtDM5 : True := by
  w_top off
  trivial


set_option maxHeartbeats 16000000 in
theorem dm5 {w : World} {p : Program} {loose : List Str} {mean : ExcName → Option Value} {mg mb : Str → Option Value} {news : List (Addr × Obj)} {t1 t2 : Tok} (hn1 : ∀ p ∈ news, p.1 ≠ 62) (hn2 : ∀ p ∈ news, p.1 ≠ 69) :
    SpecN w p loose mean mg mb 20 300 (.ref 88) [.int 40 t1, .int 5 t2] [] news (fun r news' => ∃ (T : Addr) (t t' : Tok) (p1 p2 : Array Value), r = .ref T ∧ news' = (T, { cls := .type "tuple", data := .seq #[.int 8 t, .int 0 t'] }) :: (69, tabObj p1) :: (62, tabObj p2) :: news ∧ ∀ p ∈ (69, tabObj p1) :: (62, tabObj p2) :: news, p.1 < T) := by
  intro dp un gd cn cs a ccd cl outer A₀ base h₀ L m s Q E C1 C2 B F X N T hk hd hu hret
  revert X; k_fill; intro X
  refine wpAny_call ?_
  k_dflt ((first | (refine' code_def (by k_asm) (by k_asm) (by k_asm) (by k_asm) (by k_asm) rfl rfl (by assumption) (by k_is) (by k_is) (by ktr_room) (by first | exact BindsTo.of_eq rfl | exact binds_K (by k_in) rfl (by k_is) rfl rfl rfl) (by exact locs rfl) ?_ (by exact rfl) (by exact rfl) (by exact rfl) (by decide); k_whole; intro _ _ _ _ _ _ yB _ _; (try dsimp only); (try k_lift yB)) | (refine' code_defC (by k_asm) (by k_asm) (by k_asm) (by k_asm) (by k_asm) rfl rfl (by assumption) (by k_is) (by k_is) (by ktr_room) (by first | exact BindsTo.of_eq rfl | exact binds_K (by k_in) rfl (by k_is) rfl rfl rfl) (by exact rfl) (by decide +kernel) ?_ (by exact rfl) (by exact rfl) (by exact rfl); k_whole; intro _ _ _ _ _ _ _ yN yY yB _ _ yl; (try k_lt yl); k_cells yY; (try simp only [List.cons_append, List.nil_append] at yN); (try dsimp only); (try k_lift yB))); (try k_fold))
  (k_steps <;> repeat' ((first | (refine hltI ?_; (with_reducible show wpAny _ _ (callWith _ _ _ _ _) _ _ _); k_dflt (refine' callWith_K (by k_asm) (by k_is) ?_)) | (refine hltI ?_; (with_reducible show wpAny _ _ (call (Value.ref _) _ _) _ _ _); k_dflt (refine' useN (S := i2d5 (by k_all) (by k_all)) (k := ?_)); intro _ _ _ _ R9 _ _; obtain ⟨_, _, _, _, _, ei9, ei8, _, al9⟩ := R9; subst ei9; subst ei8; obtain ⟨l62, al8⟩ := List.forall_mem_cons.mp al9; revert al9; intro _; (replace l62 : @LT.lt Nat _ 62 _ := l62); (replace al8 := allLt_of al8); revert l62 al8; intro _ _) | (refine hltI ?_; (with_reducible show wpAny _ _ (call (Value.builtin "int.bit_length") _ _) _ _ _); first | refine blen 0 (by decide +kernel) ?_ | refine blen 1 (by decide +kernel) ?_ | refine blen 2 (by decide +kernel) ?_ | refine blen 3 (by decide +kernel) ?_ | refine blen 4 (by decide +kernel) ?_ | refine blen 5 (by decide +kernel) ?_ | refine blen 6 (by decide +kernel) ?_ | refine blen 7 (by decide +kernel) ?_ | refine blen _ rfl ?_; intro _; (try dsimp only [Int.cast_ofNat_Int]))); k_steps))
  refine hltI ?_
  rename Fr _ _ _ _ => lF'
  rename News _ _ _ _ => lN'
  rename_i D9 nn9 ta9 tb9 ps9 y1 yx y0 y2 hA tA hB l9 hC y3 y4 y4b y5 hD _ I9 hE y6 y7 y8 y8b y9
  have z1 : @Ne Nat I9 l9 := Nat.ne_of_gt y6
  have z2 : @Ne Nat I9 D9 := Nat.ne_of_gt y7
  have z3 : @Ne Nat I9 69 := Nat.ne_of_gt y8
  have z3b : @Ne Nat I9 62 := Nat.ne_of_gt y8b
  have z4 : ∀ p ∈ news, p.1 ≠ I9 := fun p hp => Nat.ne_of_lt (allLt_mem y9 p hp)
  have z5 : ∀ p ∈ news, p.1 ≠ l9 := fun p hp => Nat.ne_of_lt (allLt_mem y5 p hp)
  have z6 : @Ne Nat l9 D9 := Nat.ne_of_gt y3
  have z7 : @Ne Nat l9 69 := Nat.ne_of_gt y4
  with_unfolding_all refine iter_revUnr (vs := [Value.int 0 ta9, Value.int 5 tb9]) (by rfl) lF' lN' (offI_ne (List.forall_mem_cons.mpr ⟨Ne.symm z1, List.forall_mem_cons.mpr ⟨Ne.symm z2, List.forall_mem_cons.mpr ⟨Ne.symm z3, List.forall_mem_cons.mpr ⟨Ne.symm z3b, z4⟩⟩⟩⟩)) (by k_mem) (by rfl) (by rfl) ?_
  clear lF' lN'
  with_unfolding_all show RevRest _ _ _ _ _ _ _ _ _ _ _ _ [Value.int 5 tb9, Value.int 0 ta9] _ _
  (k_steps <;> repeat' ((first | (refine hltI ?_; (with_reducible show wpAny _ _ (callWith _ _ _ _ _) _ _ _); k_dflt (refine' callWith_K (by k_asm) (by k_is) ?_)) | (refine hltI ?_; (with_reducible show wpAny _ _ (call (Value.ref _) _ _) _ _ _); k_dflt (refine' use (S := d2n (by decide +kernel) (by decide +kernel) (by decide +kernel)) (k := ?_)); intro _ _ _ _ R9 _ _; obtain ⟨_, _, _, e9, e8, al9⟩ := R9; subst e9; subst e8; k_lt al9; revert al9; intro _) | (refine hltI ?_; (with_reducible show wpAny _ _ (call (Value.builtin "int.bit_length") _ _) _ _ _); first | refine blen 0 (by decide +kernel) ?_ | refine blen 1 (by decide +kernel) ?_ | refine blen 2 (by decide +kernel) ?_ | refine blen 3 (by decide +kernel) ?_ | refine blen 4 (by decide +kernel) ?_ | refine blen 5 (by decide +kernel) ?_ | refine blen 6 (by decide +kernel) ?_ | refine blen 7 (by decide +kernel) ?_ | refine blen _ rfl ?_; intro _; (try dsimp only [Int.cast_ofNat_Int]))); k_steps))
  rename Fr _ _ _ _ => eF
  rename News _ _ _ _ => eN
  refine UnrEnd.intro eF eN ((l9, _) :: (D9, _) :: (69, tabObj #[]) :: (62, tabObj ps9) :: news) (List.forall_mem_cons.mpr ⟨by k_mem, List.forall_mem_cons.mpr ⟨by k_mem, List.forall_mem_cons.mpr ⟨by k_mem, List.forall_mem_cons.mpr ⟨by k_mem, List.forall_mem_cons.mpr ⟨by k_mem, fun p hp => by (repeat (refine List.mem_cons_of_mem _ ?_)); exact hp⟩⟩⟩⟩⟩) (List.forall_mem_cons.mpr ⟨Ne.symm z1, List.forall_mem_cons.mpr ⟨Ne.symm z2, List.forall_mem_cons.mpr ⟨Ne.symm z3, List.forall_mem_cons.mpr ⟨Ne.symm z3b, z4⟩⟩⟩⟩) ⟨.tail _ (.head _), ?_⟩
  clear eF eN
  (k_steps <;> repeat' ((first | (refine hltI ?_; (with_reducible show wpAny _ _ (callWith _ _ _ _ _) _ _ _); k_dflt (refine' callWith_K (by k_asm) (by k_is) ?_)) | (refine hltI ?_; (with_reducible show wpAny _ _ (call (Value.ref _) _ _) _ _ _); k_dflt (refine' use (S := d2n (by decide +kernel) (by decide +kernel) (by decide +kernel)) (k := ?_)); intro _ _ _ _ R9 _ _; obtain ⟨_, _, _, e9, e8, al9⟩ := R9; subst e9; subst e8; k_lt al9; revert al9; intro _) | (refine hltI ?_; (with_reducible show wpAny _ _ (call (Value.builtin "int.bit_length") _ _) _ _ _); first | refine blen 0 (by decide +kernel) ?_ | refine blen 1 (by decide +kernel) ?_ | refine blen 2 (by decide +kernel) ?_ | refine blen 3 (by decide +kernel) ?_ | refine blen 4 (by decide +kernel) ?_ | refine blen 5 (by decide +kernel) ?_ | refine blen 6 (by decide +kernel) ?_ | refine blen 7 (by decide +kernel) ?_ | refine blen _ rfl ?_; intro _; (try dsimp only [Int.cast_ofNat_Int]))); k_steps))
  rename Fr _ _ _ _ => eF
  rename News _ _ _ _ => eN
  refine UnrEnd.intro eF eN ((l9, _) :: (D9, _) :: (69, tabObj #[]) :: (62, tabObj ps9) :: news) (List.forall_mem_cons.mpr ⟨by k_mem, List.forall_mem_cons.mpr ⟨by k_mem, List.forall_mem_cons.mpr ⟨by k_mem, List.forall_mem_cons.mpr ⟨by k_mem, List.forall_mem_cons.mpr ⟨by k_mem, fun p hp => by (repeat (refine List.mem_cons_of_mem _ ?_)); exact hp⟩⟩⟩⟩⟩) (List.forall_mem_cons.mpr ⟨Ne.symm z1, List.forall_mem_cons.mpr ⟨Ne.symm z2, List.forall_mem_cons.mpr ⟨Ne.symm z3, List.forall_mem_cons.mpr ⟨Ne.symm z3b, z4⟩⟩⟩⟩) ⟨.tail _ (.head _), ?_⟩
  clear eF eN
  (k_steps <;> repeat' ((first | (refine hltI ?_; (with_reducible show wpAny _ _ (callWith _ _ _ _ _) _ _ _); k_dflt (refine' callWith_K (by k_asm) (by k_is) ?_)) | (refine hltI ?_; (with_reducible show wpAny _ _ (call (Value.builtin "len") _ _) _ _ _); k_dflt (first | refine lenL 2 (by k_asm) (by k_mem) rfl rfl rfl (by decide) ?_ | refine lenL 3 (by k_asm) (by k_mem) rfl rfl rfl (by decide) ?_); (try dsimp only [Int.cast_ofNat_Int])) | (refine hltI ?_; (with_reducible show wpAny _ _ (truthy _) _ _ _); k_dflt (refine truthyL (by k_asm) (by k_mem) rfl rfl rfl rfl ?_)) | (refine hltI ?_; (with_reducible show wpAny _ _ (call (Value.builtin "int.bit_length") _ _) _ _ _); first | refine blen 0 (by decide +kernel) ?_ | refine blen 1 (by decide +kernel) ?_ | refine blen 2 (by decide +kernel) ?_ | refine blen 3 (by decide +kernel) ?_ | refine blen 4 (by decide +kernel) ?_ | refine blen 5 (by decide +kernel) ?_ | refine blen 6 (by decide +kernel) ?_ | refine blen 7 (by decide +kernel) ?_ | refine blen _ rfl ?_; intro _; (try dsimp only [Int.cast_ofNat_Int]))); k_steps))
  rename News _ _ _ _ => eN
  refine hret _ ((_, { cls := .type "tuple", data := .seq #[.int 8 _, .int 0 _] }) :: (69, tabObj _) :: (62, tabObj ps9) :: news) _ _ ⟨_, _, _, _, _, rfl, rfl, List.forall_mem_cons.mpr ⟨(by show @LT.lt Nat _ 69 _; omega), List.forall_mem_cons.mpr ⟨(by show @LT.lt Nat _ 62 _; omega), fun p hp => allLt_mem (by assumption) p hp⟩⟩⟩ (by k_asm) (List.forall_mem_cons.mpr ⟨eN (_, _) (.head _), List.forall_mem_cons.mpr ⟨eN (69, tabObj _) (by k_mem), List.forall_mem_cons.mpr ⟨eN (62, tabObj _) (by k_mem), fun p hp => eN p ?_⟩⟩⟩)
  repeat (refine List.mem_cons_of_mem _ ?_)
  exact hp
end

section
theorem wtDM6 : True := by
  w_top off
  trivial


set_option maxHeartbeats 16000000 in
theorem dm6 {w : World} {p : Program} {loose : List Str} {mean : ExcName → Option Value} {mg mb : Str → Option Value} {news : List (Addr × Obj)} {t1 t2 : Tok} (hn1 : ∀ p ∈ news, p.1 ≠ 62) (hn2 : ∀ p ∈ news, p.1 ≠ 69) :
    SpecN w p loose mean mg mb 20 300 (.ref 88) [.int 84 t1, .int 6 t2] [] news (fun r news' => ∃ (T : Addr) (t t' : Tok) (p1 p2 : Array Value), r = .ref T ∧ news' = (T, { cls := .type "tuple", data := .seq #[.int 14 t, .int 0 t'] }) :: (69, tabObj p1) :: (62, tabObj p2) :: news ∧ ∀ p ∈ (69, tabObj p1) :: (62, tabObj p2) :: news, p.1 < T) := by
  intro dp un gd cn cs a ccd cl outer A₀ base h₀ L m s Q E C1 C2 B F X N T hk hd hu hret
  revert X; k_fill; intro X
  refine wpAny_call ?_
  k_dflt ((first | (refine' code_def (by k_asm) (by k_asm) (by k_asm) (by k_asm) (by k_asm) rfl rfl (by assumption) (by k_is) (by k_is) (by ktr_room) (by first | exact BindsTo.of_eq rfl | exact binds_K (by k_in) rfl (by k_is) rfl rfl rfl) (by exact locs rfl) ?_ (by exact rfl) (by exact rfl) (by exact rfl) (by decide); k_whole; intro _ _ _ _ _ _ yB _ _; (try dsimp only); (try k_lift yB)) | (refine' code_defC (by k_asm) (by k_asm) (by k_asm) (by k_asm) (by k_asm) rfl rfl (by assumption) (by k_is) (by k_is) (by ktr_room) (by first | exact BindsTo.of_eq rfl | exact binds_K (by k_in) rfl (by k_is) rfl rfl rfl) (by exact rfl) (by decide +kernel) ?_ (by exact rfl) (by exact rfl) (by exact rfl); k_whole; intro _ _ _ _ _ _ _ yN yY yB _ _ yl; (try k_lt yl); k_cells yY; (try simp only [List.cons_append, List.nil_append] at yN); (try dsimp only); (try k_lift yB))); (try k_fold))
  (k_steps <;> repeat' ((first | (refine hltI ?_; (with_reducible show wpAny _ _ (callWith _ _ _ _ _) _ _ _); k_dflt (refine' callWith_K (by k_asm) (by k_is) ?_)) | (refine hltI ?_; (with_reducible show wpAny _ _ (call (Value.ref _) _ _) _ _ _); k_dflt (refine' useN (S := i2d6 (by k_all) (by k_all)) (k := ?_)); intro _ _ _ _ R9 _ _; obtain ⟨_, _, _, _, _, _, ei9, ei8, _, al9⟩ := R9; subst ei9; subst ei8; obtain ⟨l62, al8⟩ := List.forall_mem_cons.mp al9; revert al9; intro _; (replace l62 : @LT.lt Nat _ 62 _ := l62); (replace al8 := allLt_of al8); revert l62 al8; intro _ _) | (refine hltI ?_; (with_reducible show wpAny _ _ (call (Value.builtin "int.bit_length") _ _) _ _ _); first | refine blen 0 (by decide +kernel) ?_ | refine blen 1 (by decide +kernel) ?_ | refine blen 2 (by decide +kernel) ?_ | refine blen 3 (by decide +kernel) ?_ | refine blen 4 (by decide +kernel) ?_ | refine blen 5 (by decide +kernel) ?_ | refine blen 6 (by decide +kernel) ?_ | refine blen 7 (by decide +kernel) ?_ | refine blen _ rfl ?_; intro _; (try dsimp only [Int.cast_ofNat_Int]))); k_steps))
  refine hltI ?_
  rename Fr _ _ _ _ => lF'
  rename News _ _ _ _ => lN'
  rename_i D9 nn9 ta9 tb9 tc9 ps9 y1 yx y0 y2 hA tA hB l9 hC y3 y4 y4b y5 hD _ I9 hE y6 y7 y8 y8b y9
  have z1 : @Ne Nat I9 l9 := Nat.ne_of_gt y6
  have z2 : @Ne Nat I9 D9 := Nat.ne_of_gt y7
  have z3 : @Ne Nat I9 69 := Nat.ne_of_gt y8
  have z3b : @Ne Nat I9 62 := Nat.ne_of_gt y8b
  have z4 : ∀ p ∈ news, p.1 ≠ I9 := fun p hp => Nat.ne_of_lt (allLt_mem y9 p hp)
  have z5 : ∀ p ∈ news, p.1 ≠ l9 := fun p hp => Nat.ne_of_lt (allLt_mem y5 p hp)
  have z6 : @Ne Nat l9 D9 := Nat.ne_of_gt y3
  have z7 : @Ne Nat l9 69 := Nat.ne_of_gt y4
  with_unfolding_all refine iter_revUnr (vs := [Value.int 4 ta9, Value.int 2 tb9, Value.int 1 tc9]) (by rfl) lF' lN' (offI_ne (List.forall_mem_cons.mpr ⟨Ne.symm z1, List.forall_mem_cons.mpr ⟨Ne.symm z2, List.forall_mem_cons.mpr ⟨Ne.symm z3, List.forall_mem_cons.mpr ⟨Ne.symm z3b, z4⟩⟩⟩⟩)) (by k_mem) (by rfl) (by rfl) ?_
  clear lF' lN'
  with_unfolding_all show RevRest _ _ _ _ _ _ _ _ _ _ _ _ [Value.int 1 tc9, Value.int 2 tb9, Value.int 4 ta9] _ _
  (k_steps <;> repeat' ((first | (refine hltI ?_; (with_reducible show wpAny _ _ (callWith _ _ _ _ _) _ _ _); k_dflt (refine' callWith_K (by k_asm) (by k_is) ?_)) | (refine hltI ?_; (with_reducible show wpAny _ _ (call (Value.ref _) _ _) _ _ _); k_dflt (refine' use (S := d2n (by decide +kernel) (by decide +kernel) (by decide +kernel)) (k := ?_)); intro _ _ _ _ R9 _ _; obtain ⟨_, _, _, e9, e8, al9⟩ := R9; subst e9; subst e8; k_lt al9; revert al9; intro _) | (refine hltI ?_; (with_reducible show wpAny _ _ (call (Value.builtin "int.bit_length") _ _) _ _ _); first | refine blen 0 (by decide +kernel) ?_ | refine blen 1 (by decide +kernel) ?_ | refine blen 2 (by decide +kernel) ?_ | refine blen 3 (by decide +kernel) ?_ | refine blen 4 (by decide +kernel) ?_ | refine blen 5 (by decide +kernel) ?_ | refine blen 6 (by decide +kernel) ?_ | refine blen 7 (by decide +kernel) ?_ | refine blen _ rfl ?_; intro _; (try dsimp only [Int.cast_ofNat_Int]))); k_steps))
  rename Fr _ _ _ _ => eF
  rename News _ _ _ _ => eN
  refine UnrEnd.intro eF eN ((l9, _) :: (D9, _) :: (69, tabObj #[]) :: (62, tabObj ps9) :: news) (List.forall_mem_cons.mpr ⟨by k_mem, List.forall_mem_cons.mpr ⟨by k_mem, List.forall_mem_cons.mpr ⟨by k_mem, List.forall_mem_cons.mpr ⟨by k_mem, List.forall_mem_cons.mpr ⟨by k_mem, fun p hp => by (repeat (refine List.mem_cons_of_mem _ ?_)); exact hp⟩⟩⟩⟩⟩) (List.forall_mem_cons.mpr ⟨Ne.symm z1, List.forall_mem_cons.mpr ⟨Ne.symm z2, List.forall_mem_cons.mpr ⟨Ne.symm z3, List.forall_mem_cons.mpr ⟨Ne.symm z3b, z4⟩⟩⟩⟩) ⟨.tail _ (.head _), ?_⟩
  clear eF eN
  (k_steps <;> repeat' ((first | (refine hltI ?_; (with_reducible show wpAny _ _ (callWith _ _ _ _ _) _ _ _); k_dflt (refine' callWith_K (by k_asm) (by k_is) ?_)) | (refine hltI ?_; (with_reducible show wpAny _ _ (call (Value.ref _) _ _) _ _ _); k_dflt (refine' use (S := d2n (by decide +kernel) (by decide +kernel) (by decide +kernel)) (k := ?_)); intro _ _ _ _ R9 _ _; obtain ⟨_, _, _, e9, e8, al9⟩ := R9; subst e9; subst e8; k_lt al9; revert al9; intro _) | (refine hltI ?_; (with_reducible show wpAny _ _ (call (Value.builtin "int.bit_length") _ _) _ _ _); first | refine blen 0 (by decide +kernel) ?_ | refine blen 1 (by decide +kernel) ?_ | refine blen 2 (by decide +kernel) ?_ | refine blen 3 (by decide +kernel) ?_ | refine blen 4 (by decide +kernel) ?_ | refine blen 5 (by decide +kernel) ?_ | refine blen 6 (by decide +kernel) ?_ | refine blen 7 (by decide +kernel) ?_ | refine blen _ rfl ?_; intro _; (try dsimp only [Int.cast_ofNat_Int]))); k_steps))
  rename Fr _ _ _ _ => eF
  rename News _ _ _ _ => eN
  refine UnrEnd.intro eF eN ((l9, _) :: (D9, _) :: (69, tabObj #[]) :: (62, tabObj ps9) :: news) (List.forall_mem_cons.mpr ⟨by k_mem, List.forall_mem_cons.mpr ⟨by k_mem, List.forall_mem_cons.mpr ⟨by k_mem, List.forall_mem_cons.mpr ⟨by k_mem, List.forall_mem_cons.mpr ⟨by k_mem, fun p hp => by (repeat (refine List.mem_cons_of_mem _ ?_)); exact hp⟩⟩⟩⟩⟩) (List.forall_mem_cons.mpr ⟨Ne.symm z1, List.forall_mem_cons.mpr ⟨Ne.symm z2, List.forall_mem_cons.mpr ⟨Ne.symm z3, List.forall_mem_cons.mpr ⟨Ne.symm z3b, z4⟩⟩⟩⟩) ⟨.tail _ (.head _), ?_⟩
  clear eF eN
  (k_steps <;> repeat' ((first | (refine hltI ?_; (with_reducible show wpAny _ _ (callWith _ _ _ _ _) _ _ _); k_dflt (refine' callWith_K (by k_asm) (by k_is) ?_)) | (refine hltI ?_; (with_reducible show wpAny _ _ (call (Value.ref _) _ _) _ _ _); k_dflt (refine' use (S := d2n (by decide +kernel) (by decide +kernel) (by decide +kernel)) (k := ?_)); intro _ _ _ _ R9 _ _; obtain ⟨_, _, _, e9, e8, al9⟩ := R9; subst e9; subst e8; k_lt al9; revert al9; intro _) | (refine hltI ?_; (with_reducible show wpAny _ _ (call (Value.builtin "int.bit_length") _ _) _ _ _); first | refine blen 0 (by decide +kernel) ?_ | refine blen 1 (by decide +kernel) ?_ | refine blen 2 (by decide +kernel) ?_ | refine blen 3 (by decide +kernel) ?_ | refine blen 4 (by decide +kernel) ?_ | refine blen 5 (by decide +kernel) ?_ | refine blen 6 (by decide +kernel) ?_ | refine blen 7 (by decide +kernel) ?_ | refine blen _ rfl ?_; intro _; (try dsimp only [Int.cast_ofNat_Int]))); k_steps))
  rename Fr _ _ _ _ => eF
  rename News _ _ _ _ => eN
  refine UnrEnd.intro eF eN ((l9, _) :: (D9, _) :: (69, tabObj #[]) :: (62, tabObj ps9) :: news) (List.forall_mem_cons.mpr ⟨by k_mem, List.forall_mem_cons.mpr ⟨by k_mem, List.forall_mem_cons.mpr ⟨by k_mem, List.forall_mem_cons.mpr ⟨by k_mem, List.forall_mem_cons.mpr ⟨by k_mem, fun p hp => by (repeat (refine List.mem_cons_of_mem _ ?_)); exact hp⟩⟩⟩⟩⟩) (List.forall_mem_cons.mpr ⟨Ne.symm z1, List.forall_mem_cons.mpr ⟨Ne.symm z2, List.forall_mem_cons.mpr ⟨Ne.symm z3, List.forall_mem_cons.mpr ⟨Ne.symm z3b, z4⟩⟩⟩⟩) ⟨.tail _ (.head _), ?_⟩
  clear eF eN
  (k_steps <;> repeat' ((first | (refine hltI ?_; (with_reducible show wpAny _ _ (callWith _ _ _ _ _) _ _ _); k_dflt (refine' callWith_K (by k_asm) (by k_is) ?_)) | (refine hltI ?_; (with_reducible show wpAny _ _ (call (Value.builtin "len") _ _) _ _ _); k_dflt (first | refine lenL 2 (by k_asm) (by k_mem) rfl rfl rfl (by decide) ?_ | refine lenL 3 (by k_asm) (by k_mem) rfl rfl rfl (by decide) ?_); (try dsimp only [Int.cast_ofNat_Int])) | (refine hltI ?_; (with_reducible show wpAny _ _ (truthy _) _ _ _); k_dflt (refine truthyL (by k_asm) (by k_mem) rfl rfl rfl rfl ?_)) | (refine hltI ?_; (with_reducible show wpAny _ _ (call (Value.builtin "int.bit_length") _ _) _ _ _); first | refine blen 0 (by decide +kernel) ?_ | refine blen 1 (by decide +kernel) ?_ | refine blen 2 (by decide +kernel) ?_ | refine blen 3 (by decide +kernel) ?_ | refine blen 4 (by decide +kernel) ?_ | refine blen 5 (by decide +kernel) ?_ | refine blen 6 (by decide +kernel) ?_ | refine blen 7 (by decide +kernel) ?_ | refine blen _ rfl ?_; intro _; (try dsimp only [Int.cast_ofNat_Int]))); k_steps))
  rename News _ _ _ _ => eN
  refine hret _ ((_, { cls := .type "tuple", data := .seq #[.int 14 _, .int 0 _] }) :: (69, tabObj _) :: (62, tabObj ps9) :: news) _ _ ⟨_, _, _, _, _, rfl, rfl, List.forall_mem_cons.mpr ⟨(by show @LT.lt Nat _ 69 _; omega), List.forall_mem_cons.mpr ⟨(by show @LT.lt Nat _ 62 _; omega), fun p hp => allLt_mem (by assumption) p hp⟩⟩⟩ (by k_asm) (List.forall_mem_cons.mpr ⟨eN (_, _) (.head _), List.forall_mem_cons.mpr ⟨eN (69, tabObj _) (by k_mem), List.forall_mem_cons.mpr ⟨eN (62, tabObj _) (by k_mem), fun p hp => eN p ?_⟩⟩⟩)
  repeat (refine List.mem_cons_of_mem _ ?_)
  exact hp
end

end

end

section
theorem wtC12 : True := by
  w_top off
  trivial
open LCt LCg LCp


theorem len_list_any {prog : Program} {w : World} {A : Around} {E : Value → Shared → Prop} {s : Shared} {h₀ : Heap} {L l : Addr} {news : List (Addr × Obj)} {vs : List Value} {ep : Nat} {Q : Value → Shared → Prop} (N : News h₀ L s.heap news) (hl : (l, listOf vs.toArray ep) ∈ news) (hlen : vs.length ≤ 1000)
    (h : Q (.int (vs.length : Int) (s.toks + 1)) { s with toks := s.toks + 1 + 1 }) : wpAny (model prog w) A (call (.builtin "len") [.ref l]) Q E s := by
  have hs : vs.toArray.size = vs.length := by simp
  refine PySem.Calls.call_len_list (items := vs.toArray) ⟨_, (N _ hl).1, rfl, ep, rfl⟩ (by rw [hs]; omega) ?_
  rw [hs]; exact h

local macro_rules | `(tactic| walk_at "call builtin:len") => `(tactic| (k_dflt (refine len_list_any (by k_asm) (by assumption) (by assumption) ?_)))
set_option maxHeartbeats 4000000 in
theorem len_spec {w : World} {p : Program} {loose : List Str} {mean : ExcName → Option Value} {mg mb : Str → Option Value} {news : List (Addr × Obj)} {x dx l : Addr} {hsh : Int} {kt : Tok} {kk ep : Nat} {vs : List Value}
    (hx : (x, instObj 262 dx) ∈ news) (hdx : (dx, dictOf [⟨hsh, .str (Str.ofString "_headers") kt, .ref l⟩] kk) ∈ news) (hl : (l, listOf vs.toArray ep) ∈ news) (hlen : vs.length ≤ 1000) :
    Spec w p loose mean mg mb 6 100 (.ref 168) [.ref x] [] news (fun r news' => (∃ t, r = .int (vs.length : Int) t) ∧ news' = news) := by
  intro dp un gd cn cs a ccd cl outer A₀ base h₀ L m s Q E B F X N T hk hd hu hret
  revert X; k_fill; intro X
  refine wpAny_call ?_
  k_dflt ((first | (refine' code_def (by k_asm) (by k_asm) (by k_asm) (by k_asm) (by k_asm) rfl rfl (by assumption) (by k_is) (by k_is) (by ktr_room) (by first | exact BindsTo.of_eq rfl | exact binds_K (by k_in) rfl (by k_is) rfl rfl rfl) (by exact locs rfl) ?_ (by exact rfl) (by exact rfl) (by exact rfl) (by decide); k_whole; intro _ _ _ _ _ _ yB _ _; (try dsimp only); (try k_lift yB)) | (refine' code_defC (by k_asm) (by k_asm) (by k_asm) (by k_asm) (by k_asm) rfl rfl (by assumption) (by k_is) (by k_is) (by ktr_room) (by first | exact BindsTo.of_eq rfl | exact binds_K (by k_in) rfl (by k_is) rfl rfl rfl) (by exact rfl) (by decide +kernel) ?_ (by exact rfl) (by exact rfl) (by exact rfl); k_whole; intro _ _ _ _ _ _ _ yN yY yB _ _ yl; (try k_lt yl); k_cells yY; (try simp only [List.cons_append, List.nil_append] at yN); (try dsimp only); (try k_lift yB))); (try k_fold))
  k_steps
  all_goals exact hret _ _ _ _ ⟨⟨_, rfl⟩, rfl⟩ (by k_asm) (by k_asm)
end

section
theorem wtCO : True := by
  w_top off
  trivial
open LCt LCg LCp


noncomputable def comL (t z : Int) (n : Nat) : List Int := ((List.range n).map fun j => (1 : Int) + (j : Nat)).filter fun k => decide (Int.fmod t k = 0) && decide (Int.fmod z k = 0)
theorem comL_succ (t z : Int) (n : Nat) : comL t z (n + 1) = comL t z n ++ if Int.fmod t (1 + (n : Nat)) = 0 ∧ Int.fmod z (1 + (n : Nat)) = 0 then [(1 : Int) + (n : Nat)] else [] := by
  unfold comL
  rw [List.range_succ, List.map_append, List.filter_append]
  congr 1
  by_cases h1 : Int.fmod t (1 + (n : Nat)) = 0 <;> by_cases h2 : Int.fmod z (1 + (n : Nat)) = 0 <;> simp [h1, h2]
theorem com_plain : ∀ z ∈ ([5, 6] : List Nat), ∀ t ∈ List.range 7, 1 ≤ t → t ≤ z → ∀ M ∈ comL (t : Int) (z : Int) z, (∀ a ∈ comL (t : Int) (z : Int) z, a ≤ M) → M = ((Nat.gcd t z : Nat) : Int) := by decide +kernel
theorem com_len : ∀ z ∈ ([5, 6] : List Nat), ∀ t ∈ List.range 7, 1 ≤ t → t ≤ z → 0 < (comL (t : Int) (z : Int) z).length := by decide +kernel
local macro_rules | `(tactic| walk_at "eval ListComp") => `(tactic| (k_here; refine stp9 ?_))
local macro_rules | `(tactic| walk_at "zz1") => `(tactic| skip)
set_option maxHeartbeats 4000000 in
theorem com_spec {w : World} {p : Program} {loose : List Str} {mean : ExcName → Option Value} {mg mb : Str → Option Value} {news : List (Addr × Obj)} {t1 t2 : Tok} {t z : Nat} (hz : z = 5 ∨ z = 6) (ht1 : 1 ≤ t) (ht2 : t ≤ z) :
    Spec w p loose mean mg mb 5 150 (.ref 290) [.int (t : Int) t1, .int (z : Int) t2] [] news (fun r news' => (∃ t', r = .int ((Nat.gcd t z : Nat) : Int) t') ∧ news' = news) := by
  intro dp un gd cn cs a ccd cl outer A₀ base h₀ L m s Q E B F X N T hk hd hu hret
  revert X; k_fill; intro X
  have hzm : z ∈ ([5, 6] : List Nat) := by rcases hz with rfl | rfl <;> decide
  have htm : t ∈ List.range 7 := List.mem_range.mpr (by omega)
  have hlen := com_len z hzm t htm ht1 ht2
  have hpl := com_plain z hzm t htm ht1 ht2
  refine wpAny_call ?_
  k_dflt ((first | (refine' code_def (by k_asm) (by k_asm) (by k_asm) (by k_asm) (by k_asm) rfl rfl (by assumption) (by k_is) (by k_is) (by ktr_room) (by first | exact BindsTo.of_eq rfl | exact binds_K (by k_in) rfl (by k_is) rfl rfl rfl) (by exact locs rfl) ?_ (by exact rfl) (by exact rfl) (by exact rfl) (by decide); k_whole; intro _ _ _ _ _ _ yB _ _; (try dsimp only); (try k_lift yB)) | (refine' code_defC (by k_asm) (by k_asm) (by k_asm) (by k_asm) (by k_asm) rfl rfl (by assumption) (by k_is) (by k_is) (by ktr_room) (by first | exact BindsTo.of_eq rfl | exact binds_K (by k_in) rfl (by k_is) rfl rfl rfl) (by exact rfl) (by decide +kernel) ?_ (by exact rfl) (by exact rfl) (by exact rfl); k_whole; intro _ _ _ _ _ _ _ yN yY yB _ _ yl; (try k_lt yl); k_cells yY; (try simp only [List.cons_append, List.nil_append] at yN); (try dsimp only); (try k_lift yB))); (try k_fold))
  k_steps
  refine stp9I ?_
  refine ListComp_T (F₀ := by k_asm) (by with_unfolding_all rfl) (by decide) (by rfl) (by decide) (by rfl) (stp9Q ?_)
  k_steps
  refine stp9I ?_
  rename Fr _ _ _ _ => lF
  rename News _ _ _ _ => lN
  rename IsRange _ _ _ _ _ _ _ _ => hR
  refine CompSrcT.range (n := z) (by rfl) lF lN hR (small_one (by omega) (by omega) (by omega) (by omega)) (by unfold Builtin.Range.rangeSize; rw [if_pos (by decide)]; split <;> omega) (by rw [sizeLine_eq]; omega) (fun g => ?_)
  refine restTc (fun j zs => IntsAre zs (comL t z j)) .nil trivial ?_ ?_
  · intro zs hJ D h tk F' N' ho
    clear lF lN hR
    k_steps
    rename _ ∈ comL _ _ _ => a9
    rename ∀ a, a ∈ comL _ _ _ → _ => b9
    have e9 := hpl _ a9 b9
    subst e9
    rename News _ _ _ _ => eN
    exact hret _ _ _ _ ⟨⟨_, rfl⟩, rfl⟩ (by k_asm) (fun p hp => eN p (by (repeat (refine List.mem_cons_of_mem _ ?_)); exact hp))
  · intro i zs v I oI C oC D m₂ h tk E' hi9 hJ hP hns hx₁ ho h1 h2 h3 F' N'
    clear lF lN hR
    (have zq := hP; (try clear hP); refine ex1 zq ?_; clear zq; intro tv zr; subst zr)
    k_steps
    · rename Fr _ _ _ _ => eF
      rename News _ _ _ _ => eN
      refine CEnd.intro _ eF eN (fun p hp => hp) ho ⟨rfl, ?_⟩
      rw [comL_succ, if_pos ⟨by assumption, by assumption⟩]
      exact hJ.append (.cons _ _ .nil)
    · rename Fr _ _ _ _ => eF
      rename News _ _ _ _ => eN
      refine CEnd.intro _ eF eN (fun p hp => hp) ho ⟨rfl, ?_⟩
      rw [comL_succ, if_neg (fun h9 => by have := h9.2; contradiction), List.append_nil]
      exact hJ
    · rename Fr _ _ _ _ => eF
      rename News _ _ _ _ => eN
      refine CEnd.intro _ eF eN (fun p hp => hp) ho ⟨rfl, ?_⟩
      rw [comL_succ, if_neg (fun h9 => by have := h9.1; contradiction), List.append_nil]
      exact hJ
end

section
theorem wtCLP : True := by
  w_top off
  trivial
theorem collapseG {h₀ h : Heap} {L : Addr} {a1 a2 a3 : Addr} {o1 o2 o3 : Obj} {v1 v2 v3 : Option Value} {k1 k2 k3 : Addr × Obj} {all X : List (Addr × Obj)} (N : News h₀ L h all)
    (hk : ∀ p ∈ [k1, k2, k3, (a1, o1), (a2, o2), (a3, o3), (69, tabObj #[]), (62, tabObj #[])], p ∈ all) (hX : ∀ p ∈ X, p ∈ all) (hc : ∀ p ∈ X, p.2.cls ≠ .none ∧ ∀ v, p.2.data ≠ .cell v)
    (h1 : o1.data = .cell v1) (h2 : o2.data = .cell v2) (h3 : o3.data = .cell v3) :
    News h₀ L h (k1 :: k2 :: k3 :: (a1, o1) :: (a2, o2) :: (a3, o3) :: (69, tabObj #[]) :: (62, tabObj #[]) :: X) ∧ (∀ p ∈ X, p.1 ≠ a1) ∧ (∀ p ∈ X, p.1 ≠ a2) ∧ (∀ p ∈ X, p.1 ≠ a3) ∧ (∀ p ∈ X, p.1 ≠ 69) ∧ (∀ p ∈ X, p.1 ≠ 62) := by
  have gX : ∀ p ∈ X, h.get? p.1 = some p.2 := fun p hp => (N p (hX p hp)).1
  have NA : News h₀ L h ([k1, k2, k3, (a1, o1), (a2, o2), (a3, o3), (69, tabObj #[]), (62, tabObj #[])] ++ X) := two_all (fun p hp => N p (hk p hp)) (fun p hp => N p (hX p hp))
  have cell : ∀ {a : Addr} {o : Obj} {v : Option Value}, (a, o) ∈ all → o.data = .cell v → ∀ p ∈ X, p.1 ≠ a := fun ca h1 p hp => neq9 (oa := p.2) N (hX p hp) ca (by rw [h1]; exact (hc p hp).2 _)
  have cls : ∀ {a : Addr}, (a, tabObj #[]) ∈ all → ∀ p ∈ X, p.1 ≠ a := fun ca p hp => neqC (gX p hp) (N _ ca).1 (hc p hp).1
  exact ⟨NA, cell (hk (a1, o1) (.tail _ (.tail _ (.tail _ (.head _))))) h1, cell (hk (a2, o2) (.tail _ (.tail _ (.tail _ (.tail _ (.head _)))))) h2, cell (hk (a3, o3) (.tail _ (.tail _ (.tail _ (.tail _ (.tail _ (.head _))))))) h3, cls (hk _ (.tail _ (.tail _ (.tail _ (.tail _ (.tail _ (.tail _ (.head _)))))))), cls (hk _ (.tail _ (.tail _ (.tail _ (.tail _ (.tail _ (.tail _ (.tail _ (.head _)))))))))⟩
theorem collapse2 {h₀ h : Heap} {L : Addr} {a1 a2 a3 : Addr} {o1 o2 o3 : Obj} {v1 v2 v3 : Option Value} {d j0 j1 j2 j3 k1 k2 k3 : Addr × Obj} {us ts : List (Addr × Obj)}
    (N : News h₀ L h (d :: (us ++ (j0 :: j1 :: j2 :: j3 :: k1 :: k2 :: k3 :: (a1, o1) :: (a2, o2) :: (a3, o3) :: (69, tabObj #[]) :: (62, tabObj #[]) :: ts))))
    (hd : d.2.cls ≠ .none ∧ ∀ v, d.2.data ≠ .cell v) (hc : ∀ p ∈ us, p.2.cls ≠ .none ∧ ∀ v, p.2.data ≠ .cell v)
    (h1 : o1.data = .cell v1) (h2 : o2.data = .cell v2) (h3 : o3.data = .cell v3) :
    ∃ X, News h₀ L h (k1 :: k2 :: k3 :: (a1, o1) :: (a2, o2) :: (a3, o3) :: (69, tabObj #[]) :: (62, tabObj #[]) :: X) ∧ (∀ p ∈ X, p.1 ≠ a1) ∧ (∀ p ∈ X, p.1 ≠ a2) ∧ (∀ p ∈ X, p.1 ≠ a3) ∧ (∀ p ∈ X, p.1 ≠ 69) ∧ (∀ p ∈ X, p.1 ≠ 62) ∧ d ∈ X ∧ (∀ p ∈ us, p ∈ X) := by
  obtain ⟨r1, r2, r3, r4, r5, r6⟩ := collapseG (k1 := k1) (k2 := k2) (k3 := k3) (X := d :: us) N
    (fun p hp => .tail _ (List.mem_append_right _ (.tail _ (.tail _ (.tail _ (.tail _ (List.mem_append_left ts hp)))))))
    (fun p hp => by rcases List.mem_cons.mp hp with rfl | hp; exact .head _; exact .tail _ (List.mem_append_left _ hp))
    (List.forall_mem_cons.mpr ⟨hd, hc⟩) h1 h2 h3
  exact ⟨d :: us, r1, r2, r3, r4, r5, r6, .head _, fun p hp => .tail _ hp⟩
theorem drop23 {h₀ h : Heap} {L : Addr} {a b c : Addr × Obj} {r : List (Addr × Obj)} (N : News h₀ L h (a :: b :: c :: r)) : News h₀ L h (a :: r) := fun p hp => by
  rcases List.mem_cons.mp hp with rfl | hp
  · exact N _ (.head _)
  · exact N _ (.tail _ (.tail _ (.tail _ hp)))
theorem orb_lt {z : Nat} {xs : List Int} {per : Nat → Nat} (hf : PermOn (nxt z xs) (2 ^ z)) (hp : PerOk (nxt z xs) (2 ^ z) per) : ∀ r ∈ (runR (nxt z xs) per (2 ^ z)).2, ∀ s ∈ r, s < 2 ^ z := by
  intro r hr s hs
  obtain ⟨i, _, hi, rfl⟩ := (runOk hf hp (2 ^ z) (Nat.le_refl _)).orb r hr
  obtain ⟨j, _, rfl⟩ := mem_orbit.mp hs
  exact itr_ltP hf hi j
/-- the rings' texts, read one by one -/
theorem ring_at {z : Nat} {xs : List Int} {per : Nat → Nat} {ys : List Value} {i : Nat} {v : Value} (hf : PermOn (nxt z xs) (2 ^ z)) (hp : PerOk (nxt z xs) (2 ^ z) per)
    (hok : ∀ row ∈ rowsOf z xs per, RowOk row) (h : TxAll ys (((runR (nxt z xs) per (2 ^ z)).2.map (fun r => (Str.ofString "ring", txt z r))).map (·.2))) (hv : ys[i]? = some v) :
    ∃ (r : List Nat) (t : Tok), v = .str (txt z r) t ∧ (∀ s ∈ r, s < 2 ^ z) ∧ r.length ≤ 64 ∧ (rowsOf z xs per)[i]? = some (r.map (cs z)) := by
  obtain ⟨x, t, rfl, hx⟩ := h.get hv
  rw [List.map_map, List.getElem?_map, Option.map_eq_some_iff] at hx
  obtain ⟨r, hr, rfl⟩ := hx
  have hrow : (rowsOf z xs per)[i]? = some (r.map (cs z)) := by unfold rowsOf; rw [List.getElem?_map, hr]; rfl
  have hk := hok _ (List.mem_of_getElem? hrow)
  have hl := hk.len
  rw [List.length_map] at hl
  exact ⟨r, t, rfl, orb_lt hf hp r (List.mem_of_getElem? hr), hl, hrow⟩
theorem ring_len {z : Nat} {xs : List Int} {per : Nat → Nat} {ys : List Value} (h : TxAll ys (((runR (nxt z xs) per (2 ^ z)).2.map (fun r => (Str.ofString "ring", txt z r))).map (·.2))) : ys.length = (rowsOf z xs per).length := by
  rw [h.length]; unfold rowsOf; simp
end
section
theorem wtLaw : True := by
  w_top off
  trivial
local macro_rules | `(tactic| walk_at "subscriptTail List cons Slice ref ref") => `(tactic| (k_here; refine hlt ?_))
local macro_rules | `(tactic| walk_at "binaryOp Add ref ref") => `(tactic| (k_here; refine hlt ?_))
local macro_rules | `(tactic| walk_at "eval ListComp") => `(tactic| (k_here; refine hlt ?_))
local macro_rules | `(tactic| walk_at "call ref") => `(tactic| (k_here; refine stopCall [161, 209, 285, 273, 219, 116, 295, 290, 46] (by decide) ?_))
section
open LCt LCg LCp



local macro_rules | `(tactic| walk_at "callWith ref") => `(tactic| (k_dflt (first | (refine' callWith_K (by k_asm) (by k_is) ?_; k_whole) | (refine' callWith_K0 (by k_in) (by k_is) ?_; k_whole))))
local macro_rules | `(tactic| walk_at "exec Assign cons ListComp") => `(tactic| (k_dflt (refine Assign_ListComp_U (F₀ := by k_asm) (by rfl) (by with_unfolding_all rfl) (by with_unfolding_all rfl) (by decide) (by rfl) (by decide) (by rfl) (by rfl) (by rfl) (hltQ ?_))))

local macro_rules | `(tactic| walk_at "getItem ref int") => `(tactic| (k_dflt (refine' getItem_tab PyProof.V.same_int (intKind_is _ _ _ _) (by k_tabat) (by first | with_reducible assumption | rfl) ?_; k_whole); intro _ hvg'; dict_open hvg'))
local macro_rules | `(tactic| walk_at "subscriptTail Name Call ref int") => `(tactic| (k_dflt (refine' tab_tail (knd := PySem.intKind _ _) (enc := PyData.int) (by k_tabat) ?_; k_whole)))
local macro_rules | `(tactic| walk_at "compareOp NotEq ref ref") => `(tactic| (k_dflt (refine' ne_intsK (by kmk_list) (by exact IntsAre.nil) (by kmk_list) (by exact IntsAre.nil) (by k_units) ?_)))
local macro_rules | `(tactic| walk_at "call builtin:len") => `(tactic| (k_here; (with_reducible show wpAny _ _ (call (Value.builtin "len") [Value.ref _]) _ _ _); (rename RowAll _ _ _ => qq9); refine hlt ?_))
local macro_rules | `(tactic| walk_at "call builtin:len") => `(tactic| (k_dflt (refine' len_list_any (by k_asm) (by walk_at "zM") (by omega) ?_)))
local macro_rules | `(tactic| walk_at "call ref") => `(tactic| (k_here; (with_reducible show wpAny _ _ (call (Value.ref 88) _ _) _ _ _); refine hlt ?_))

local macro_rules | `(tactic| walk_at "getMethod ref") => `(tactic| ((with_reducible show wpAny _ _ (getMethod (Value.ref _) (Str.ofString "count") _) _ _ _); (refine getMethod_list_of PySem.F.slot_list_count PySem.F.type_list_count (by with_reducible assumption) (by with_reducible assumption) ?_)))
local macro_rules | `(tactic| walk_at "call builtin:list.count") => `(tactic| ((with_reducible show wpAny _ _ (call (Value.builtin _) [Value.ref _, Value.int _ _]) _ _ _); (refine count_list_ints (by with_reducible assumption) (by with_reducible assumption) ?_)))
local macro_rules | `(tactic| walk_at "binaryOp Mod int int") => `(tactic| (k_here; (with_reducible show wpAny _ _ (binaryOp _ (Value.int (_ + _) _) _) _ _ _); refine hlt ?_))
local macro_rules | `(tactic| walk_at "call builtin:sum") => `(tactic| (k_here; refine hlt ?_))

theorem modz {prog : Program} {w : World} {A : Around} {E : Value → Shared → Prop} {s : Shared} {Q : Value → Shared → Prop} {a : Int} {t u : Tok} (h : a.fmod 2 = 0) (k : Q (.int 0 s.toks) { s with toks := s.toks + 1 }) : wpAny (model prog w) A (binaryOp .Mod (.int a t) (.int 2 u)) Q E s :=
  mod_int (by decide) (h ▸ k)
theorem none_raised9 {args : List WData} : ∀ ct : ExcName × WTm, ct ∈ PySem.Challenge.rw_to0077_01.row.raises → WTm.holds PySem.Challenge.rw_to0077_01.row.records ct.snd { args := args } = false := by
  wrow_none_raised
theorem post_true9 (ks : List Int) : PySem.Challenge.rw_to0077_01.row.claim.post [ofPy (PyData.list (ks.map PyData.int))] (WData.bool true) [ofPy (PyData.list (ks.map PyData.int))] = true := by
  wrow_post
theorem sum_cast (l : List (List Int)) : (l.map (fun row => ((List.countP (fun x => x == 2) row : Nat) : Int))).sum = (((l.map (fun row => List.countP (fun x => x == 2) row)).sum : Nat) : Int) := by
  induction l with
  | nil => rfl
  | cons a l ih => rw [List.map_cons, List.sum_cons, ih, List.map_cons, List.sum_cons]; omega
theorem sum_eq {l : List (List Int)} {k n : Nat} (hk : k = l.length) (hs : (l.map (fun row => row.countP (· == 2))).sum = n) : ((n : Int) == (List.take k (List.map (fun row => ((List.countP (fun x => x == 2) row : Nat) : Int)) l)).sum) = true := by
  subst hk
  rw [List.take_of_length_le (by rw [List.length_map]; exact Nat.le_refl _), sum_cast, hs]
  exact beq_self_eq_true _
theorem nd_news {h₀ h : Heap} {L a : Addr} {its : Array Value} {n : Nat} {news : List (Addr × Obj)} (N : News h₀ L h news) (hm : (a, listOf its n) ∈ news) : h.NoDictAt (.ref a) := ⟨_, N.get hm, rfl⟩

theorem fmod_all (l : List Int) : ∀ k ∈ l.map (fun k => Int.fmod k 1000), 0 ≤ k ∧ k < 1000 := by
  intro k hk
  (have zq := List.mem_map.mp hk; refine ex1 zq ?_; clear zq; intro a zr; refine an2 zr ?_; clear zr; intro _ ze1; subst ze1)
  exact ⟨Int.fmod_nonneg_of_pos _ (by decide), Int.fmod_lt_of_pos _ (by decide)⟩
theorem draws_of {zs : List Value} {w : List Int} (h : IntsAre zs (List.take 10 w ++ List.drop w.length ([5, 21, 10] : List Int))) : ∃ ds : List Int, IntsAre zs ds ∧ ds.length ≤ 10 :=
  ⟨_, h, by simp only [List.length_append, List.length_take, List.length_drop, List.length_cons, List.length_nil]; omega⟩
theorem ltS {P : Nat → Prop} {n : Nat} (h : ∀ i, i < n → P i) (hn : P n) (i : Nat) (hi : i < n + 1) : P i := by
  rcases Nat.lt_succ_iff_lt_or_eq.mp hi with h1 | h1
  · exact h i h1
  · rw [h1]; exact hn
theorem lt5 {P : Nat → Prop} (h0 : P 0) (h1 : P 1) (h2 : P 2) (h3 : P 3) (h4 : P 4) : ∀ i, i < 5 → P i := ltS (ltS (ltS (ltS (ltS (fun i h => absurd h (Nat.not_lt_zero i)) h0) h1) h2) h3) h4
theorem lt6 {P : Nat → Prop} (h0 : P 0) (h1 : P 1) (h2 : P 2) (h3 : P 3) (h4 : P 4) (h5 : P 5) : ∀ i, i < 6 → P i := ltS (lt5 h0 h1 h2 h3 h4) h5
structure SizeD (z : Nat) (S : Str) : Prop where
  cas : (z = 5 ∧ S = S5) ∨ (z = 6 ∧ S = S6)
theorem SizeD.by {P : Nat → Str → Prop} {z : Nat} {S : Str} (D : SizeD z S) (h5 : P 5 S5) (h6 : P 6 S6) : P z S := by
  rcases D.cas with ⟨rfl, rfl⟩ | ⟨rfl, rfl⟩ <;> assumption
theorem d5 : SizeD 5 S5 := ⟨.inl ⟨rfl, rfl⟩⟩
theorem d6 : SizeD 6 S6 := ⟨.inr ⟨rfl, rfl⟩⟩
structure Box (P : Prop) : Prop where
  out : P
theorem joinKey {T G : Prop} (m : Box T → G) (p : T) : G := m ⟨p⟩
noncomputable def costs (z : Nat) : List Int := (List.range z).map (fun i => (2 : Int) ^ Nat.gcd (i + 1) z)
noncomputable def datZ (z : Nat) : List (Int × Int) := if z = 5 then [(1, 2), (2, 4), (3, 8), (5, 32)] else [(1, 2), (2, 4), (3, 8), (6, 64)]
noncomputable def bz (z : Nat) : Nat := if z = 5 then 8 else 14
section
variable {z : Nat} {S : Str} (D : SizeD z S)
include D
theorem SizeD.z56 : z = 5 ∨ z = 6 := D.by (P := fun z _ => z = 5 ∨ z = 6) (.inl rfl) (.inr rfl)
theorem SizeD.lenS : S.length = 16 ∨ S.length = 32 := D.by (P := fun _ S => S.length = 16 ∨ S.length = 32) (.inl len5) (.inr len6)
theorem SizeD.fit : S.cps.size ≤ sizeLine := D.by (P := fun _ S => S.cps.size ≤ sizeLine) (by rw [sizeLine_eq]; decide) (by rw [sizeLine_eq]; decide)
theorem SizeD.good : ∀ i : Int, 0 ≤ i → i < S.length → GoodSign (Txt.item S i) := D.by (P := fun _ S => ∀ i : Int, 0 ≤ i → i < S.length → GoodSign (Txt.item S i)) good5 good6
theorem SizeD.ok : SizeOk z := D.by (P := fun z _ => SizeOk z) ok5 ok6
theorem SizeD.lt : LetOk z := D.by (P := fun z _ => LetOk z) let5 let6
theorem SizeD.p64 : 2 ^ z ≤ 64 := D.by (P := fun z _ => 2 ^ z ≤ 64) (by decide) (by decide)
theorem SizeD.rows {xs : List Int} {per : Nat → Nat} : PerOk (nxt z xs) (2 ^ z) per → ∀ row ∈ rowsOf z xs per, RowOk row :=
  D.by (P := fun z _ => PerOk (nxt z xs) (2 ^ z) per → ∀ row ∈ rowsOf z xs per, RowOk row) rows5 rows6
theorem SizeD.sum {xs : List Int} {per : Nat → Nat} : PerOk (nxt z xs) (2 ^ z) per → ((rowsOf z xs per).map (fun row => row.countP (· == 2))).sum = bz z :=
  D.by (P := fun z _ => PerOk (nxt z xs) (2 ^ z) per → ((rowsOf z xs per).map (fun row => row.countP (· == 2))).sum = bz z) sum5 sum6
theorem SizeD.even {hs : List (Str × Str)} {per : Nat → Nat} : GoodHdr S hs → PerOk (nxt z (crossed S hs)) (2 ^ z) per → ((rowsOf z (crossed S hs) per).length + hs.length) % 2 = 0 :=
  D.by (P := fun z S => GoodHdr S hs → PerOk (nxt z (crossed S hs)) (2 ^ z) per → ((rowsOf z (crossed S hs) per).length + hs.length) % 2 = 0) (fun g hp => even5 g hp) (fun g hp => even6 g hp)
theorem SizeD.rsize : Builtin.Range.rangeSize 1 ((z : Int) + 1) 1 = ((z : Nat) : Int) := D.by (P := fun z _ => Builtin.Range.rangeSize 1 ((z : Int) + 1) 1 = ((z : Nat) : Int)) (by decide) (by decide)
theorem SizeD.look {i : Nat} : i < z → PySem.Spec.lookup (PyData.int ((Nat.gcd (i + 1) z : Nat) : Int)) (pwDat (datZ z)) = some (PyData.int ((2 : Int) ^ Nat.gcd (i + 1) z)) :=
  D.by (P := fun z _ => i < z → PySem.Spec.lookup (PyData.int ((Nat.gcd (i + 1) z : Nat) : Int)) (pwDat (datZ z)) = some (PyData.int ((2 : Int) ^ Nat.gcd (i + 1) z)))
    (fun h => lt5 (P := fun i => PySem.Spec.lookup (PyData.int ((Nat.gcd (i + 1) 5 : Nat) : Int)) (pwDat (datZ 5)) = some (PyData.int ((2 : Int) ^ Nat.gcd (i + 1) 5))) rfl rfl rfl rfl rfl i h)
    (fun h => lt6 (P := fun i => PySem.Spec.lookup (PyData.int ((Nat.gcd (i + 1) 6 : Nat) : Int)) (pwDat (datZ 6)) = some (PyData.int ((2 : Int) ^ Nat.gcd (i + 1) 6))) rfl rfl rfl rfl rfl rfl i h)
end
theorem costs_take (z : Nat) : List.take z (costs z) = costs z := List.take_of_length_le (by unfold costs; rw [List.length_map, List.length_range]; exact Nat.le_refl _)
theorem costs_succ {z i : Nat} (h : i < z) : List.take (i + 1) (costs z) = List.take i (costs z) ++ [(2 : Int) ^ Nat.gcd (i + 1) z] := by
  rw [List.take_add_one]; unfold costs
  rw [List.getElem?_map, List.getElem?_range h]; rfl
section
variable {w : World} {p : Program} {loose : List Str} {mean : ExcName → Option Value} {mg mb : Str → Option Value} {news : List (Addr × Obj)} {z : Nat} {S : Str} {t1 t2 t3 : Tok}
theorem powersZ (D : SizeD z S) : SpecD w p loose mean mg mb 10 300 (.ref 46) [.int (2 * (z : Int) + 1) t1, .int 2 t2, .int 1 t3] [] news (PowRet w news (datZ z)) :=
  D.by (P := fun z _ => SpecD w p loose mean mg mb 10 300 (.ref 46) [.int (2 * (z : Int) + 1) t1, .int 2 t2, .int 1 t3] [] news (PowRet w news (datZ z))) powers5 powers6
theorem comZ {t : Nat} (D : SizeD z S) (h1 : 1 ≤ t) (h2 : t ≤ z) : Spec w p loose mean mg mb 5 150 (.ref 290) [.int (t : Int) t1, .int (z : Int) t2] [] news (fun r news' => (∃ t', r = .int ((Nat.gcd t z : Nat) : Int) t') ∧ news' = news) :=
  com_spec D.z56 h1 h2
theorem ringsZ {cx : Addr} {xvs : List Value} {epx : Nat} {xs : List Int} {per : Nat → Nat} (D : SizeD z S) (hcx : (cx, listOf xvs.toArray epx) ∈ news) (hxs : IntsAre xvs xs) (hlx : xs.length = S.length) (hx01 : ∀ k ∈ xs, k = 0 ∨ k = 1) :
    PerOk (nxt z xs) (2 ^ z) per → Spec w p loose mean mg mb 20 300 (.ref 285) [.int (z : Int) t1, .ref cx] [] news (RingsRet z xs per news) :=
  D.by (P := fun z S => xs.length = S.length → PerOk (nxt z xs) (2 ^ z) per → Spec w p loose mean mg mb 20 300 (.ref 285) [.int (z : Int) t1, .ref cx] [] news (RingsRet z xs per news))
    (fun h => rings5 hcx hxs (h.trans len5) hx01) (fun h => rings6 hcx hxs (h.trans len6) hx01) hlx
theorem dmZ (D : SizeD z S) (hn1 : ∀ p ∈ news, p.1 ≠ 62) (hn2 : ∀ p ∈ news, p.1 ≠ 69) :
    SpecN w p loose mean mg mb 20 300 (.ref 88) [.int (costs z).sum t1, .int (z : Int) t2] [] news (fun r news' => ∃ (T : Addr) (t t' : Tok) (p1 p2 : Array Value), r = .ref T ∧ news' = (T, { cls := .type "tuple", data := .seq #[.int ((bz z : Nat) : Int) t, .int 0 t'] }) :: (69, tabObj p1) :: (62, tabObj p2) :: news ∧ ∀ p ∈ (69, tabObj p1) :: (62, tabObj p2) :: news, p.1 < T) :=
  D.by (P := fun z _ => SpecN w p loose mean mg mb 20 300 (.ref 88) [.int (costs z).sum t1, .int (z : Int) t2] [] news (fun r news' => ∃ (T : Addr) (t t' : Tok) (p1 p2 : Array Value), r = .ref T ∧ news' = (T, { cls := .type "tuple", data := .seq #[.int ((bz z : Nat) : Int) t, .int 0 t'] }) :: (69, tabObj p1) :: (62, tabObj p2) :: news ∧ ∀ p ∈ (69, tabObj p1) :: (62, tabObj p2) :: news, p.1 < T)) (dm5 hn1 hn2) (dm6 hn1 hn2)
end
local macro_rules | `(tactic| walk_at "eval IfExp") => `(tactic| (k_here; (with_reducible show wpAny _ _ (eval (PySem.Expr.IfExp _ (PySem.Expr.Constant (Const.int 6) _ _) _ _) _) _ _ _); refine hlt ?_))
set_option maxHeartbeats 16000000 in
theorem law0 : PySem.Challenge.rw_to0077_01.Holds := by
  refine hd ?_
  k_go0
  all_goals (try k_fold)
  k_steps
  apply joinKey
  · intro key9
    refine hltI ?_
    refine wpAny_IfExp ?_
    (k_steps <;> repeat' ((first | (refine hltI ?_; (with_reducible show wpAny _ _ (eval (PySem.Expr.ListComp _ _ _ _) _) _ _ _); first | ((first | with_reducible show wpAny _ _ (eval (PySem.Expr.ListComp (PySem.Expr.IfExp _ _ _ _) _ _ _) _) _ _ _ | with_reducible show wpAny _ _ (eval (PySem.Expr.ListComp (PySem.Expr.Call (PySem.Expr.Name _ _) _ _ _) _ _ _) _) _ _ _); k_dflt (refine ListComp_S (F₀ := by k_asm) (by with_unfolding_all rfl) (by decide) (by rfl) (by decide) (by rfl) (hltQ ?_))) | ((with_reducible show wpAny _ _ (eval (PySem.Expr.ListComp (PySem.Expr.Name _ _) _ _ _) _) _ _ _); k_dflt (refine ListComp_T (F₀ := by k_asm) (by with_unfolding_all rfl) (by decide) (by rfl) (by decide) (by rfl) (hltQ ?_))) | k_dflt (refine ListComp_U (F₀ := by k_asm) (by with_unfolding_all rfl) (by decide) (by rfl) (by decide) (by rfl) (hltQ ?_))) | (refine hltI ?_; (with_reducible show wpAny _ _ (binaryOp _ (Value.ref _) (Value.ref _)) _ _ _); k_dflt (refine' kmk_add_ints (by k_asm) (by k_asm) (by kmk_list) (by kmk_list) (by assumption) (by assumption) ?_ (by (simp only [sizeLine_eq, List.length_take, List.length_drop, List.length_cons, List.length_nil]; omega))); intro _ _ _ _ _ l1 _; (try k_lt l1); revert l1; intro _; (try k_sweep)) | (refine hltI ?_; (with_reducible show wpAny _ _ (subscriptTail _ _ _ _) _ _ _); k_dflt (refine' slice3 (by k_asm) (by k_asm) (by kmk_list) (by kmk_part) (by kmk_part) ?_ (by with_unfolding_all rfl)); intro _ _ _ _ _ l1 _; (try k_lt l1); revert l1; intro _; (try k_sweep))); k_steps))
    rotate_left
    · rename_i o9 d9 tx1 hx1 t9 k9 hx2 D1 w1 hx3 q1 q2 q3 q4 q5 q6 q7 q8 q9 l9 hx4 q10 q11 q12 q13 q14 q15 q16 D2 hx5 zs9 q17 q18 q19 q20 q21 q22 q23 q24 q25 D3 us9 h9 lF lN hI8 r1 r2 r3 r4 r5 r6 r7 r8 r9
      obtain ⟨z9, hz9⟩ : ∃ z : Nat, z = 5 := ⟨5, rfl⟩
      have e9 : (5 : Int) = (z9 : Int) := by rw [hz9]; rfl
      have dz := d9
      rw [e9] at dz
      clear d9 e9
      have D9 : SizeD z9 (Str.ofString "abcdefghijklmnop") := by rw [hz9]; exact d5
      clear hz9
      revert o9 t9 k9 D1 w1 l9 hx4 D2 hx5 zs9 D3 us9 h9
      revert D9
      generalize Str.ofString "abcdefghijklmnop" = S9
      revert z9 S9
      exact key9.out
    · rename_i o9 d9 tx1 hx1 t9 k9 hx2 D1 w1 hx3 q1 q2 q3 q4 q5 q6 q7 q8 q9 l9 hx4 q10 q11 q12 q13 q14 q15 q16 D2 hx5 zs9 q17 q18 q19 q20 q21 q22 q23 q24 q25 D3 us9 h9 lF lN hI8 r1 r2 r3 r4 r5 r6 r7 r8 r9
      have e9 : (6 : Int) = ((6 : Nat) : Int) := rfl
      have dz := d9
      rw [e9] at dz
      clear d9 e9
      have D9 : SizeD 6 S6 := d6
      revert o9 t9 k9 D1 w1 l9 hx4 D2 hx5 zs9 D3 us9 h9
      revert D9
      exact key9.out 6 S6
  intro z S DZ
  w_top off
  intros
  refine hltI ?_
  rename IntsAre _ (_ ++ _) => hI8
  (have zq := draws_of hI8; refine ex1 zq ?_; clear zq; intro ds zr; refine an2 zr ?_; clear zr; intro hI9 hdl)
  rename Fr _ _ _ _ => lF
  rename News _ _ _ _ => lN
  refine CompSrc.ledger (k := 0) (by rfl) lF lN (.head _) (by rw [List.size_toArray, hI9.length]; rw [sizeLine_eq]; omega) (fun g => ?_)
  refine restUc (fun j zs => IntsAre zs ((List.take j ds).map (fun k => Int.fmod k 1000))) .nil (.inr ⟨_, .head _, rfl, _, rfl⟩) ?_ ?_
  · intro zs hJ D h tk F' N' ho
    clear lF lN
    rw [List.size_toArray, hI9.length, List.take_length] at hJ
    have hr9 : ∀ k ∈ ds.map (fun k => Int.fmod k 1000), 0 ≤ k ∧ k < 1000 := fmod_all ds
    have hl9 : (ds.map (fun k => Int.fmod k 1000)).length ≤ 10 := by rw [List.length_map]; exact hdl
    (k_steps <;> repeat' ((first | (refine hltI ?_; (with_reducible show wpAny _ _ (call (Value.ref _) _ _) _ _ _); k_dflt (refine' use (S := wires_spec (SizeD.lenS (by assumption)) (SizeD.good (by assumption)) (by k_mem) (by assumption) (by assumption) (by assumption)) (k := ?_)); intro _ _ _ _ _ _ _; refine hlt ?_) | (refine hltI ?_; (with_reducible show wpAny _ _ (eval (PySem.Expr.ListComp _ _ _ _) _) _ _ _); first | ((first | with_reducible show wpAny _ _ (eval (PySem.Expr.ListComp (PySem.Expr.IfExp _ _ _ _) _ _ _) _) _ _ _ | with_reducible show wpAny _ _ (eval (PySem.Expr.ListComp (PySem.Expr.Call (PySem.Expr.Name _ _) _ _ _) _ _ _) _) _ _ _); k_dflt (refine ListComp_S (F₀ := by k_asm) (by with_unfolding_all rfl) (by decide) (by rfl) (by decide) (by rfl) (hltQ ?_))) | ((with_reducible show wpAny _ _ (eval (PySem.Expr.ListComp (PySem.Expr.Name _ _) _ _ _) _) _ _ _); k_dflt (refine ListComp_T (F₀ := by k_asm) (by with_unfolding_all rfl) (by decide) (by rfl) (by decide) (by rfl) (hltQ ?_))) | k_dflt (refine ListComp_U (F₀ := by k_asm) (by with_unfolding_all rfl) (by decide) (by rfl) (by decide) (by rfl) (hltQ ?_)))); k_steps))
    refine hltI ?_
    rename_i v9 n9 h9 tk9 R9 F9 N9
    (have zq := after_wires N9 R9 (by assumption) (by assumption) (by assumption); refine ex10 zq ?_; clear zq; intro x9 dx9 l9 hsh9 kt9 kk9 ep9 vs9 hs9 ts9 zr; refine an18 zr ?_; clear zr; intro ze3 N10 hA9 hG9 hv9 q1 q2 q3 q4 q5 q6 q7 q8 q9 u1 u2 u3 u4; subst ze3)
    clear N9 R9 F' N' ho
    (k_steps <;> repeat' ((first | (refine hltI ?_; (with_reducible show wpAny _ _ (eval (PySem.Expr.ListComp _ _ _ _) _) _ _ _); first | ((first | with_reducible show wpAny _ _ (eval (PySem.Expr.ListComp (PySem.Expr.IfExp _ _ _ _) _ _ _) _) _ _ _ | with_reducible show wpAny _ _ (eval (PySem.Expr.ListComp (PySem.Expr.Call (PySem.Expr.Name _ _) _ _ _) _ _ _) _) _ _ _); k_dflt (refine ListComp_S (F₀ := by k_asm) (by with_unfolding_all rfl) (by decide) (by rfl) (by decide) (by rfl) (hltQ ?_))) | ((with_reducible show wpAny _ _ (eval (PySem.Expr.ListComp (PySem.Expr.Name _ _) _ _ _) _) _ _ _); k_dflt (refine ListComp_T (F₀ := by k_asm) (by with_unfolding_all rfl) (by decide) (by rfl) (by decide) (by rfl) (hltQ ?_))) | k_dflt (refine ListComp_U (F₀ := by k_asm) (by with_unfolding_all rfl) (by decide) (by rfl) (by decide) (by rfl) (hltQ ?_)))); k_steps))
    refine hltI ?_
    rename Fr _ _ _ _ => lF
    rename News _ _ _ _ => lN
    refine SrcS.intro (y := S) (by rfl) lF lN DZ.fit (fun g => ?_)
    refine restUc (fun j zs => IntsAre zs ((List.range j).map (crossAt S hs9))) .nil trivial ?_ ?_
    · intro zs hJ D h tk F' N' ho
      clear lF lN
      have hJ9 : IntsAre zs (crossed S hs9) := hJ
      have hc1 : (crossed S hs9).length = S.length := crossed_len S hs9
      have hc2 : ∀ k ∈ crossed S hs9, k = 0 ∨ k = 1 := crossed_01 S hs9
      (have zq := per_ex (DZ.ok.perm (crossed S hs9)); refine ex1 zq ?_; clear zq; intro per zr; have hper := zr; clear zr)
      (k_steps <;> repeat' ((first | (refine hltI ?_; (with_reducible show wpAny _ _ (call (Value.ref _) _ _) _ _ _); k_dflt (refine' use (S := ringsZ (by assumption) (by k_mem) (by assumption) (by assumption) (by assumption) (by assumption)) (k := ?_)); intro _ _ _ _ _ _ _; refine hlt ?_) | (refine hltI ?_; (with_reducible show wpAny _ _ (eval (PySem.Expr.ListComp _ _ _ _) _) _ _ _); first | ((first | with_reducible show wpAny _ _ (eval (PySem.Expr.ListComp (PySem.Expr.IfExp _ _ _ _) _ _ _) _) _ _ _ | with_reducible show wpAny _ _ (eval (PySem.Expr.ListComp (PySem.Expr.Call (PySem.Expr.Name _ _) _ _ _) _ _ _) _) _ _ _); k_dflt (refine ListComp_S (F₀ := by k_asm) (by with_unfolding_all rfl) (by decide) (by rfl) (by decide) (by rfl) (hltQ ?_))) | ((with_reducible show wpAny _ _ (eval (PySem.Expr.ListComp (PySem.Expr.Name _ _) _ _ _) _) _ _ _); k_dflt (refine ListComp_T (F₀ := by k_asm) (by with_unfolding_all rfl) (by decide) (by rfl) (by decide) (by rfl) (hltQ ?_))) | k_dflt (refine ListComp_U (F₀ := by k_asm) (by with_unfolding_all rfl) (by decide) (by rfl) (by decide) (by rfl) (hltQ ?_)))); k_steps))
      refine hltI ?_
      rename_i v9 n9 h9 tk9 R9 F9 N9
      (have zq := after_rings hA9 u1 u2 u3 u4 N9 R9 (by assumption) (by assumption) (by assumption); refine ex9 zq ?_; clear zq; intro x8 dx8 l8 hsh8 kt8 kk8 ep8 vs8 ts8 zr; refine an18 zr ?_; clear zr; intro ze4 N10 hA8 hB8 hv8 y1 y2 y3 y4 y5 y6 y7 y8 y9 z1 z2 z3 z4; subst ze4)
      clear N9 R9 F' N' ho hA9 u1 u2 u3 u4
      have hv8' : vs8.length ≤ 64 := Nat.le_trans hv8 DZ.p64
      (k_steps <;> repeat' ((first | (refine hltI ?_; (with_reducible show wpAny _ _ (call (Value.ref _) _ _) _ _ _); k_dflt (refine' use (S := values_spec (by k_mem) (by k_mem) (by k_mem) (by (refine HdrAll.mono (by assumption) (fun _ h9 => ?_); (repeat (refine List.mem_cons_of_mem _ ?_)); exact h9)) (by omega)) (k := ?_)); intro _ _ _ _ _ _ _; refine hlt ?_) | (refine hltI ?_; (with_reducible show wpAny _ _ (eval (PySem.Expr.ListComp _ _ _ _) _) _ _ _); first | ((first | with_reducible show wpAny _ _ (eval (PySem.Expr.ListComp (PySem.Expr.IfExp _ _ _ _) _ _ _) _) _ _ _ | with_reducible show wpAny _ _ (eval (PySem.Expr.ListComp (PySem.Expr.Call (PySem.Expr.Name _ _) _ _ _) _ _ _) _) _ _ _); k_dflt (refine ListComp_S (F₀ := by k_asm) (by with_unfolding_all rfl) (by decide) (by rfl) (by decide) (by rfl) (hltQ ?_))) | ((with_reducible show wpAny _ _ (eval (PySem.Expr.ListComp (PySem.Expr.Name _ _) _ _ _) _) _ _ _); k_dflt (refine ListComp_T (F₀ := by k_asm) (by with_unfolding_all rfl) (by decide) (by rfl) (by decide) (by rfl) (hltQ ?_))) | k_dflt (refine ListComp_U (F₀ := by k_asm) (by with_unfolding_all rfl) (by decide) (by rfl) (by decide) (by rfl) (hltQ ?_)))); k_steps))
      refine hltI ?_
      rename_i v7 n7 h7 tk7 R7 F7 N7
      (have zq := R7; (try clear R7); refine ex2 zq ?_; clear zq; intro Dv ys zr; refine an4 zr ?_; clear zr; intro ze5 ze6 htx hdv; subst ze5; subst ze6)
      have hrok := DZ.rows hper
      have hylen := ring_len htx
      have hrl : ys.length ≤ 64 := by
        rw [htx.length, List.length_map, ← hB8.length]; exact hv8'
      (k_steps <;> repeat' ((first | (refine hltI ?_; (with_reducible show wpAny _ _ (eval (PySem.Expr.ListComp _ _ _ _) _) _ _ _); first | ((first | with_reducible show wpAny _ _ (eval (PySem.Expr.ListComp (PySem.Expr.IfExp _ _ _ _) _ _ _) _) _ _ _ | with_reducible show wpAny _ _ (eval (PySem.Expr.ListComp (PySem.Expr.Call (PySem.Expr.Name _ _) _ _ _) _ _ _) _) _ _ _); k_dflt (refine ListComp_S (F₀ := by k_asm) (by with_unfolding_all rfl) (by decide) (by rfl) (by decide) (by rfl) (hltQ ?_))) | ((with_reducible show wpAny _ _ (eval (PySem.Expr.ListComp (PySem.Expr.Name _ _) _ _ _) _) _ _ _); k_dflt (refine ListComp_T (F₀ := by k_asm) (by with_unfolding_all rfl) (by decide) (by rfl) (by decide) (by rfl) (hltQ ?_))) | k_dflt (refine ListComp_U (F₀ := by k_asm) (by with_unfolding_all rfl) (by decide) (by rfl) (by decide) (by rfl) (hltQ ?_)))); k_steps))
      refine hltI ?_
      rename Fr _ _ _ _ => lF
      rename News _ _ _ _ => lN
      refine CompSrc.ledger (by rfl) lF lN (.head _) (by rw [List.size_toArray, sizeLine_eq]; omega) (fun g => ?_)
      refine restU (fun i zs nw => ∃ us, nw = us ++ _ ∧ RowAll us zs ((rowsOf z (crossed S hs9) per).take i) ∧ ∀ p ∈ us, p.2.cls ≠ .none ∧ ∀ v, p.2.data ≠ .cell v) ⟨[], rfl, .nil, fun p hp => nomatch hp⟩ (fun i zs nw hJ => by obtain ⟨us, rfl, -, -⟩ := hJ; exact .inr ⟨_, List.mem_append_right _ (.head _), rfl, _, rfl⟩) ?_ ?_
      · intro zs nw hJ D h tk F' N' ho
        (have zq := hJ; (try clear hJ); refine ex1 zq ?_; clear zq; intro us zr; refine an3 zr ?_; clear zr; intro ze11 hrow hus; subst ze11)
        clear lF lN
        have hzl : zs.length = (rowsOf z (crossed S hs9) per).length := by rw [hrow.length, List.length_take, List.size_toArray, hylen, Nat.min_self]
        have hrow' : RowAll us zs (rowsOf z (crossed S hs9) per) := by
          have h9 := hrow
          rw [List.size_toArray, hylen, List.take_length] at h9
          exact h9
        have hz64 : zs.length ≤ 64 := by omega
        have hev9 := DZ.even hG9 hper
        have hlen9 := hA8.length
        have hev : Int.fmod ((zs.length : Int) + (vs9.length : Int)) 2 = 0 := by
          rw [Int.fmod_eq_emod_of_nonneg _ (by decide)]; omega
        (have zq := collapse2 N' ⟨fun e => (by cases e), fun v e => (by cases e)⟩ hus (by assumption) (by assumption) (by assumption); refine ex1 zq ?_; clear zq; intro X9 zr; refine an8 zr ?_; clear zr; intro N11 x1 x2 x3 x4 x5 x6 x7)
        replace hrow' := hrow'.mono x7
        clear N' hrow hus
        clear y1 y2 y3 y4 y5 y6 y7 y8 y9 z1 z2 z3 z4 hA8 hB8 htx hdv
        (k_steps <;> repeat' ((first | (refine hltI ?_; (with_reducible show wpAny _ _ (eval (PySem.Expr.ListComp _ _ _ _) _) _ _ _); first | ((first | with_reducible show wpAny _ _ (eval (PySem.Expr.ListComp (PySem.Expr.IfExp _ _ _ _) _ _ _) _) _ _ _ | with_reducible show wpAny _ _ (eval (PySem.Expr.ListComp (PySem.Expr.Call (PySem.Expr.Name _ _) _ _ _) _ _ _) _) _ _ _); k_dflt (refine ListComp_S (F₀ := by k_asm) (by with_unfolding_all rfl) (by decide) (by rfl) (by decide) (by rfl) (hltQ ?_))) | ((with_reducible show wpAny _ _ (eval (PySem.Expr.ListComp (PySem.Expr.Name _ _) _ _ _) _) _ _ _); k_dflt (refine ListComp_T (F₀ := by k_asm) (by with_unfolding_all rfl) (by decide) (by rfl) (by decide) (by rfl) (hltQ ?_))) | k_dflt (refine ListComp_U (F₀ := by k_asm) (by with_unfolding_all rfl) (by decide) (by rfl) (by decide) (by rfl) (hltQ ?_)))); k_steps))
        refine hltI ?_
        rename Fr _ _ _ _ => lF
        rename News _ _ _ _ => lN
        refine LCt.CompSrcT.ledger (by rfl) lF lN (.tail _ (.tail _ (.tail _ (.tail _ (.tail _ (.tail _ (.tail _ (.tail _ x6)))))))) (by rw [List.size_toArray, sizeLine_eq]; omega) (fun g => ?_)
        refine restTc (fun j zs9 => zs9 = []) rfl (.inr ⟨_, (.tail _ (.tail _ (.tail _ (.tail _ (.tail _ (.tail _ (.tail _ (.tail _ x6)))))))), rfl, _, rfl⟩) ?_ ?_
        · intro zs9 hJ D3 h3 tk3 F3 N3 ho3
          subst hJ
          clear lF lN
          (k_steps <;> repeat' ((first | (refine hltI ?_; (with_reducible show wpAny _ _ (eval (PySem.Expr.ListComp _ _ _ _) _) _ _ _); first | ((first | with_reducible show wpAny _ _ (eval (PySem.Expr.ListComp (PySem.Expr.IfExp _ _ _ _) _ _ _) _) _ _ _ | with_reducible show wpAny _ _ (eval (PySem.Expr.ListComp (PySem.Expr.Call (PySem.Expr.Name _ _) _ _ _) _ _ _) _) _ _ _); k_dflt (refine ListComp_S (F₀ := by k_asm) (by with_unfolding_all rfl) (by decide) (by rfl) (by decide) (by rfl) (hltQ ?_))) | ((with_reducible show wpAny _ _ (eval (PySem.Expr.ListComp (PySem.Expr.Name _ _) _ _ _) _) _ _ _); k_dflt (refine ListComp_T (F₀ := by k_asm) (by with_unfolding_all rfl) (by decide) (by rfl) (by decide) (by rfl) (hltQ ?_))) | k_dflt (refine ListComp_U (F₀ := by k_asm) (by with_unfolding_all rfl) (by decide) (by rfl) (by decide) (by rfl) (hltQ ?_)))); k_steps))
          refine hltI ?_
          rename Fr _ _ _ _ => lF
          rename News _ _ _ _ => lN
          refine' PySem.W.len_K (K := hd.heap_39 _) lF ?lob ?loc ?lod ?loe ?_
          case lob => k_asm
          skip
          case loc => k_inst
          skip
          case lod => k_is
          case loe => k_is
          skip
          refine' len_spec ?lsa ?lsb ?lsc ?lsd _ _ _ _ _ _ _ _ _ _ _ _ _ _ _ _ _ ?lsB ?lsF ?lsX ?lsN ?lsT ?lsk ?lsq ?lsu ?_
          case lsB => k_asm
          skip
          case lsF => k_asm
          case lsX => k_asm
          case lsN => k_asm
          case lsT => k_asm
          skip
          case lsa => k_mem
          case lsb => k_mem
          case lsc => k_mem
          skip
          case lsd => omega
          case lsk => exact rfl
          skip
          case lsq => ktr_room
          case lsu => ktr_units
          intro v9 n9 h9 tk9 R9 F9 N9
          (have zq := R9; (try clear R9); refine an2 zq ?_; clear zq; intro ze13 el8; obtain ⟨t9, el9⟩ := ze13)
          subst el9; subst el8
          refine ⟨⟨by omega, by omega⟩, ?_⟩
          (k_steps <;> repeat' ((first | (refine hltI ?_; (with_reducible show wpAny _ _ (binaryOp _ _ _) _ _ _); k_dflt (refine modz (by rw [Int.fmod_eq_emod_of_nonneg _ (by decide)]; omega) ?_)) | (refine hltI ?_; (with_reducible show wpAny _ _ (call (Value.ref _) _ _) _ _ _); k_dflt (refine' useD (S := powersZ (by assumption)) (k := ?_)); intro _ _ _ _ _ _ _ _; refine hlt ?_) | (refine hltI ?_; (with_reducible show wpAny _ _ (eval (PySem.Expr.ListComp _ _ _ _) _) _ _ _); first | ((first | with_reducible show wpAny _ _ (eval (PySem.Expr.ListComp (PySem.Expr.IfExp _ _ _ _) _ _ _) _) _ _ _ | with_reducible show wpAny _ _ (eval (PySem.Expr.ListComp (PySem.Expr.Call (PySem.Expr.Name _ _) _ _ _) _ _ _) _) _ _ _); k_dflt (refine ListComp_S (F₀ := by k_asm) (by with_unfolding_all rfl) (by decide) (by rfl) (by decide) (by rfl) (hltQ ?_))) | ((with_reducible show wpAny _ _ (eval (PySem.Expr.ListComp (PySem.Expr.Name _ _) _ _ _) _) _ _ _); k_dflt (refine ListComp_T (F₀ := by k_asm) (by with_unfolding_all rfl) (by decide) (by rfl) (by decide) (by rfl) (hltQ ?_))) | k_dflt (refine ListComp_U (F₀ := by k_asm) (by with_unfolding_all rfl) (by decide) (by rfl) (by decide) (by rfl) (hltQ ?_)))); k_steps))
          refine hltI ?_
          rename_i v9 n9 h9 tk9 dr9 R9 F9 N9
          (have zq := R9; (try clear R9); refine ex3 zq ?_; clear zq; intro dd od kv9 zr; refine an6 zr ?_; clear zr; intro ze14 ze15 hd9 hf9 lo9 al9; subst ze14; subst ze15)
          (k_lt al9)
          replace N9 := drop23 N9
          have hf8 : PyProof.V.FlatPairs PyData.int kv9 (pwDat (datZ z)) := hf9
          clear hf9
          (k_steps <;> repeat' ((first | (refine hltI ?_; (with_reducible show wpAny _ _ (eval (PySem.Expr.ListComp _ _ _ _) _) _ _ _); first | ((first | with_reducible show wpAny _ _ (eval (PySem.Expr.ListComp (PySem.Expr.IfExp _ _ _ _) _ _ _) _) _ _ _ | with_reducible show wpAny _ _ (eval (PySem.Expr.ListComp (PySem.Expr.Call (PySem.Expr.Name _ _) _ _ _) _ _ _) _) _ _ _); k_dflt (refine ListComp_S (F₀ := by k_asm) (by with_unfolding_all rfl) (by decide) (by rfl) (by decide) (by rfl) (hltQ ?_))) | ((with_reducible show wpAny _ _ (eval (PySem.Expr.ListComp (PySem.Expr.Name _ _) _ _ _) _) _ _ _); k_dflt (refine ListComp_T (F₀ := by k_asm) (by with_unfolding_all rfl) (by decide) (by rfl) (by decide) (by rfl) (hltQ ?_))) | k_dflt (refine ListComp_U (F₀ := by k_asm) (by with_unfolding_all rfl) (by decide) (by rfl) (by decide) (by rfl) (hltQ ?_)))); k_steps))
          refine hltI ?_
          rename Fr _ _ _ _ => lF
          rename News _ _ _ _ => lN
          rename IsRange _ _ _ _ _ _ _ _ => hR
          have hz6 : z ≤ 6 := by rcases DZ.z56 with rfl | rfl <;> decide
          refine CompSrc.range (n := z) (by rfl) lF lN hR (small_one (by omega) (by omega) (by omega) (by omega)) DZ.rsize (by rw [sizeLine_eq]; omega) (fun g => ?_)
          refine restUc (fun j zs => IntsAre zs (List.take j (costs z))) .nil trivial ?_ ?_
          · intro zt hJ4 D4 h4 tk4 F4 N4 ho4
            clear lF lN hR
            have hJ5 : IntsAre zt (costs z) := by have h := hJ4; rwa [costs_take] at h
            clear hJ4
            (k_steps <;> repeat' ((first | (refine hltI ?_; (with_reducible show wpAny _ _ (call (Value.builtin "sum") _ _) _ _ _); (with_unfolding_all refine' sumK (by with_unfolding_all rfl) (by k_asm) (by k_asm) (by is_list) (by with_reducible assumption) ?_); intro _ _ _ _ _) | (refine hltI ?_; (with_reducible show wpAny _ _ (eval (PySem.Expr.ListComp _ _ _ _) _) _ _ _); first | ((first | with_reducible show wpAny _ _ (eval (PySem.Expr.ListComp (PySem.Expr.IfExp _ _ _ _) _ _ _) _) _ _ _ | with_reducible show wpAny _ _ (eval (PySem.Expr.ListComp (PySem.Expr.Call (PySem.Expr.Name _ _) _ _ _) _ _ _) _) _ _ _); k_dflt (refine ListComp_S (F₀ := by k_asm) (by with_unfolding_all rfl) (by decide) (by rfl) (by decide) (by rfl) (hltQ ?_))) | ((with_reducible show wpAny _ _ (eval (PySem.Expr.ListComp (PySem.Expr.Name _ _) _ _ _) _) _ _ _); k_dflt (refine ListComp_T (F₀ := by k_asm) (by with_unfolding_all rfl) (by decide) (by rfl) (by decide) (by rfl) (hltQ ?_))) | k_dflt (refine ListComp_U (F₀ := by k_asm) (by with_unfolding_all rfl) (by decide) (by rfl) (by decide) (by rfl) (hltQ ?_)))); k_steps))
            refine hltI ?_
            rename Fr _ _ _ _ => lF
            rename News _ _ _ _ => lN
            refine' dmZ DZ (news := X9) x5 x4 _ _ _ _ _ _ _ _ _ _ _ _ _ _ _ _ _ ?dmC ?dmD ?dmB lF ?dmX (fun p hp => lN p (.tail _ (.tail _ (.tail _ (.tail _ (.tail _ (.tail _ (.tail _ (.tail _ hp))))))))) ?dmT ?dmk ?dmd ?dmu ?_
            case dmC => first | assumption | exact CodeHd.keeps (by assumption) (Below.stays (by assumption))
            case dmD => first | assumption | exact CodeHd.keeps (by assumption) (Below.stays (by assumption))
            case dmB => k_asm
            case dmX => k_asm
            case dmT => k_asm
            case dmk => exact rfl
            case dmd => ktr_room
            case dmu => ktr_units
            clear lF lN
            intro v9 n9 h9 tk9 R9 F9 N9
            (have zq := R9; (try clear R9); refine ex5 zq ?_; clear zq; intro T9 ta9 tb9 p1 p2 zr; refine an3 zr ?_; clear zr; intro ze22 ze23 al9; subst ze22; subst ze23)
            replace al9 := (List.forall_mem_cons.mp (List.forall_mem_cons.mp al9).2).2
            (k_steps <;> repeat' ((first | (refine hltI ?_; (with_reducible show wpAny _ _ (eval (PySem.Expr.ListComp _ _ _ _) _) _ _ _); first | ((first | with_reducible show wpAny _ _ (eval (PySem.Expr.ListComp (PySem.Expr.IfExp _ _ _ _) _ _ _) _) _ _ _ | with_reducible show wpAny _ _ (eval (PySem.Expr.ListComp (PySem.Expr.Call (PySem.Expr.Name _ _) _ _ _) _ _ _) _) _ _ _); k_dflt (refine ListComp_S (F₀ := by k_asm) (by with_unfolding_all rfl) (by decide) (by rfl) (by decide) (by rfl) (hltQ ?_))) | ((with_reducible show wpAny _ _ (eval (PySem.Expr.ListComp (PySem.Expr.Name _ _) _ _ _) _) _ _ _); k_dflt (refine ListComp_T (F₀ := by k_asm) (by with_unfolding_all rfl) (by decide) (by rfl) (by decide) (by rfl) (hltQ ?_))) | k_dflt (refine ListComp_U (F₀ := by k_asm) (by with_unfolding_all rfl) (by decide) (by rfl) (by decide) (by rfl) (hltQ ?_)))); k_steps))
            refine hltI ?_
            rename Fr _ _ _ _ => lF
            rename News _ _ _ _ => lN
            replace al9 := allLt_of al9
            refine CompSrc.ledger (by rfl) lF lN (.tail _ (.tail _ (.tail _ x6))) (by rw [List.size_toArray, sizeLine_eq]; omega) (fun g => ?_)
            refine restUc (fun j zs => IntsAre zs (((rowsOf z (crossed S hs9) per).map (fun row => ((row.countP (· == 2) : Nat) : Int))).take j)) .nil (.inr ⟨_, .tail _ (.tail _ (.tail _ x6)), rfl, _, rfl⟩) ?_ ?_
            · intro zc hJ6 D5 h5 tk5 F5 N5 ho5
              clear lF lN
              skip
              repeat' ((fail_if_success with_reducible refine And.intro ?_ ?_); (first | (refine hltI ?_; (with_reducible show wpAny _ _ (call (Value.builtin "sum") _ _) _ _ _); (with_unfolding_all refine' sumK (by with_unfolding_all rfl) (by k_asm) (by k_asm) (by is_list) (by with_reducible assumption) ?_); intro _ _ _ _ _) | (k_unfold; (try dsimp only)) | walk1 | (dsimp only; walk1) | (leave1; walk_say "STEP leave1"; try dsimp only) | fail "no step"))
              have hb : (((bz z : Nat) : Int) == (List.take zs.toArray.size (List.map (fun row => ((List.countP (fun x => x == 2) row : Nat) : Int)) (rowsOf z (crossed S hs9) per))).sum) = true := sum_eq (n := bz z) (by rw [List.size_toArray]; exact hzl) (DZ.sum hper)
              rw [hb]
              clear hb
              refine ⟨?_, GrownAt.of (by k_asm) (by k_mem), GrownAt.of (by k_asm) (by k_mem), trivial⟩
              refine goodW_bool (by assumption) ?_ ?_ ?_
              next => assumption
              skip
              next => exact raisesW_false none_raised9
              exact post_true9 _
            · intro i zc v I oI C oC D5 m₂ h5 tk5 E' hi9 hJ6 hP6 hns hx₁ ho5 e1 e2 e3 F5 N5
              clear lF lN
              rename RowAll _ _ _ => hrow'
              (have zq := hrow'.get (by simpa using hP6); refine ex4 zq ?_; clear zq; intro ra rvs rep row zr; refine an4 zr ?_; clear zr; intro ze34 rm ri rr; subst ze34)
              have rok := hrok row (List.mem_of_getElem? rr)
              have rl9 := News.isList N5 (.tail _ (.tail _ (.tail _ (.tail _ (.tail _ (.tail _ rm))))))
              have rd9 := nd_news N5 (.tail _ (.tail _ (.tail _ (.tail _ (.tail _ (.tail _ rm))))))
              (k_steps <;> repeat' ((first | (refine hltI ?_; (with_reducible show wpAny _ _ (eval (PySem.Expr.ListComp _ _ _ _) _) _ _ _); first | ((first | with_reducible show wpAny _ _ (eval (PySem.Expr.ListComp (PySem.Expr.IfExp _ _ _ _) _ _ _) _) _ _ _ | with_reducible show wpAny _ _ (eval (PySem.Expr.ListComp (PySem.Expr.Call (PySem.Expr.Name _ _) _ _ _) _ _ _) _) _ _ _); k_dflt (refine ListComp_S (F₀ := by k_asm) (by with_unfolding_all rfl) (by decide) (by rfl) (by decide) (by rfl) (hltQ ?_))) | ((with_reducible show wpAny _ _ (eval (PySem.Expr.ListComp (PySem.Expr.Name _ _) _ _ _) _) _ _ _); k_dflt (refine ListComp_T (F₀ := by k_asm) (by with_unfolding_all rfl) (by decide) (by rfl) (by decide) (by rfl) (hltQ ?_))) | k_dflt (refine ListComp_U (F₀ := by k_asm) (by with_unfolding_all rfl) (by decide) (by rfl) (by decide) (by rfl) (hltQ ?_)))); k_steps))
              rename Fr _ _ _ _ => eF
              rename News _ _ _ _ => eN
              refine CEnd.intro _ eF eN (fun p hp => hp) ho5 ⟨rfl, ?_⟩
              rw [List.take_add_one, List.getElem?_map, rr]
              exact hJ6.append (.cons _ _ .nil)
          · intro i zt v I oI C oC D4 m₂ h4 tk4 E' hi9 hJ4 hP4 hns hx₁ ho4 e1 e2 e3 F4 N4
            clear lF lN hR
            (have zq := hP4; (try clear hP4); refine ex1 zq ?_; clear zq; intro tv zr; subst zr)
            have ei : (1 + (i : Int)) = ((i + 1 : Nat) : Int) := by omega
            rw [ei] at hx₁
            have hlk := DZ.look hi9
            have hi1 : 1 ≤ i + 1 := Nat.le_add_left 1 i
            have hi2 : i + 1 ≤ z := hi9
            (k_steps <;> repeat' ((first | (refine hltI ?_; (with_reducible show wpAny _ _ (call (Value.ref _) _ _) _ _ _); k_dflt (refine' useV (S := comZ (by assumption) (by omega) (by omega)) (k := ?_)); intro _ _ _ _ _) | (refine hltI ?_; (with_reducible show wpAny _ _ (eval (PySem.Expr.ListComp _ _ _ _) _) _ _ _); first | ((first | with_reducible show wpAny _ _ (eval (PySem.Expr.ListComp (PySem.Expr.IfExp _ _ _ _) _ _ _) _) _ _ _ | with_reducible show wpAny _ _ (eval (PySem.Expr.ListComp (PySem.Expr.Call (PySem.Expr.Name _ _) _ _ _) _ _ _) _) _ _ _); k_dflt (refine ListComp_S (F₀ := by k_asm) (by with_unfolding_all rfl) (by decide) (by rfl) (by decide) (by rfl) (hltQ ?_))) | ((with_reducible show wpAny _ _ (eval (PySem.Expr.ListComp (PySem.Expr.Name _ _) _ _ _) _) _ _ _); k_dflt (refine ListComp_T (F₀ := by k_asm) (by with_unfolding_all rfl) (by decide) (by rfl) (by decide) (by rfl) (hltQ ?_))) | k_dflt (refine ListComp_U (F₀ := by k_asm) (by with_unfolding_all rfl) (by decide) (by rfl) (by decide) (by rfl) (hltQ ?_)))); k_steps))
            rename Fr _ _ _ _ => eF
            rename News _ _ _ _ => eN
            refine CEnd.intro _ eF eN (fun p hp => hp) ho4 ⟨rfl, ?_⟩
            rw [costs_succ hi9]
            exact hJ4.append (IntsAre.cons _ _ IntsAre.nil)
        · intro i zs9 v I oI C oC D3 m₂ h3 tk3 E' hi9 hJ hP hns hx₁ ho e1 e2 e3 F3 N3
          subst hJ
          clear lF lN
          (have zq := hrow'.get (by simpa using hP); refine ex4 zq ?_; clear zq; intro ra rvs rep row zr; refine an4 zr ?_; clear zr; intro ze40 rm ri rr; subst ze40)
          have rok := hrok row (List.mem_of_getElem? rr)
          (k_steps <;> repeat' ((first | (refine hltI ?_; (with_reducible show wpAny _ _ (call (Value.ref _) _ _) _ _ _); k_dflt (refine' use (S := sound_spec (by walk_at "zM") (by assumption) (by exact RowOk.two (by assumption)) (by exact RowOk.len (by assumption)) (by exact RowOk.noAa (by assumption))) (k := ?_)); intro _ _ _ _ R9 _ _; obtain ⟨es9, es8⟩ := R9; subst es9; subst es8) | (refine hltI ?_; (with_reducible show wpAny _ _ (eval (PySem.Expr.ListComp _ _ _ _) _) _ _ _); first | ((first | with_reducible show wpAny _ _ (eval (PySem.Expr.ListComp (PySem.Expr.IfExp _ _ _ _) _ _ _) _) _ _ _ | with_reducible show wpAny _ _ (eval (PySem.Expr.ListComp (PySem.Expr.Call (PySem.Expr.Name _ _) _ _ _) _ _ _) _) _ _ _); k_dflt (refine ListComp_S (F₀ := by k_asm) (by with_unfolding_all rfl) (by decide) (by rfl) (by decide) (by rfl) (hltQ ?_))) | ((with_reducible show wpAny _ _ (eval (PySem.Expr.ListComp (PySem.Expr.Name _ _) _ _ _) _) _ _ _); k_dflt (refine ListComp_T (F₀ := by k_asm) (by with_unfolding_all rfl) (by decide) (by rfl) (by decide) (by rfl) (hltQ ?_))) | k_dflt (refine ListComp_U (F₀ := by k_asm) (by with_unfolding_all rfl) (by decide) (by rfl) (by decide) (by rfl) (hltQ ?_)))); k_steps))
          rename Fr _ _ _ _ => eF
          rename News _ _ _ _ => eN
          exact CEnd.intro _ eF eN (fun p hp => hp) ho ⟨rfl, rfl⟩
      · intro i zs nw v I oI C oC D m₂ h tk E' hj hJ hP hns hx₁ ho h1 h2 h3 F' N'
        (have zq := hJ; (try clear hJ); refine ex1 zq ?_; clear zq; intro us zr; refine an3 zr ?_; clear zr; intro ze45 hrow hus; subst ze45)
        clear lF lN
        (have zq := ring_at (DZ.ok.perm _) hper hrok htx (by simpa using hP); refine ex2 zq ?_; clear zq; intro r tv zr; refine an4 zr ?_; clear zr; intro ze47 hr9 hrl9 hrow9; subst ze47)
        (k_steps <;> repeat' ((first | (refine hltI ?_; (with_reducible show wpAny _ _ (eval (PySem.Expr.ListComp _ _ _ _) _) _ _ _); first | ((first | with_reducible show wpAny _ _ (eval (PySem.Expr.ListComp (PySem.Expr.IfExp _ _ _ _) _ _ _) _) _ _ _ | with_reducible show wpAny _ _ (eval (PySem.Expr.ListComp (PySem.Expr.Call (PySem.Expr.Name _ _) _ _ _) _ _ _) _) _ _ _); k_dflt (refine ListComp_S (F₀ := by k_asm) (by with_unfolding_all rfl) (by decide) (by rfl) (by decide) (by rfl) (hltQ ?_))) | ((with_reducible show wpAny _ _ (eval (PySem.Expr.ListComp (PySem.Expr.Name _ _) _ _ _) _) _ _ _); k_dflt (refine ListComp_T (F₀ := by k_asm) (by with_unfolding_all rfl) (by decide) (by rfl) (by decide) (by rfl) (hltQ ?_))) | k_dflt (refine ListComp_U (F₀ := by k_asm) (by with_unfolding_all rfl) (by decide) (by rfl) (by decide) (by rfl) (hltQ ?_)))); k_steps))
        refine hltI ?_
        rename Fr _ _ _ _ => lF
        rename News _ _ _ _ => lN
        refine SrcS.intro (y := txt z r) (by rfl) lF lN (by rw [txt_size DZ.lt hr9, sizeLine_eq]; omega) (fun g => ?_)
        refine restUc (fun j zs => IntsAre zs ((r.take j).map (cs z))) .nil trivial ?_ ?_
        · intro zs2 hJ2 D2 h2' tk2 F2 N2 ho2
          clear lF lN
          rw [txt_size DZ.lt hr9, List.take_length] at hJ2
          refine CEnd.intro ((D2, lst zs2) :: (us ++ _)) F2 N2 (fun p hp => by
            simp only [List.mem_cons] at hp ⊢
            rcases hp with hp | hp | hp | hp | hp
            · exact .inr (.inl hp)
            · exact .inr (.inr (.inl hp))
            · exact .inr (.inr (.inr (.inl hp)))
            · exact .inl hp
            · exact .inr (.inr (.inr (.inr hp)))) (List.forall_mem_cons.mpr ⟨⟨Ne.symm ho2.1, Ne.symm ho2.2.1, Ne.symm ho2.2.2.1⟩, ho⟩) ⟨(D2, lst zs2) :: us, rfl, ?_, List.forall_mem_cons.mpr ⟨⟨fun e => (by cases e), fun v e => (by cases e)⟩, hus⟩⟩
          rw [List.take_add_one, hrow9]
          exact RowAll.snoc (hrow.mono fun p hp => .tail _ hp) (.head _) hJ2
        · intro j zs2 v2 I2 oI2 C2 oC2 D2 m₃ h4 tk4 E4 hj2 hJ2 hP2 hns2 hx2 ho2 e1 e2 e3 F2 N2
          clear lF lN
          (have zq := txt_sign DZ.lt hr9 hP2; refine ex2 zq ?_; clear zq; intro s9 ts9' zr; refine an3 zr ?_; clear zr; intro hs9' hlt9 ze51; subst ze51)
          have h3c := DZ.lt.let3 s9 hlt9
          have hcs : cs z s9 = sc ((ltab z).getD s9 Str.empty) := rfl
          generalize (ltab z).getD s9 Str.empty = c9 at hx2 h3c hcs
          (k_steps <;> repeat' ((first | (refine hltI ?_; (with_reducible show wpAny _ _ (call (Value.ref _) _ _) _ _ _); k_dflt (refine' useV (S := sub_spec (by assumption)) (k := ?_)); intro _ _ _ _ _) | (refine hltI ?_; (with_reducible show wpAny _ _ (eval (PySem.Expr.ListComp _ _ _ _) _) _ _ _); first | ((first | with_reducible show wpAny _ _ (eval (PySem.Expr.ListComp (PySem.Expr.IfExp _ _ _ _) _ _ _) _) _ _ _ | with_reducible show wpAny _ _ (eval (PySem.Expr.ListComp (PySem.Expr.Call (PySem.Expr.Name _ _) _ _ _) _ _ _) _) _ _ _); k_dflt (refine ListComp_S (F₀ := by k_asm) (by with_unfolding_all rfl) (by decide) (by rfl) (by decide) (by rfl) (hltQ ?_))) | ((with_reducible show wpAny _ _ (eval (PySem.Expr.ListComp (PySem.Expr.Name _ _) _ _ _) _) _ _ _); k_dflt (refine ListComp_T (F₀ := by k_asm) (by with_unfolding_all rfl) (by decide) (by rfl) (by decide) (by rfl) (hltQ ?_))) | k_dflt (refine ListComp_U (F₀ := by k_asm) (by with_unfolding_all rfl) (by decide) (by rfl) (by decide) (by rfl) (hltQ ?_)))); k_steps))
          rename Fr _ _ _ _ => eF
          rename News _ _ _ _ => eN
          refine CEnd.intro _ eF eN (fun p hp => hp) ho2 ⟨rfl, ?_⟩
          rw [List.take_add_one, hs9', List.map_append, ← hcs]
          exact hJ2.append (.cons _ _ .nil)
    · intro j zs v I2 oI C oC D' m₂ h tk E' hj hJ hP hns hx₁ ho' h1 h2 h3 F' N'
      clear lF lN
      (obtain ⟨hjS, tv, rfl⟩ := sign_item hP)
      have hg := DZ.good j (by omega) (by omega)
      have hcr0 : hlook (Txt.item S j) hs9 = none → crossAt S hs9 j = 0 := crossAt_none rfl
      have hcr1 : ∀ x, hlook (Txt.item S j) hs9 = some x → crossAt S hs9 j = 1 := fun x => crossAt_some rfl
      generalize Txt.item S j = c9 at hx₁ hg hcr0 hcr1
      (obtain ⟨g0, g1, g2, g3, g4, g5⟩ := hg)
      have gf : Free nameCode (Txt.lower c9).cps := by rw [g0]; exact g2
      have hks : ∀ q ∈ hs9, q.1.length ≤ 1000 := fun q hq => (hG9.names q hq).1
      (k_steps <;> repeat' ((first | (refine hltI ?_; (with_reducible show wpAny _ _ (eval (PySem.Expr.ListComp _ _ _ _) _) _ _ _); first | ((first | with_reducible show wpAny _ _ (eval (PySem.Expr.ListComp (PySem.Expr.IfExp _ _ _ _) _ _ _) _) _ _ _ | with_reducible show wpAny _ _ (eval (PySem.Expr.ListComp (PySem.Expr.Call (PySem.Expr.Name _ _) _ _ _) _ _ _) _) _ _ _); k_dflt (refine ListComp_S (F₀ := by k_asm) (by with_unfolding_all rfl) (by decide) (by rfl) (by decide) (by rfl) (hltQ ?_))) | ((with_reducible show wpAny _ _ (eval (PySem.Expr.ListComp (PySem.Expr.Name _ _) _ _ _) _) _ _ _); k_dflt (refine ListComp_T (F₀ := by k_asm) (by with_unfolding_all rfl) (by decide) (by rfl) (by decide) (by rfl) (hltQ ?_))) | k_dflt (refine ListComp_U (F₀ := by k_asm) (by with_unfolding_all rfl) (by decide) (by rfl) (by decide) (by rfl) (hltQ ?_))) | (refine hltI ?_; (with_reducible show wpAny _ _ (call (Value.ref _) _ _) _ _ _); k_dflt (refine' use (S := get_spec (by k_mem) (by k_mem) (by k_mem) (by first | assumption | (refine HdrAll.mono (by assumption) (fun _ h9 => ?_); (repeat (refine List.mem_cons_of_mem _ ?_)); exact h9)) (by first | assumption | exact free_name (by decide)) (by first | assumption | omega | decide) (by assumption)) (k := ?_)); intro _ _ _ _ R9 _ _; obtain ⟨R9, e8⟩ := R9; (replace e8 := Eq.symm e8); subst e8; (rcases hgot_cases R9 with ⟨_, e9⟩ | ⟨_, _, _, e9⟩) <;> (subst e9; (try dsimp only); (try k_fold)))); k_steps))
      · rename hlook (Txt.lower c9) hs9 = none => hl0
        rw [g0] at hl0
        rename Fr _ _ _ _ => eF
        rename News _ _ _ _ => eN
        refine CEnd.intro _ eF eN (fun p hp => hp) ho' ⟨rfl, ?_⟩
        rw [List.range_succ, List.map_append]
        refine hJ.append ?_
        show IntsAre [_] [crossAt S hs9 j]
        rw [hcr0 hl0]
        exact .cons _ _ .nil
      · rename hlook (Txt.lower c9) hs9 = some _ => hl0
        rw [g0] at hl0
        rename Fr _ _ _ _ => eF
        rename News _ _ _ _ => eN
        refine CEnd.intro _ eF eN (fun p hp => hp) ho' ⟨rfl, ?_⟩
        rw [List.range_succ, List.map_append]
        refine hJ.append ?_
        show IntsAre [_] [crossAt S hs9 j]
        rw [hcr1 _ hl0]
        exact .cons _ _ .nil
  · intro j zs v I2 oI C oC D' m₂ h tk E' hj hJ hP hns hx₁ ho' h1 h2 h3 F' N'
    clear lF lN
    (have zq := hI9.at j v (by simpa using hP); refine ex2 zq ?_; clear zq; intro a9 ta9 zr; refine an2 zr ?_; clear zr; intro ze56 ha9; subst ze56)
    (k_steps <;> repeat' ((first | (refine hltI ?_; (with_reducible show wpAny _ _ (eval (PySem.Expr.ListComp _ _ _ _) _) _ _ _); first | ((first | with_reducible show wpAny _ _ (eval (PySem.Expr.ListComp (PySem.Expr.IfExp _ _ _ _) _ _ _) _) _ _ _ | with_reducible show wpAny _ _ (eval (PySem.Expr.ListComp (PySem.Expr.Call (PySem.Expr.Name _ _) _ _ _) _ _ _) _) _ _ _); k_dflt (refine ListComp_S (F₀ := by k_asm) (by with_unfolding_all rfl) (by decide) (by rfl) (by decide) (by rfl) (hltQ ?_))) | ((with_reducible show wpAny _ _ (eval (PySem.Expr.ListComp (PySem.Expr.Name _ _) _ _ _) _) _ _ _); k_dflt (refine ListComp_T (F₀ := by k_asm) (by with_unfolding_all rfl) (by decide) (by rfl) (by decide) (by rfl) (hltQ ?_))) | k_dflt (refine ListComp_U (F₀ := by k_asm) (by with_unfolding_all rfl) (by decide) (by rfl) (by decide) (by rfl) (hltQ ?_)))); k_steps))
    rename Fr _ _ _ _ => eF
    rename News _ _ _ _ => eN
    refine CEnd.intro _ eF eN (fun p hp => hp) ho' ⟨rfl, ?_⟩
    rw [List.take_add_one, ha9, List.map_append]
    exact hJ.append (.cons _ _ .nil)
end
end

end

end Mine

theorem PySem.Challenge.cw_to0077_01_holds : PySem.Challenge.rw_to0077_01.Holds :=
  Mine.law0
