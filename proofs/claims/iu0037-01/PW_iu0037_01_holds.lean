import PyProof.Rows.All
import Wide.All
import OpenK.AllK
import Wide.FinOn
import Lean
import PySem.Challenge.RW_iu0037_01
open PySem PySem.W PyProof.Rows
set_option Elab.async false
set_option compiler.extract_closed false
set_option maxRecDepth 100000
namespace Mine
namespace z
theorem tw10556803239720004338 : True := trivial
theorem tw7024073382691028649 : True := trivial
theorem tw5558917064378592783 : True := trivial
theorem tw15611906945078903772 : True := trivial
theorem tw2328631597418470633 : True := trivial
theorem tw5195563343479648323 : True := trivial
theorem tw9740208071669431676 : True := trivial
theorem tw17978341185424486090 : True := trivial
theorem tw3147546694298328359 : True := trivial
theorem tw7959898654013603107 : True := trivial
theorem tw14547269299913133061 : True := trivial
theorem tw7010020157611268869 : True := trivial
theorem tw7400021939012385666 : True := trivial
theorem tw16835558770749504207 : True := trivial
theorem tw359495697075743872 : True := trivial
theorem tw11250797892598620760 : True := trivial
theorem tw8584659188676826068 : True := trivial
theorem tw1113221710741340986 : True := trivial
theorem tw4335479855079095942 : True := trivial
theorem tw7725950022958274832 : True := trivial
theorem tw3170193527149538696 : True := trivial
theorem tw3078376511422998807 : True := trivial
theorem tw6370042419283641445 : True := trivial
theorem tw1910142231559966858 : True := trivial
theorem tw9661043584663962590 : True := trivial
theorem tw12467173695606063321 : True := trivial
theorem tw10368367325949986570 : True := trivial
theorem tw4602912326805877477 : True := trivial
theorem tw14979401994759953622 : True := trivial
theorem tw9614727409116227703 : True := trivial
theorem tw5514116065243836311 : True := trivial
theorem tw4345733900664550476 : True := trivial
theorem tw15115547560357680309 : True := trivial
theorem tw10037383494529065666 : True := trivial
theorem tw17011881893755710347 : True := trivial
theorem tw9853037784540684966 : True := trivial
theorem tw6220135749890035492 : True := trivial
theorem tw11571168813217788189 : True := trivial
theorem tw1849731312782039617 : True := trivial
theorem tw9206749503287299991 : True := trivial
theorem tw7688254909521520540 : True := trivial
theorem tw4646240207182619990 : True := trivial
theorem tw711709642351663164 : True := trivial
theorem tw12811207897020938318 : True := trivial
theorem tw14100688008202972680 : True := trivial
theorem tw16538024110880221495 : True := trivial
theorem tw12127354997449280887 : True := trivial
theorem tw15929061381622781003 : True := trivial
theorem tw11285254703149540577 : True := trivial
theorem tw6179025386484833741 : True := trivial
theorem tw11814682140881668871 : True := trivial
theorem tw6916883375222756818 : True := trivial
theorem tw3154910243671889206 : True := trivial
theorem tw7333564557504332338 : True := trivial
theorem tw2234012019363809969 : True := trivial
theorem tw7318082221001775207 : True := trivial
theorem tw5849966845501720114 : True := trivial
theorem tw10153177087102919843 : True := trivial
theorem tw1515572187375455262 : True := trivial
theorem tw13103223885558401008 : True := trivial
theorem tw7889980659411212214 : True := trivial
theorem tw68496846923004064 : True := trivial
theorem tw6896813998438139368 : True := trivial
theorem tw6869574631619037934 : True := trivial
theorem tw4657370345910620210 : True := trivial
theorem tw7710494367347233207 : True := trivial
theorem tw10430180263091976253 : True := trivial
theorem tw1424656203294810514 : True := trivial
theorem tw9537006584659520459 : True := trivial
theorem tw11531438388220087080 : True := trivial
theorem tw1016145832967766359 : True := trivial
theorem tw10582498687916519026 : True := trivial
theorem tw866169785744852816 : True := trivial
theorem tw8071811976179501501 : True := trivial
theorem tw1949267607208935162 : True := trivial
theorem tw16256072167118782916 : True := trivial
theorem tw15302613715071508486 : True := trivial
theorem tw5804578662646630106 : True := trivial
theorem tw17085151186507424486 : True := trivial
theorem tw5546187676239717356 : True := trivial
theorem tw17754461566167693643 : True := trivial
theorem tw16680305539583038266 : True := trivial
theorem tw16310830008310529836 : True := trivial
theorem tw4914337744161518853 : True := trivial
theorem tw9001350846481990495 : True := trivial
theorem tw5164674639218021665 : True := trivial
theorem tw8756865553700693225 : True := trivial
theorem tw17817684452795073979 : True := trivial
theorem tw13308457929240831960 : True := trivial
theorem tw6397843395153317136 : True := trivial
theorem tw5040431410812021418 : True := trivial
theorem tw439874055944452967 : True := trivial
theorem tw9530467417561895202 : True := trivial
theorem tw16753058983387725917 : True := trivial
theorem tw5087051726379627982 : True := trivial
theorem tw5152265219972940773 : True := trivial
theorem tw5635379494208284081 : True := trivial
theorem tw4013749726106452486 : True := trivial
theorem tw11242121616551589309 : True := trivial
theorem tw16401337447212134233 : True := trivial
theorem tw4047620944915376298 : True := trivial
theorem tw11474231537535751061 : True := trivial
theorem tw10721979878455923617 : True := trivial
theorem tw10701558821121728063 : True := trivial
theorem tw15737426587002419302 : True := trivial
theorem tw14055962950049397917 : True := trivial
theorem tw4283350664019092277 : True := trivial
theorem tw9373925743874870410 : True := trivial
theorem tw3685504939812786188 : True := trivial
theorem tw7357416676703920565 : True := trivial
theorem tw8759592659018869081 : True := trivial
theorem tw8640343289702792364 : True := trivial
theorem tw3480302239954471051 : True := trivial
theorem tw14585309700198169312 : True := trivial
theorem tw737171799985972130 : True := trivial
theorem tw15521974984978143261 : True := trivial
theorem tw7260998228543480387 : True := trivial
theorem tw15479745023956236632 : True := trivial
theorem tw9780864252828085354 : True := trivial
theorem tw10082904119969201068 : True := trivial
theorem tw2536814426798296111 : True := trivial
theorem tw17240447326403959585 : True := trivial
theorem tw2368144575757198625 : True := trivial
theorem tw5897444624281269298 : True := trivial
theorem tw17734365595947861187 : True := trivial
theorem tw8978625804338610294 : True := trivial
theorem tw8746046270547216045 : True := trivial
theorem tw7620960643946762999 : True := trivial
theorem tw3508836602832402424 : True := trivial
theorem tw5899085914022075042 : True := trivial
theorem tw14594370160558915503 : True := trivial
theorem tw6931554014718253193 : True := trivial
theorem tw1590924073587504013 : True := trivial
theorem tw5509150159491438958 : True := trivial
theorem tw2800715883969929743 : True := trivial
theorem tw13506729295368353615 : True := trivial
theorem tw9156844619454506964 : True := trivial
theorem tw8142222455932490350 : True := trivial
theorem tw8079617284973793320 : True := trivial
theorem tw750175409974433251 : True := trivial
theorem tw41451356726291848 : True := trivial
theorem tw3196973312480841301 : True := trivial
theorem tw2345627231522714555 : True := trivial
theorem tw13557168366043331816 : True := trivial
theorem tw10694166802311090131 : True := trivial
theorem tw9280374974390821962 : True := trivial
theorem tw8661699237358504147 : True := trivial
theorem tw2771891807554540008 : True := trivial
theorem tw17362569036892206147 : True := trivial
theorem tw15309792965229825280 : True := trivial
theorem tw9809410186422007795 : True := trivial
theorem tw15759351972039321729 : True := trivial
theorem tw17835211141193102994 : True := trivial
theorem tw17319477899801664833 : True := trivial
theorem tw13878980637512684515 : True := trivial
theorem tw17713813402614729331 : True := trivial
theorem tw893854022480051754 : True := trivial
theorem tw1930262157255283051 : True := trivial
theorem tw16113654624633362595 : True := trivial
theorem tw11318200938558676179 : True := trivial
theorem tw8995504313426204597 : True := trivial
theorem tw12463344696522242010 : True := trivial
theorem tw8897500803621564853 : True := trivial
theorem tw11667228998310371153 : True := trivial
theorem tw12476719783719282694 : True := trivial
theorem tw10467612436489268136 : True := trivial
theorem tw9914030047572164067 : True := trivial
theorem tw3575927781865574600 : True := trivial
theorem tw12058005070948220702 : True := trivial
theorem tw15657576200970915271 : True := trivial
theorem tw8312374970408926516 : True := trivial
theorem tw3010093163002982630 : True := trivial
theorem tw4478076696016634683 : True := trivial
theorem tw8441612984287960106 : True := trivial
theorem tw15553268272950478282 : True := trivial
theorem tw11018589059032976511 : True := trivial
theorem tw9538666845715973852 : True := trivial
theorem tw3598519915205401992 : True := trivial
theorem tw7811640150407197965 : True := trivial
theorem tw10683214333162345710 : True := trivial
theorem tw2517362446465440714 : True := trivial
theorem tw16264935629772578393 : True := trivial
theorem tw6306962734683439241 : True := trivial
theorem tw15936293634597612573 : True := trivial
theorem tw5014833173917063619 : True := trivial
theorem tw5172709297664164255 : True := trivial
theorem tw13122033478023174633 : True := trivial
theorem tw18164140273795409712 : True := trivial
theorem tw4977648817378746110 : True := trivial
theorem tw11727456578634025316 : True := trivial
theorem tw3911651902921331412 : True := trivial
theorem tw18403406914910064444 : True := trivial
theorem tw4895111200007975599 : True := trivial
theorem tw3195332576606918188 : True := trivial
theorem tw17290030909499432117 : True := trivial
theorem tw12600655406038473322 : True := trivial
theorem tw1231932296620791978 : True := trivial
theorem tw9542893186349306910 : True := trivial
theorem tw6937780248638769947 : True := trivial
theorem tw9612944731825081934 : True := trivial
theorem tw6406725790975544026 : True := trivial
theorem tw3594698738429737037 : True := trivial
theorem tw3526534081303787672 : True := trivial
theorem tw4565023298820217120 : True := trivial
theorem tw15913797506070240018 : True := trivial
theorem tw15653672407956311947 : True := trivial
theorem tw7781529640332019544 : True := trivial
theorem tw5490209131408731534 : True := trivial
theorem tw2040254322761664826 : True := trivial
theorem tw5378416229943419305 : True := trivial
theorem tw4310937403844153741 : True := trivial
theorem tw8385943107170739628 : True := trivial
theorem tw6908447197712182354 : True := trivial
theorem tw349535967239302291 : True := trivial
theorem tw9444982279820506415 : True := trivial
theorem tw7902203275674202119 : True := trivial
theorem tw14606654637157355622 : True := trivial
theorem tw14271592722733716512 : True := trivial
theorem tw13224442005284499654 : True := trivial
theorem tw3597401976032737019 : True := trivial
theorem tw17380337134180461038 : True := trivial
theorem tw14920868072790276644 : True := trivial
theorem tw12386701344494281777 : True := trivial
theorem tw6584771167206818380 : True := trivial
theorem tw8454077297570414798 : True := trivial
theorem tw561506533691432987 : True := trivial
theorem tw15746263404312767906 : True := trivial
theorem tw4380045181621440372 : True := trivial
theorem tw15394204317552370445 : True := trivial
theorem tw16775466714116803445 : True := trivial
theorem tw3258497836598650843 : True := trivial
theorem tw11410368024752716574 : True := trivial
theorem tw18319213876208280340 : True := trivial
theorem tw16465376278917578148 : True := trivial
theorem tw8365780324216573399 : True := trivial
theorem tw4205008830552227075 : True := trivial
theorem tw2501664429857443440 : True := trivial
theorem tw16733831022949207139 : True := trivial
theorem tw15622418837589643521 : True := trivial
theorem tw14468234314430174404 : True := trivial
theorem tw13804902286895803908 : True := trivial
theorem tw11492294756555668849 : True := trivial
theorem tw11361354461789761154 : True := trivial
theorem tw17724496447723891879 : True := trivial
theorem tw6386758175989258257 : True := trivial
theorem tw5689207145048635547 : True := trivial
theorem tw3302087048051279767 : True := trivial
theorem tw1359205889283414776 : True := trivial
theorem tw13085053295289251343 : True := trivial
theorem tw4822494750459571124 : True := trivial
theorem tw4096113612404001035 : True := trivial
theorem tw14787478381157008545 : True := trivial
theorem tw16202988419494525818 : True := trivial
theorem tw8241810576247876300 : True := trivial
theorem tw3405345916824358196 : True := trivial
theorem tw12333616663938510035 : True := trivial
theorem tw11477950180764954921 : True := trivial
theorem tw9187042102032336111 : True := trivial
theorem tw4506940703378167642 : True := trivial
theorem tw1320481740027427003 : True := trivial
theorem tw12052908195491786862 : True := trivial
theorem tw16166585213020054657 : True := trivial
theorem tw13203290046728837869 : True := trivial
theorem tw7587464286968304730 : True := trivial
theorem tw4596535723147962002 : True := trivial
theorem tw15961725172408993650 : True := trivial
theorem tw2035947129877904239 : True := trivial
theorem tw14915622335848116787 : True := trivial
theorem tw9944850123993538905 : True := trivial
theorem tw9927864969698902083 : True := trivial
theorem tw985708953153009680 : True := trivial
theorem tw9582730362192469406 : True := trivial
theorem tw933488188492446590 : True := trivial
theorem tw9295852727593145533 : True := trivial
theorem tw9162167176846866406 : True := trivial
theorem tw8793958719627900683 : True := trivial
theorem tw8781127066047923479 : True := trivial
theorem tw8623273807169976640 : True := trivial
theorem tw8511682687017237495 : True := trivial
theorem tw8342041805138263183 : True := trivial
theorem tw8324508170885106099 : True := trivial
theorem tw7992199509668513821 : True := trivial
theorem tw7807893842540086958 : True := trivial
theorem tw7666684979976808177 : True := trivial
theorem tw7611686101565549741 : True := trivial
theorem tw75924616082374480 : True := trivial
theorem tw7584384812407024040 : True := trivial
theorem tw7474763782816968223 : True := trivial
theorem tw7381506574640272559 : True := trivial
theorem tw7292704400602362735 : True := trivial
theorem tw7170014108060750940 : True := trivial
theorem tw6993885107011048376 : True := trivial
theorem tw6939285510977822293 : True := trivial
theorem tw6579823048574933026 : True := trivial
theorem tw6524096222970536133 : True := trivial
theorem tw6338600345044760899 : True := trivial
theorem tw6290513570150927817 : True := trivial
theorem tw6161103540434386942 : True := trivial
theorem tw6095902545727108473 : True := trivial
theorem tw5803568856056223972 : True := trivial
theorem tw562877392753857762 : True := trivial
theorem tw5308997319203251679 : True := trivial
theorem tw5256408054855188809 : True := trivial
theorem tw5116102402166392809 : True := trivial
theorem tw4874938683585400715 : True := trivial
theorem tw4663632571315496384 : True := trivial
theorem tw4631326981388701157 : True := trivial
theorem tw4229751991811329593 : True := trivial
theorem tw4212783898262009397 : True := trivial
theorem tw4088667945005087241 : True := trivial
theorem tw394423170575430531 : True := trivial
theorem tw3875516440897943233 : True := trivial
theorem tw3567939423123707675 : True := trivial
theorem tw333392038803674207 : True := trivial
theorem tw3032354136376021423 : True := trivial
theorem tw2960989405238056713 : True := trivial
theorem tw2911622049404941438 : True := trivial
theorem tw2854782786533088658 : True := trivial
theorem tw2745863794290731178 : True := trivial
theorem tw224139993769530687 : True := trivial
theorem tw2228859945857411760 : True := trivial
theorem tw2138833777572384981 : True := trivial
theorem tw2112820630934361185 : True := trivial
theorem tw18381132213860993716 : True := trivial
theorem tw17713126711858658348 : True := trivial
theorem tw1727659679148461797 : True := trivial
theorem tw17212553649619957611 : True := trivial
theorem tw1696575440191213990 : True := trivial
theorem tw16314352879143785473 : True := trivial
theorem tw16144797647034442923 : True := trivial
theorem tw15930613853046307507 : True := trivial
theorem tw15386385398499048910 : True := trivial
theorem tw1538271847360641054 : True := trivial
theorem tw1533910792738878080 : True := trivial
theorem tw15094736874007701381 : True := trivial
theorem tw14889670718367892052 : True := trivial
theorem tw14855931967734379531 : True := trivial
theorem tw14470294143298632417 : True := trivial
theorem tw14128490371949545573 : True := trivial
theorem tw1409279569717728968 : True := trivial
theorem tw13739592883097567293 : True := trivial
theorem tw13643162849350643056 : True := trivial
theorem tw13462523760196267373 : True := trivial
theorem tw13433743483526945298 : True := trivial
theorem tw13351476678093995265 : True := trivial
theorem tw13288364870386466419 : True := trivial
theorem tw1328084490142668070 : True := trivial
theorem tw13152484786991953295 : True := trivial
theorem tw13106234901603641244 : True := trivial
theorem tw1308569405002200099 : True := trivial
theorem tw12980023675954559823 : True := trivial
theorem tw12526016645979326155 : True := trivial
theorem tw12522439961372180414 : True := trivial
theorem tw12512671777890016207 : True := trivial
theorem tw12510393189482805529 : True := trivial
theorem tw12306530760307201626 : True := trivial
theorem tw12110311767687451148 : True := trivial
theorem tw12014817448977708622 : True := trivial
theorem tw11879690651314706359 : True := trivial
theorem tw11863810453948541791 : True := trivial
theorem tw1154104572754427164 : True := trivial
theorem tw11397424835328353813 : True := trivial
theorem tw1134175252290595376 : True := trivial
theorem tw10988634241830588919 : True := trivial
theorem tw10895155461229908691 : True := trivial
theorem tw1085260125344844659 : True := trivial
theorem tw1068488410106485102 : True := trivial
theorem tw10476697065514504014 : True := trivial
theorem tw10376891307382200331 : True := trivial
end z
theorem keep {T P : Prop} (_ : T) (p : P) : P := p
end Mine
set_option maxRecDepth 100000
set_option maxHeartbeats 8000000
set_option Elab.async true in
theorem Mine.z : True :=
  let rec hd : _ → PySem.Challenge.rw_iu0037_01.Holds := fun h => by
    (refine Mine.keep (show type_of% h from ?hc) ?main; exact h; w_on; o_law; k_head; w_witness2)
  trivial
/-- the head leaves the walk's top lines on; the contracts are walked without them -/
theorem Mine.z.off : True := by
  w_top off
  trivial
set_option rowWalk.seconds 0
namespace Mine

theorem any_deep {M : Model} {A A' : Around} {α : Type} {t : Sem α} {Q : α → Shared → Prop} {E : Value → Shared → Prop} {s : Shared}
    (h : wpAny M A t Q E s) (hh : A'.handled = A.handled) (hd : A'.depth ≤ A.depth) (hf : A.frames = A'.frames) (hg : A.guards = A'.guards) (hu : A'.units ≤ A.units) : wpAny M A' t Q E s :=
  fun Γ p I => h Γ p ⟨I.1.trans hh, Nat.le_trans I.2.1 hd, fun l e => I.2.2.1 l (hf ▸ e), fun g e => I.2.2.2.1 g (hg ▸ e), Nat.le_trans I.2.2.2.2 hu⟩
theorem code_deep {M : Model} {A A' : Around} {c : Code} {R : Result → Shared → Prop} {s : Shared}
    (h : codeAny M A c R s) (hh : A'.handled = A.handled) (hd : A'.depth ≤ A.depth) (hf : A.frames = A'.frames) (hg : A.guards = A'.guards) (hu : A'.units ≤ A.units) : codeAny M A' c R s :=
  fun Γ p e I => h Γ p e ⟨I.1.trans hh, Nat.le_trans I.2.1 hd, fun l e => I.2.2.1 l (hf ▸ e), fun g e => I.2.2.2.1 g (hg ▸ e), Nat.le_trans I.2.2.2.2 hu⟩

/-- the place a contract is stated at -/
noncomputable abbrev ctop (dp un : Nat) (gd : Option (List Code)) (cn : Str) (cs : Scope) (L a : Addr) (ccd : Value) (cl : List (Str × Addr)) (outer : List Env) : Around := ktrTop dp un gd cn cs L a ccd cl outer
theorem om_range {i : Nat} : (0 : Int) + (i : Int) * 1 = (i : Int) := by rw [Int.mul_one, Int.zero_add]
theorem om_byte {x : Int} : 0 * 256 + x = x := by rw [Int.zero_mul, Int.zero_add]
theorem ixA {i : Nat} (h : i < 8) : 8 - i = 7 - i + 1 := by revert i; decide
theorem ixB {i : Nat} (h : i < 8) : 7 - (7 - i) = i := by revert i; decide
theorem ixC {i : Nat} (h : i < 8) (h0 : ¬ i = 0) : 7 - (i - 1) = 7 - i + 1 := by revert i; decide
theorem ixD {i : Nat} : 8 - (i + 1) = 7 - i := Nat.succ_sub_succ_eq_sub 7 i
theorem ixF {i : Nat} (h : i < 8) : 8 - (7 - i) = 7 - (7 - i) + 1 := by revert i; decide
theorem ixG {i : Nat} (h : i < 8) : 7 - (7 - i) + (8 - i) = 8 := by revert i; decide
theorem ixH {i : Nat} (h : i + 1 < 8) : 7 - i = 7 - (i + 1) + 1 := by
  have : ∀ i, i < 8 → i + 1 < 8 → 7 - i = 7 - (i + 1) + 1 := by decide
  exact this i (Nat.lt_trans (Nat.lt_succ_self i) h) h
theorem ixI {i : Nat} (h : i < 8) : (7 + (i : Int) * (-1)).toNat = 7 - i := by revert i; decide
theorem ixJ {i : Nat} (h : i < 8) : (8 - 1 - (7 + (i : Int) * (-1))).toNat = i := by revert i; decide
theorem ixK {i : Nat} (h : i ≤ 8) : 8 - i + i = 8 := Nat.sub_add_cancel h
theorem ixL {i : Nat} (h : i < 8) : (7 - (i : Int)).toNat = 7 - i := by revert i; decide
theorem ixM {i : Nat} (h : i < 8) : 7 - i + 1 + i = 8 := by revert i; decide
theorem md1 {x : Nat} (h : ¬ x % 2 = 0) : x % 2 = 1 := (Nat.mod_two_eq_zero_or_one x).resolve_left h
theorem md2 {x : Nat} (h : x % 2 = 0) : 2 * (x / 2) = x := by
  have e := Nat.div_add_mod x 2
  rw [h] at e
  exact e
theorem md3 {x : Nat} (h : ¬ x % 2 = 0) : 2 * (x / 2) + 1 = x := by
  have e := Nat.div_add_mod x 2
  rw [md1 h] at e
  exact e
theorem om_toNat {x : Nat} : (0 * 256 + (x : Int)).toNat = x := by rw [om_byte]; rfl
theorem ixN {i p : Nat} (h : i < 8) (k : p < i) : 7 - i + 1 + (i - 1 - p) = 7 - p := by
  have : ∀ i, i < 8 → ∀ p, p < i → 7 - i + 1 + (i - 1 - p) = 7 - p := by decide
  exact this i h p k
theorem two_cases (a : Nat) : ∃ q, a = 2 * q ∨ a = 2 * q + 1 := by
  rcases Nat.mod_two_eq_zero_or_one a with h | h
  · exact ⟨a / 2, .inl (md2 h).symm⟩
  · exact ⟨a / 2, .inr (md3 (fun e => by rw [h] at e; cases e)).symm⟩
theorem half_even (q : Nat) : 2 * q / 2 = q := Nat.mul_div_cancel_left q (by decide)
theorem half_odd (q : Nat) : (2 * q + 1) / 2 = q := Nat.mul_add_div (by decide) q 1
theorem ixP {i : Nat} (h : i < 8) : 0 ≤ 7 + (i : Int) * (-1) ∧ 7 + (i : Int) * (-1) ≤ 60 ∧ 0 ≤ 8 - 1 - (7 + (i : Int) * (-1)) ∧ 8 - 1 - (7 + (i : Int) * (-1)) = (i : Int) := by revert i; decide
end Mine
local macro_rules | `(tactic| omega) => `(tactic| first
  | with_reducible assumption
  | ((with_reducible show @LE.le Nat _ _ _); with_reducible first
    | exact Nat.le_trans (by assumption) (by decide)
    | exact Nat.le_trans (Nat.le_of_lt (by assumption)) (by decide)
    | exact Nat.le_trans (Nat.le_of_eq (by assumption)) (by decide)
    | decide)
  | ((with_reducible show @LT.lt Nat _ _ _); with_reducible first
    | exact Nat.lt_of_le_of_lt (by assumption) (by decide)
    | exact Nat.lt_of_lt_of_le (by assumption) (by decide)
    | exact Nat.lt_of_le_of_lt (Nat.le_of_eq (by assumption)) (by decide)
    | decide)
  | with_reducible exact Mine.om_range
  | with_reducible exact Mine.om_byte)
namespace Mine

abbrev By : Type := List UInt8

/-- the n-th name of the register: n as 32 octets -/
noncomputable def enc (n : Nat) : By := (KTBy.low (n : Int) 32).reverse
theorem enc_length (n : Nat) : (enc n).length = 32 := by unfold enc; rw [List.length_reverse, KTBy.low_length]
theorem little_inj : ∀ (n : Nat) (x y : Int), 0 ≤ x → 0 ≤ y → x < 256 ^ n → y < 256 ^ n → KTBy.little n x = KTBy.little n y → x = y
  | 0, x, y, h1, h2, h3, h4, _ => by
    rw [Int.pow_zero] at h3 h4
    omega
  | n + 1, x, y, h1, h2, h3, h4, e => by
    rw [Int.pow_succ] at h3 h4
    injection e with e1 e2
    have q : x / 256 = y / 256 := little_inj n _ _ (by omega) (by omega) (by omega) (by omega) e2
    omega
theorem enc_inj {n k : Nat} (hn : n < 2 ^ 60) (hk : k < 2 ^ 60) (e : enc n = enc k) : n = k := by
  have e1 : KTBy.low (n : Int) 32 = KTBy.low (k : Int) 32 := List.reverse_inj.mp e
  have b : (2 : Int) ^ 60 < 256 ^ 32 := by decide
  have h1 : (n : Int) < 256 ^ 32 := by
    have : (n : Int) < (2 : Int) ^ 60 := by exact_mod_cast hn
    omega
  have h2 : (k : Int) < 256 ^ 32 := by
    have : (k : Int) < (2 : Int) ^ 60 := by exact_mod_cast hk
    omega
  have e2 := congrArg (List.map fun c : UInt8 => ((c.toNat : Nat) : Int)) e1
  rw [KTBy.low_ints (Int.natCast_nonneg n) h1, KTBy.low_ints (Int.natCast_nonneg k) h2, ← KTBy.little_eq, ← KTBy.little_eq] at e2
  have := little_inj 32 _ _ (Int.natCast_nonneg n) (Int.natCast_nonneg k) h1 h2 e2
  omega

theorem bytes_is (prog : Program) (w : World) (b : Array UInt8) (t : Tok) : (bytesKind prog w).is b.toList (.bytes b t) = true := by simp [bytesKind, isBytes]
theorem isBytes_of {prog : Program} {w : World} {k : By} {v : Value} (h : (bytesKind prog w).is k v = true) : ∃ b t, v = .bytes b t ∧ b.toList = k := by
  obtain ⟨t, rfl⟩ := isBytes_shape h
  exact ⟨_, t, rfl, rfl⟩

section
variable {prog : Program} {w : World} {A : Around} {E : Value → Shared → Prop} {s : Shared}
theorem bits32 {n : Nat} (hn : n < 2 ^ 60) : Builtin.Int.intBits (n : Int) ≤ 256 := by
  refine intBits_le_iff.mpr ?_
  have : (2 : Nat) ^ 60 < 2 ^ 256 := by decide
  omega
/-- n.to_bytes(32, 'big') -/
theorem to_bytes32 {n : Nat} {t u v : Tok} {Q : Value → Shared → Prop} (hn : n < 2 ^ 60)
    (h : ∀ (b : Array UInt8) t' k', b.toList = enc n → Q (.bytes b t') { s with toks := k' }) :
    wpAny (model prog w) A (call (.builtin "int.to_bytes") [.int (n : Int) t, .int 32 u, .str (PySem.Str.ofString "big") v]) Q E s := by
  have hb := bits32 hn
  refine wpAny_call_entry KTBy.slot (typeIs_int s (n : Int) t) KTBy.entry ?_ (KTBy.args _ _ _)
  show wpAny _ _ (Builtin.Int.intOfSelf (.int (n : Int) t) >>= fun y => _) _ _ s
  refine wpAny_bind (wpAny_of_eq (a := (n : Int)) rfl ?_)
  show wpAny _ _ (Builtin.Int.intBindNamed "to_bytes" ["length", "byteorder", "signed"] 0 2 [.int 32 u, .str (PySem.Str.ofString "big") v] [] >>= fun l => _) _ _ s
  refine wpAny_bind (wpAny_of_eq (a := [some (.int 32 u), some (.str (PySem.Str.ofString "big") v), none]) (by kernel_rfl) ?_)
  show wpAny _ _ (Builtin.Int.intIndex "int.to_bytes" (.int 32 u) >>= fun n => _) _ _ s
  refine wpAny_bind (wpAny_of_eq (a := (32 : Int)) rfl ?_)
  refine KTBy.if_not (by decide) ?_
  refine wpAny_bind (wpAny_of_eq (a := PySem.Str.ofString "big") (by kernel_rfl) ?_)
  refine wpAny_bind (wpAny_of_eq (a := false) rfl ?_)
  refine wpAny_bind (wpAny_of_eq (a := false) (by kernel_rfl) ?_)
  refine wpAny_ite_false (by decide) ?_
  refine wpAny_ite_false (by decide) ?_
  refine wpAny_ite_false (decide_eq_false (by rw [sizeLine_eq]; decide)) ?_
  refine KTBy.if_not (by rw [decide_eq_false (show ¬ ((n : Int) < 0) by omega)]; rfl) ?_
  refine KTBy.if_not (by
    show (_ && decide ((Builtin.Int.intBits (n : Int) : Int) > 8 * 32)) = false
    rw [decide_eq_false (show ¬ ((Builtin.Int.intBits (n : Int) : Int) > 8 * 32) by omega), Bool.and_false]) ?_
  refine wpAny_bind (wpAny_mkBytes (wpAny_pure ⟨_, rfl, h _ _ _ ?_⟩) ?_)
  · rfl
  · show (enc n).toArray.size ≤ sizeLine
    rw [List.size_toArray, enc_length, sizeLine_eq]; decide
end
theorem to_bytes32i {prog : Program} {w : World} {A : Around} {E : Value → Shared → Prop} {s : Shared} {x : Int} {t u v : Tok} {Q : Value → Shared → Prop} (h0 : 0 ≤ x) (h1 : x < 1152921504606846976)
    (h : ∀ (b : Array UInt8) t' k', b.toList = enc x.toNat → Q (.bytes b t') { s with toks := k' }) :
    wpAny (model prog w) A (call (.builtin "int.to_bytes") [.int x t, .int 32 u, .str (PySem.Str.ofString "big") v]) Q E s := by
  obtain ⟨n, rfl⟩ := Int.eq_ofNat_of_zero_le h0
  exact to_bytes32 (by omega) h
theorem vnone {K : Type} [DecidableEq K] {kvs : List (K × Value)} {k : K} (h : valueAt kvs k = none) : (valueAt kvs k).isSome = false := by rw [h]; rfl
theorem vsome {K : Type} [DecidableEq K] {kvs : List (K × Value)} {k : K} {v : Value} (h : valueAt kvs k = some v) : (valueAt kvs k).isSome = true := by rw [h]; rfl

theorem valueAt_append_self {K : Type} [DecidableEq K] {kvs : List (K × Value)} {k : K} {v : Value} (h : valueAt kvs k = none) : valueAt (kvs ++ [(k, v)]) k = some v := by
  unfold valueAt at h ⊢
  rw [Option.map_eq_none_iff] at h
  rw [List.find?_append, h]
  simp
theorem valueAt_append_old {K : Type} [DecidableEq K] {kvs : List (K × Value)} {k k' : K} {v v' : Value} (h : valueAt kvs k = some v) : valueAt (kvs ++ [(k', v')]) k = some v := by
  unfold valueAt at h ⊢
  rw [List.find?_append]
  obtain ⟨p, hp, rfl⟩ := Option.map_eq_some_iff.mp h
  rw [hp]; rfl
theorem valueAt_append_ne {K : Type} [DecidableEq K] {kvs : List (K × Value)} {k k' : K} {v' : Value} (h : k' ≠ k) : valueAt (kvs ++ [(k', v')]) k = valueAt kvs k := by
  unfold valueAt
  rw [List.find?_append]
  simp [h]

theorem valueAt_stored {K : Type} [DecidableEq K] (kvs : List (K × Value)) (k k' : K) (v : Value) : valueAt (stored kvs k v) k' = if k' = k then some v else valueAt kvs k' := by
  unfold stored
  by_cases h : (kvs.any (fun kv => kv.1 = k)) = true
  · rw [if_pos h]
    unfold valueAt
    induction kvs with
    | nil => simp at h
    | cons p r ih =>
      rw [List.map_cons, List.find?_cons, List.find?_cons]
      by_cases hp : p.1 = k
      · by_cases hk : k' = k
        · subst hk; simp [hp]
        · have h1 : ¬ k = k' := fun e => hk e.symm
          have h2 : ¬ p.1 = k' := fun e => hk (by rw [← e, hp])
          simp only [if_pos hp, if_neg hk, h2, decide_false]
          by_cases hr : (r.any (fun kv => kv.1 = k)) = true
          · have := ih hr
            rw [if_neg hk] at this
            exact this
          · have e : r.map (fun kv => if kv.1 = k then (kv.1, v) else kv) = r := by
              refine (List.map_congr_left (g := id) fun q hq => ?_).trans (List.map_id _)
              have : ¬ q.1 = k := fun e => hr (List.any_eq_true.mpr ⟨q, hq, by simpa using e⟩)
              rw [if_neg this]; rfl
            rw [e]
      · simp only [if_neg hp]
        have hr : (r.any (fun kv => kv.1 = k)) = true := by simpa [hp] using h
        by_cases hk : p.1 = k'
        · have h2 : ¬ k' = k := fun e => hp (by rw [hk, e])
          simp [hk, h2]
        · simp only [hk, decide_false]
          exact ih hr
  · rw [if_neg h]
    by_cases hk : k' = k
    · subst hk
      rw [if_pos rfl]
      refine valueAt_append_self ?_
      unfold valueAt
      rw [Option.map_eq_none_iff, List.find?_eq_none]
      intro q hq e
      exact h (List.any_eq_true.mpr ⟨q, hq, e⟩)
    · rw [if_neg hk, valueAt_append_ne (fun e => hk e.symm)]
theorem valueAt_self {K : Type} [DecidableEq K] {kvs : List (K × Value)} {k : K} {v : Value} : valueAt (stored kvs k v) k = some v := by rw [valueAt_stored, if_pos rfl]

/-- the register: each text at its place, named by its place -/
structure RegIs (kvs : List (By × Value)) (reg : List By) : Prop where
  keys : kvs.map (·.1) = reg
  nodup : reg.Nodup
  vals : ∀ (i : Nat) (k : By) (v : Value), kvs[i]? = some (k, v) → ∃ b t, v = .bytes b t ∧ b.toList = enc (i + 1)
/-- in the register reg the text t bears the name b -/
def Hs (reg : List By) (t b : By) : Prop := ∃ i : Nat, reg[i]? = some t ∧ b = enc (i + 1)
theorem Hs.mono {reg reg' : List By} {t b : By} (h : Hs reg t b) (x : reg <+: reg') : Hs reg' t b := by
  obtain ⟨i, hi, e⟩ := h
  obtain ⟨r, rfl⟩ := x
  exact ⟨i, by rw [List.getElem?_append_left (List.getElem?_eq_some_iff.mp hi).1]; exact hi, e⟩
theorem Hs.len {reg : List By} {t b : By} (h : Hs reg t b) : b.length = 32 := by
  obtain ⟨i, _, e⟩ := h
  rw [e, enc_length]
theorem Hs.fn {reg : List By} {t b b' : By} (hn : reg.Nodup) (h : Hs reg t b) (h' : Hs reg t b') : b = b' := by
  obtain ⟨i, hi, e⟩ := h
  obtain ⟨j, hj, e'⟩ := h'
  obtain ⟨li, gi⟩ := List.getElem?_eq_some_iff.mp hi
  obtain ⟨lj, gj⟩ := List.getElem?_eq_some_iff.mp hj
  have : i = j := (List.getElem_inj hn).mp (gi.trans gj.symm)
  rw [e, e', this]
theorem Hs.inj {reg : List By} {t t' b : By} (hz : reg.length < 2 ^ 50) (h : Hs reg t b) (h' : Hs reg t' b) : t = t' := by
  obtain ⟨i, hi, e⟩ := h
  obtain ⟨j, hj, e'⟩ := h'
  obtain ⟨li, gi⟩ := List.getElem?_eq_some_iff.mp hi
  obtain ⟨lj, gj⟩ := List.getElem?_eq_some_iff.mp hj
  have : i + 1 = j + 1 := enc_inj (by omega) (by omega) (e.symm.trans e')
  have : i = j := by omega
  subst this
  exact Option.some.inj (hi.symm.trans hj)
theorem RegIs.hit {kvs : List (By × Value)} {reg : List By} {t : By} {v : Value} (R : RegIs kvs reg) (h : valueAt kvs t = some v) : ∃ b tk, v = .bytes b tk ∧ Hs reg t b.toList := by
  unfold valueAt at h
  obtain ⟨p, hp, rfl⟩ := Option.map_eq_some_iff.mp h
  have hk := List.find?_some hp
  obtain ⟨i, hi⟩ := List.getElem?_of_mem (List.mem_of_find?_eq_some hp)
  obtain ⟨b, tk, e, e2⟩ := R.vals i p.1 p.2 hi
  have hk' : p.1 = t := by simpa using hk
  refine ⟨b, tk, e, i, ?_, e2⟩
  rw [← R.keys, List.getElem?_map, hi]
  exact congrArg some hk'
theorem RegIs.new {kvs : List (By × Value)} {reg : List By} {t : By} {b : Array UInt8} {tk : Tok} (R : RegIs kvs reg) (h : valueAt kvs t = none) (e : b.toList = enc (kvs.length + 1)) :
    RegIs (kvs ++ [(t, .bytes b tk)]) (reg ++ [t]) ∧ Hs (reg ++ [t]) t b.toList := by
  have hl : kvs.length = reg.length := by rw [← R.keys, List.length_map]
  have hnot : t ∉ reg := by
    intro hm
    rw [← R.keys] at hm
    obtain ⟨p, hp, rfl⟩ := List.mem_map.mp hm
    unfold valueAt at h
    rw [Option.map_eq_none_iff, List.find?_eq_none] at h
    exact h p hp (by simp)
  refine ⟨⟨by rw [List.map_append, R.keys]; rfl, ?_, ?_⟩, ⟨reg.length, ?_, ?_⟩⟩
  · rw [List.nodup_append]
    refine ⟨R.nodup, by simp, ?_⟩
    intro a ha b hb
    rw [List.mem_singleton.mp hb]
    rintro rfl
    exact hnot ha
  · intro i k v hi
    by_cases hlt : i < kvs.length
    · rw [List.getElem?_append_left hlt] at hi
      exact R.vals i k v hi
    · rw [List.getElem?_append_right (by omega)] at hi
      have hi0 : i = kvs.length := by
        have := (List.getElem?_eq_some_iff.mp hi).1
        simp at this
        omega
      subst hi0
      simp at hi
      exact ⟨b, tk, hi.2.symm, e⟩
  · rw [List.getElem?_append_right (Nat.le_refl _)]
    simp
  · rw [e, hl]
end Mine
namespace Mine
section
variable {prog : Program} {w : World} {A : Around} {E : Value → Shared → Prop} {s : Shared} {env : Env} {h₀ : Heap} {x : Str} {body : List Stmt} {Q : Flow → Shared → Prop}

/-- a loop by an invariant over the frame's map and the ledger, whatever it walks over -/
theorem loop_gen {I : Addr} {cs : List Addr} {n : Nat} {P : Nat → Value → Prop} {St : Nat → Heap → Prop} {m₀ : Str → Option Value} {news : List (Addr × Obj)}
    (J : Nat → (Str → Option Value) → List (Addr × Obj) → Prop) (W : Walks prog w A I (I :: cs) [I] n P St) (hL : env.locals ≠ I) (hLc : env.locals ∉ cs) (hI : h₀.get? I = none)
    (hlive : ∀ i h, St i h → ∃ o, h.get? I = some o) (hoff : ∀ p ∈ news, p.1 ≠ I) (hc : ∀ c ∈ cs, (∃ o, h₀.get? c = some o) ∨ ∃ co, ∀ i m nx, J i m nx → (c, co) ∈ nx)
    (hst : St 0 s.heap) (F : Fr h₀ env.locals s.heap m₀) (N : News h₀ env.locals s.heap news) (hj : J 0 m₀ news)
    (turn : ∀ i v m₁ nx it h tk, i < n → P i v → J i m₁ nx → (∀ p ∈ nx, p.1 ≠ I) → Fr h₀ env.locals h (fun y => if y = x then some v else m₁ y) → News h₀ env.locals h ((I, it) :: nx) →
      wpAny (model prog w) A (execs body env) (UnrPost h₀ env.locals { s with heap := h, toks := tk } I it (J (i + 1)) Q) E { s with heap := h, toks := tk })
    (done : ∀ m₁ nx h tk, J n m₁ nx → Fr h₀ env.locals h m₁ → News h₀ env.locals h nx → Q .next { s with heap := h, toks := tk }) :
    LoopAtV prog w A h₀ env x body Q E (.ref I) s := by
  refine ⟨I, I :: cs, [I], n, P, St, m₀, news, J, rfl, W, ?_, ?_, ?_, hst, F, N, hj, ?_, ?_⟩
  · intro hm
    rcases List.mem_cons.mp hm with e | hm
    · exact hL e
    · exact hLc hm
  · intro b hb
    rw [List.mem_singleton.mp hb]
    exact hI
  · intro p hp hm
    exact hoff p hp (List.mem_singleton.mp hm)
  · rintro i v m₁ nx s₁ own ⟨hh, tk, rfl⟩ hin hP hJ hof hown hget hall hSt F₁ N₁
    obtain ⟨it, hit⟩ := hlive _ _ hSt
    have hmI := hall I (List.mem_cons_self ..) hI it hit
    have N₂ : News h₀ env.locals hh ((I, it) :: nx) := fun p hp => by
      rcases List.mem_cons.mp hp with rfl | hp
      · exact N₁ _ (List.mem_append_left _ hmI)
      · exact N₁ _ (List.mem_append_right _ hp)
    have hof' : ∀ p ∈ nx, p.1 ≠ I := fun p hp e => hof p hp (List.mem_singleton.mpr e)
    refine wpAny_mono (turn i v m₁ nx it hh tk hin hP hJ hof' F₁ N₂) (fun f s₂ p => ?_) fun _ _ e => e
    have fin : UnrEnd h₀ env.locals { s with heap := hh, toks := tk } I it (J (i + 1)) s₂ → LoopStepU h₀ env.locals [I] own (J (i + 1)) { s with heap := hh, toks := tk } .next s₂ := by
      rintro ⟨h', tk', m', news', e, F', N', ho, r⟩
      refine ⟨rfl, h', tk', m', news', e, F', fun p hp => ?_, fun p hp hm => ho p hp (List.mem_singleton.mp hm), r⟩
      rcases List.mem_append.mp hp with hp | hp
      · have h2 : hh.get? p.1 = some p.2 := hget p hp
        have hn := (N₁ p (List.mem_append_left _ hp)).2.2
        rcases List.mem_cons.mp (hown p hp) with h1 | h1
        · have h3 : p = (I, it) := by
            rw [h1, hit] at h2
            exact Prod.ext h1 (Option.some.inj h2).symm
          rw [h3]; exact N' _ (List.mem_cons_self ..)
        · rcases hc _ h1 with ⟨o, ho'⟩ | ⟨co, hco⟩
          · rw [ho'] at hn; cases hn
          · have h3 := (N₂ _ (List.mem_cons_of_mem _ (hco i m₁ nx hJ))).1
            rw [h2] at h3
            have h4 : p = (p.1, co) := Prod.ext rfl (Option.some.inj h3)
            rw [h4]; exact N' _ (List.mem_cons_of_mem _ (hco _ _ _ r))
      · exact N' _ (List.mem_cons_of_mem _ hp)
    cases f with
    | ret v => exact .ret p
    | brk => exact .brk p
    | next => exact .next (fin p)
    | cont => exact .cont (fin p)
  · rintro h' tk m' news' F' N' _ hJ
    exact done m' news' h' tk hJ F' N'

/-- over a range -/
theorem loop_range {r : Addr} {a b c : Int} {t u v : Tok} {n : Nat} {m₀ : Str → Option Value} {news : List (Addr × Obj)} (J : Nat → (Str → Option Value) → List (Addr × Obj) → Prop)
    (hh : A.handled = none) (hr : IsRange s.heap r a b c t u v) (hsmall : Builtin.Range.small a b c = true) (hn : Builtin.Range.rangeSize a b c = (n : Int)) (F : Fr h₀ env.locals s.heap m₀) (N : News h₀ env.locals s.heap news) (hj : J 0 m₀ news)
    (turn : ∀ i I tv m₁ nx it h tk, i < n → J i m₁ nx → (∀ p ∈ nx, p.1 ≠ I) → Fr h₀ env.locals h (fun y => if y = x then some (.int (a + (i : Int) * c) tv) else m₁ y) → News h₀ env.locals h ((I, it) :: nx) →
      wpAny (model prog w) A (execs body env) (UnrPost h₀ env.locals { s with heap := h, toks := tk } I it (J (i + 1)) Q) E { s with heap := h, toks := tk })
    (done : ∀ m₁ nx h tk, J n m₁ nx → Fr h₀ env.locals h m₁ → News h₀ env.locals h nx → Q .next { s with heap := h, toks := tk }) :
    wpAny (model prog w) A (pyIter (.ref r)) (fun it s₂ => LoopAtV prog w A h₀ env x body Q E it s₂) E s := by
  refine wpAny_pyIter_range hr hsmall ?_
  have hnew := next_is_new F
  refine loop_gen J (cs := []) (Walks.range hh s.heap.objs.size a c n) ?_ (by simp) hnew (fun i h e => ⟨_, e⟩) ?_ (fun c hc => by cases hc) ?_ (F.push _) (fun p hp => ⟨Heap.get?_push_of_some _ (N p hp).1, (N p hp).2⟩) hj ?_ ?_
  · exact Nat.ne_of_lt F.ns.lt
  · intro p hp e
    exact absurd (Heap.lt_size (N p hp).1) (e ▸ Nat.lt_irrefl _)
  · show IsRangeIter _ _ _ _ _
    rw [hn]
    simpa using Heap.get?_push_size _ rfl
  · rintro i v m₁ nx it h tk hin ⟨tv, rfl⟩ hJ hof F₁ N₁
    exact turn i _ tv m₁ nx it h tk hin hJ hof F₁ N₁
  · exact done

/-- over a list of the ledger, or of the ground -/
theorem loop_list {l : Addr} {vs : List Value} {lo : Obj} {m₀ : Str → Option Value} {news : List (Addr × Obj)} (J : Nat → (Str → Option Value) → List (Addr × Obj) → Prop)
    (hh : A.handled = none) (F : Fr h₀ env.locals s.heap m₀) (N : News h₀ env.locals s.heap news) (hl : s.heap.IsList l vs.toArray) (hlo : h₀.get? l = some lo ∨ (∀ i m nx, J i m nx → (l, lo) ∈ nx)) (hne : l ≠ env.locals) (hj : J 0 m₀ news)
    (turn : ∀ i I v m₁ nx it h tk, vs[i]? = some v → J i m₁ nx → (∀ p ∈ nx, p.1 ≠ I) → Fr h₀ env.locals h (fun y => if y = x then some v else m₁ y) → News h₀ env.locals h ((I, it) :: nx) →
      wpAny (model prog w) A (execs body env) (UnrPost h₀ env.locals { s with heap := h, toks := tk } I it (J (i + 1)) Q) E { s with heap := h, toks := tk })
    (done : ∀ m₁ nx h tk, J vs.length m₁ nx → Fr h₀ env.locals h m₁ → News h₀ env.locals h nx → Q .next { s with heap := h, toks := tk }) :
    wpAny (model prog w) A (pyIter (.ref l)) (fun it s₂ => LoopAtV prog w A h₀ env x body Q E it s₂) E s := by
  have hnew := next_is_new F
  have hls : l < s.heap.objs.size := by
    obtain ⟨o, ho, _⟩ := hl
    exact Heap.lt_size ho
  refine wpAny_pyIter_list hl ?_
  have W := Walks.list (prog := prog) (w := w) hh s.heap.objs.size l (Nat.ne_of_lt hls) vs.toArray
  have hlen : vs.toArray.size = vs.length := by simp
  rw [hlen] at W
  refine loop_gen J W (Nat.ne_of_lt F.ns.lt) (fun hm => hne (List.mem_singleton.mp hm).symm) hnew ?_ ?_ ?_ ⟨⟨_, Heap.get?_push_size _ rfl, rfl, rfl⟩, hl.at fun o e => Heap.get?_push_of_some _ e⟩ (F.push _) (fun p hp => ⟨Heap.get?_push_of_some _ (N p hp).1, (N p hp).2⟩) hj ?_ done
  · rintro i h ⟨⟨o, ho, _⟩, _⟩
    exact ⟨o, ho⟩
  · intro p hp e
    exact absurd (Heap.lt_size (N p hp).1) (e ▸ Nat.lt_irrefl _)
  · intro c hc
    rw [List.mem_singleton.mp hc]
    exact hlo.imp (fun e => ⟨lo, e⟩) fun e => ⟨lo, e⟩
  · intro i v m₁ nx it h tk hin hP hJ hof F₁ N₁
    exact turn i _ v m₁ nx it h tk (by simpa using hP) hJ hof F₁ N₁

/-- over a dict's keys -/
theorem loop_keys {K : Type} [DecidableEq K] {knd : KeyKind prog w K} {d : Addr} {od : Obj} {kvs : List (K × Value)} {m₀ : Str → Option Value} {news : List (Addr × Obj)} (J : Nat → (Str → Option Value) → List (Addr × Obj) → Prop)
    (hh : A.handled = none) (F : Fr h₀ env.locals s.heap m₀) (N : News h₀ env.locals s.heap news) (hd : od.IsDictOf knd kvs) (lo : (d == sysModules) = false) (hm : ∀ i m nx, J i m nx → (d, od) ∈ nx) (hj : J 0 m₀ news)
    (turn : ∀ i I k v kv m₁ nx it h tk, kvs[i]? = some (k, v) → knd.is k kv = true → J i m₁ nx → (∀ p ∈ nx, p.1 ≠ I) → Fr h₀ env.locals h (fun y => if y = x then some kv else m₁ y) → News h₀ env.locals h ((I, it) :: nx) →
      wpAny (model prog w) A (execs body env) (UnrPost h₀ env.locals { s with heap := h, toks := tk } I it (J (i + 1)) Q) E { s with heap := h, toks := tk })
    (done : ∀ m₁ nx h tk, J kvs.length m₁ nx → Fr h₀ env.locals h m₁ → News h₀ env.locals h nx → Q .next { s with heap := h, toks := tk }) :
    wpAny (model prog w) A (pyIter (.ref d)) (fun it s₂ => LoopAtV prog w A h₀ env x body Q E it s₂) E s := by
  have hnew := next_is_new F
  have hmem := hm 0 m₀ news hj
  have hds : d < s.heap.objs.size := Heap.lt_size (N _ hmem).1
  obtain ⟨es, ep, hed, hdata, hk, hp, hn⟩ := hd
  have hD : s.heap.DictAt knd d kvs ep := ⟨od, es, (N _ hmem).1, hed, hdata, hk, hp, hn⟩
  refine wpAny_pyIter_dict lo hD ?_
  have W := Walks.dictKeys (prog := prog) (w := w) (knd := knd) hh s.heap.objs.size d (Nat.ne_of_lt hds) kvs ep
  refine loop_gen J W (Nat.ne_of_lt F.ns.lt) (fun e => (N _ hmem).2.1 (List.mem_singleton.mp e).symm) hnew ?_ ?_ ?_ ?_ (F.push _) (fun p hp => ⟨Heap.get?_push_of_some _ (N p hp).1, (N p hp).2⟩) hj ?_ done
  · rintro i h ⟨⟨o, ho, _⟩, _⟩
    exact ⟨o, ho⟩
  · intro p hp e
    exact absurd (Heap.lt_size (N p hp).1) (e ▸ Nat.lt_irrefl _)
  · intro c hc
    rw [List.mem_singleton.mp hc]
    exact .inr ⟨od, hm⟩
  · exact ⟨⟨_, Heap.get?_push_size _ rfl, rfl, rfl⟩, hD.at' fun o e => Heap.get?_push_of_some _ e⟩
  · rintro i v m₁ nx it h tk hin ⟨k, u, hx, his⟩ hJ hof F₁ N₁
    exact turn i _ k u v m₁ nx it h tk hx his hJ hof F₁ N₁
end
end Mine
namespace Mine
/-- the values are these octets -/
def BsAre : List Value → List By → Prop
  | [], [] => True
  | v :: vs, b :: bs => (∃ a t, v = .bytes a t ∧ a.toList = b) ∧ BsAre vs bs
  | _, _ => False
theorem BsAre.length : ∀ {vs : List Value} {bs : List By}, BsAre vs bs → vs.length = bs.length
  | [], [], _ => rfl
  | _ :: _, _ :: _, h => congrArg (· + 1) (BsAre.length h.2)
  | [], _ :: _, h => h.elim
  | _ :: _, [], h => h.elim
theorem BsAre.get : ∀ {vs : List Value} {bs : List By} {i : Nat} {v : Value}, BsAre vs bs → vs[i]? = some v → ∃ a t, v = .bytes a t ∧ bs[i]? = some a.toList
  | [], [], _, _, _, e => by simp at e
  | _ :: _, _ :: _, 0, _, h, e => by
    obtain ⟨a, t, rfl, e2⟩ := h.1
    simp only [List.getElem?_cons_zero, Option.some.injEq] at e ⊢
    exact ⟨a, t, e.symm, e2.symm⟩
  | _ :: _, _ :: _, i + 1, _, h, e => by
    simp only [List.getElem?_cons_succ] at e ⊢
    exact BsAre.get h.2 e
  | [], _ :: _, _, _, h, _ => h.elim
  | _ :: _, [], _, _, h, _ => h.elim
theorem BsAre.at : ∀ {vs : List Value} {bs : List By} {i : Nat} {b : By}, BsAre vs bs → bs[i]? = some b → ∃ a t, vs[i]? = some (.bytes a t) ∧ a.toList = b
  | [], [], _, _, _, e => by simp at e
  | _ :: _, _ :: _, 0, _, h, e => by
    obtain ⟨a, t, rfl, e2⟩ := h.1
    simp only [List.getElem?_cons_zero, Option.some.injEq] at e ⊢
    exact ⟨a, t, rfl, e2.trans e⟩
  | _ :: _, _ :: _, i + 1, _, h, e => by
    simp only [List.getElem?_cons_succ] at e ⊢
    exact BsAre.at h.2 e
  | [], _ :: _, _, _, h, _ => h.elim
  | _ :: _, [], _, _, h, _ => h.elim
theorem BsAre.append : ∀ {vs ws : List Value} {bs cs : List By}, BsAre vs bs → BsAre ws cs → BsAre (vs ++ ws) (bs ++ cs)
  | [], _, [], _, _, h => h
  | _ :: _, _, _ :: _, _, h, k => ⟨h.1, BsAre.append h.2 k⟩
  | [], _, _ :: _, _, h, _ => h.elim
  | _ :: _, _, [], _, h, _ => h.elim
theorem BsAre.one {a : Array UInt8} {t : Tok} {b : By} (h : a.toList = b) : BsAre [.bytes a t] [b] := ⟨⟨a, t, rfl, h⟩, trivial⟩

/-- a tuple as the model lays it -/
noncomputable abbrev tupOf (vs : List Value) : Obj := { cls := .type "tuple", data := .seq vs.toArray }

/-- the nodes of the tree of 256 leaves: height, place -/
structure Nodes (reg : List By) (val : Nat → By) (nd : Nat → Nat → By) : Prop where
  leaf : ∀ a, a < 256 → Hs reg (val a) (nd 0 a)
  node : ∀ k a, k < 8 → a < 2 ^ (7 - k) → Hs reg (nd k (2 * a) ++ nd k (2 * a + 1)) (nd (k + 1) a)
theorem Nodes.mono {reg reg' : List By} {val : Nat → By} {nd : Nat → Nat → By} (h : Nodes reg val nd) (x : reg <+: reg') : Nodes reg' val nd :=
  ⟨fun a ha => (h.leaf a ha).mono x, fun k a hk ha => (h.node k a hk ha).mono x⟩
theorem Nodes.len {reg : List By} {val : Nat → By} {nd : Nat → Nat → By} (h : Nodes reg val nd) : ∀ k a, k ≤ 8 → a < 2 ^ (8 - k) → (nd k a).length = 32
  | 0, a, _, ha => (h.leaf a ha).len
  | k + 1, a, hk, ha => (h.node k a (by omega) (by rw [show 7 - k = 8 - (k + 1) from ixD.symm]; exact ha)).len
/-- the neighbour's place -/
noncomputable def sib (a : Nat) : Nat := if a % 2 = 0 then a + 1 else a - 1
theorem sib_lt {a k : Nat} (h : a < 2 ^ (k + 1)) : sib a < 2 ^ (k + 1) := by
  rw [Nat.pow_succ] at h ⊢
  unfold sib
  split <;> omega
/-- the nodes beside the way of a leaf, from the top -/
noncomputable def beside (nd : Nat → Nat → By) (a : Nat) : List By := (List.range 8).map fun i => nd (7 - i) (sib (a / 2 ^ (7 - i)))
theorem beside_length (nd : Nat → Nat → By) (a : Nat) : (beside nd a).length = 8 := by simp [beside]
theorem beside_get {nd : Nat → Nat → By} {a i : Nat} (h : i < 8) : (beside nd a)[i]? = some (nd (7 - i) (sib (a / 2 ^ (7 - i)))) := by
  simp [beside, h]

/-- the tree's table holds the text of every node -/
structure DbOk (reg : List By) (kvs : List (By × Value)) (val : Nat → By) (nd : Nat → Nat → By) : Prop where
  nodes : Nodes reg val nd
  sound : ∀ k v, valueAt kvs k = some v → ∃ b t, v = .bytes b t ∧ Hs reg b.toList k
  leaf : ∀ a, a < 256 → (valueAt kvs (nd 0 a)).isSome = true
  node : ∀ k a, k < 8 → a < 2 ^ (7 - k) → (valueAt kvs (nd (k + 1) a)).isSome = true
theorem DbOk.at_leaf {reg : List By} {kvs : List (By × Value)} {val : Nat → By} {nd : Nat → Nat → By} (D : DbOk reg kvs val nd) (hz : reg.length < 2 ^ 50) {a : Nat} (ha : a < 256) :
    ∃ b t, valueAt kvs (nd 0 a) = some (.bytes b t) ∧ b.toList = val a := by
  obtain ⟨v, hv⟩ := Option.isSome_iff_exists.mp (D.leaf a ha)
  obtain ⟨b, t, rfl, h⟩ := D.sound _ _ hv
  exact ⟨b, t, hv, h.inj hz (D.nodes.leaf a ha)⟩
theorem DbOk.at_node {reg : List By} {kvs : List (By × Value)} {val : Nat → By} {nd : Nat → Nat → By} (D : DbOk reg kvs val nd) (hz : reg.length < 2 ^ 50) {k a : Nat} (hk : k < 8) (ha : a < 2 ^ (7 - k)) :
    ∃ b t, valueAt kvs (nd (k + 1) a) = some (.bytes b t) ∧ b.toList = nd k (2 * a) ++ nd k (2 * a + 1) := by
  obtain ⟨v, hv⟩ := Option.isSome_iff_exists.mp (D.node k a hk ha)
  obtain ⟨b, t, rfl, h⟩ := D.sound _ _ hv
  exact ⟨b, t, hv, h.inj hz (D.nodes.node k a hk ha)⟩

theorem Fr.see {h₀ h : Heap} {L : Addr} {m : Str → Option Value} {x : Str} {v : Value} (e : m x = some v) (F : Fr h₀ L h m) : Fr h₀ L h (fun y => if y = x then some v else m y) := by
  have : (fun y => if y = x then some v else m y) = m := by
    funext y
    by_cases h : y = x
    · rw [if_pos h, h, e]
    · rw [if_neg h]
  rw [this]; exact F

/-- a map of which some names are known -/
theorem see_all {m : Str → Option Value} (ps : List (Str × Value)) (h : ∀ p ∈ ps, m p.1 = some p.2) : m = fun y => match ps.lookup y with | some v => some v | none => m y := by
  funext y
  cases e : ps.lookup y with
  | none => rfl
  | some v =>
    have hm : ∀ (l : List (Str × Value)), l.lookup y = some v → (y, v) ∈ l := by
      intro l
      induction l with
      | nil => intro e; cases e
      | cons p r ih =>
        intro e
        rw [List.lookup_cons] at e
        by_cases hp : (y == p.1) = true
        · rw [hp] at e
          have h1 : y = p.1 := eq_of_beq hp
          have h2 : p.2 = v := Option.some.inj e
          rw [h1, ← h2]; exact List.mem_cons_self ..
        · have hp' : (y == p.1) = false := by simpa using hp
          rw [hp'] at e
          exact List.mem_cons_of_mem _ (ih e)
    exact h _ (hm ps e)

/-- the object's dict of the tree -/
structure TD where
  (h1 h2 h3 h4 h5 h6 : Int)
  (k1 k2 k3 k4 k5 k6 v1 v2 : Tok)
@[reducible] noncomputable def tdOf (x : TD) (dflt : Value) (f db : Addr) (root : Value) : Obj :=
  dictOf [⟨x.h1, .str (Str.ofString "_key_size") x.k1, .int 1 x.v1⟩, ⟨x.h2, .str (Str.ofString "depth") x.k2, .int 8 x.v2⟩, ⟨x.h3, .str (Str.ofString "_default") x.k3, dflt⟩, ⟨x.h4, .str (Str.ofString "hash_of") x.k4, .ref f⟩,
    ⟨x.h5, .str (Str.ofString "db") x.k5, .ref db⟩, ⟨x.h6, .str (Str.ofString "root_hash") x.k6, root⟩] 6
end Mine
namespace Mine
/-- the walk halts here: the loop is mine -/
def Stop (P : Prop) : Prop := P
theorem stop_at {P : Prop} (h : Stop P) : P := h
/-- the calls at which the walk halts: those that have a contract -/
theorem stop_call {a : Addr} {M : Model} {A : Around} {args : List Value} {Q : Value → Shared → Prop} {E : Value → Shared → Prop} {s : Shared} (_ : [162, 55, 267, 260, 169, 232, 239, 246, 274, 281, 288, 295, 302, 214].contains a = true)
    (h : Stop (wpAny M A (call (.ref a) args) Q E s)) : wpAny M A (call (.ref a) args) Q E s := h
theorem stop_callU {a : Addr} {M : Model} {A : Around} {args : List Value} {Q : Value → Shared → Prop} {E : Value → Shared → Prop} {s : Shared} (_ : [108, 111].contains a = true)
    (h : Stop (wpAny M A (call (.ref a) args) Q E s)) : wpAny M A (call (.ref a) args) Q E s := h
inductive Mark : Prop where
  | mk
inductive MarkN : Prop where
  | mk
inductive MarkU : Prop where
  | mk
end Mine
namespace Mine
theorem picked_low (b : Array UInt8) : (KBy.picked b none (some 32)).toList = b.toList.take 32 := by
  rw [KBc.picked_eq]
  have e : clipAt b.size 32 = min 32 b.size := KBc.clip_lit _ 32
  simp only [Option.elim, e, List.drop_zero, Nat.sub_zero]
  rw [List.take_eq_take_iff]
  simp
theorem picked_high (b : Array UInt8) : (KBy.picked b (some 32) none).toList = b.toList.drop 32 := by
  rw [KBc.picked_eq]
  have e : clipAt b.size 32 = min 32 b.size := KBc.clip_lit _ 32
  simp only [Option.elim, e]
  by_cases h : 32 ≤ b.size
  · rw [Nat.min_eq_left h]
    exact List.take_of_length_le (by simp)
  · rw [Nat.min_eq_right (by omega), Nat.sub_self, List.take_zero, List.drop_of_length_le (by simp; omega)]
end Mine
namespace Mine
theorem ne_of_raw {d : Addr} {l rest : List (Addr × Obj)} (h : ∀ p ∈ l, p.1 < d) (sub : ∀ p ∈ rest, p ∈ l) : ∀ p ∈ rest, p.1 ≠ d := fun p hp => Nat.ne_of_lt (h p (sub p hp))
theorem ne_of_off {d : Addr} {l rest : List (Addr × Obj)} (h : ∀ p ∈ l, p.1 ≠ d) (sub : ∀ p ∈ rest, p ∈ l) : ∀ p ∈ rest, p.1 ≠ d := fun p hp => h p (sub p hp)
theorem ne_mem {l : List (Addr × Obj)} {a d : Addr} {o : Obj} (h : ∀ p ∈ l, p.1 ≠ d) (m : (a, o) ∈ l) : @Ne Nat a d := h _ m
theorem ne_mem' {l : List (Addr × Obj)} {a d : Addr} {o : Obj} (h : ∀ p ∈ l, p.1 ≠ d) (m : (a, o) ∈ l) : @Ne Nat d a := fun e => h _ m e.symm
end Mine
namespace Mine
theorem append_L {prog : Program} {w : World} {A : Around} {E : Value → Shared → Prop} {s : Shared} {h₀ : Heap} {L D : Addr} {m : Str → Option Value} {news news' : List (Addr × Obj)} {vs : List Value} {n : Nat} {x : Value} {Q : Value → Shared → Prop}
    (F : Fr h₀ L s.heap m) (N : News h₀ L s.heap news) (U : Upd D (W.listOf vs.toArray n) (W.listOf (vs ++ [x]).toArray (n + 1)) news news')
    (h : ∀ h', Fr h₀ L h' m → News h₀ L h' news' → Q .none { s with heap := h' }) (hsz : vs.length ≤ 16777216) : wpAny (model prog w) A (call (.builtin "list.append") [.ref D, x]) Q E s := by
  have e : (vs ++ [x]).toArray = vs.toArray.push x := by simp
  rw [e] at U
  exact append_K F N U h (by rw [List.size_toArray, sizeLine_eq]; exact hsz)
end Mine
namespace Mine
theorem bitAnd_two (n k : Nat) : Builtin.bitAnd (n : Int) ((2 ^ k : Nat) : Int) = ((n &&& 2 ^ k : Nat) : Int) := by
  unfold Builtin.bitAnd
  rw [decide_eq_true (Int.natCast_nonneg n), decide_eq_true (Int.natCast_nonneg (2 ^ k))]
  simp only [Int.toNat_natCast]
theorem and_pow {n k : Nat} : (n &&& 2 ^ k = 0) ↔ n / 2 ^ k % 2 = 0 := by
  have ht : n.testBit k = decide (n / 2 ^ k % 2 = 1) := Nat.testBit_eq_decide_div_mod_eq
  constructor
  · intro h
    have h2 : (n &&& 2 ^ k).testBit k = false := by rw [h]; simp
    rw [Nat.testBit_and, Nat.testBit_two_pow_self, Bool.and_true, ht, decide_eq_false_iff_not] at h2
    omega
  · intro h
    refine Nat.eq_of_testBit_eq fun i => ?_
    rw [Nat.testBit_and, Nat.testBit_two_pow, Nat.zero_testBit]
    by_cases hi : k = i
    · subst hi
      rw [ht, decide_eq_false (by omega), Bool.false_and]
    · rw [decide_eq_false hi, Bool.and_false]
theorem bit_zero {n k : Nat} (h : Builtin.bitAnd (n : Int) ((2 ^ k : Nat) : Int) = 0) : n / 2 ^ k % 2 = 0 := by
  rw [bitAnd_two] at h
  exact and_pow.mp (by omega)
theorem bit_one {n k : Nat} (h : Builtin.bitAnd (n : Int) ((2 ^ k : Nat) : Int) ≠ 0) : n / 2 ^ k % 2 = 1 := by
  rw [bitAnd_two] at h
  have : ¬ n / 2 ^ k % 2 = 0 := fun e => h (by rw [and_pow.mpr e]; rfl)
  omega
end Mine
namespace Mine
def IsI (m : Str → Option Value) (x : Str) (k : Int) : Prop := ∃ t, m x = some (.int k t)
def IsB (m : Str → Option Value) (x : Str) (b : By) : Prop := ∃ a t, m x = some (.bytes a t) ∧ a.toList = b
def IsR (m : Str → Option Value) (x : Str) (a : Addr) : Prop := m x = some (.ref a)
theorem IsI.of {m : Str → Option Value} {x : Str} {k k' : Int} {t : Tok} (h : m x = some (.int k' t)) (e : k' = k) : IsI m x k := ⟨t, e ▸ h⟩
theorem IsB.of {m : Str → Option Value} {x : Str} {b : By} {a : Array UInt8} {t : Tok} (h : m x = some (.bytes a t)) (e : a.toList = b) : IsB m x b := ⟨a, t, h, e⟩
theorem shr_one (k : Nat) : (((2 ^ (k + 1) : Nat) : Int)).fdiv (2 ^ Int.toNat 1) = ((2 ^ k : Nat) : Int) := by
  have e : (2 : Int) ^ Int.toNat 1 = 2 := by decide
  rw [e, Int.fdiv_eq_ediv_of_nonneg _ (by decide), Nat.pow_succ]
  omega
end Mine
namespace Mine
theorem ne_cls {h₀ h : Heap} {L a b : Addr} {o o' : Obj} {news : List (Addr × Obj)} (N : News h₀ L h news) (h1 : (a, o) ∈ news) (h2 : (b, o') ∈ news) (hc : o.cls ≠ o'.cls) : a ≠ b := by
  rintro rfl
  have e := (N _ h1).1.symm.trans (N _ h2).1
  exact hc (congrArg Obj.cls (Option.some.inj e))
theorem cls_dict {prog : Program} {w : World} {K : Type} [DecidableEq K] {knd : KeyKind prog w K} {o : Obj} {kvs : List (K × Value)} (h : o.IsDictOf knd kvs) : o.cls = .type "dict" := by
  obtain ⟨_, _, hE, _⟩ := h
  exact hE.1
theorem ne_dict {prog : Program} {w : World} {K : Type} [DecidableEq K] {knd : KeyKind prog w K} {o o' : Obj} {kvs : List (K × Value)} (h : o'.IsDictOf knd kvs) (hc : o.cls ≠ .type "dict") : o.cls ≠ o'.cls := by rw [cls_dict h]; exact hc
theorem ne_dict' {prog : Program} {w : World} {K : Type} [DecidableEq K] {knd : KeyKind prog w K} {o o' : Obj} {kvs : List (K × Value)} (h : o.IsDictOf knd kvs) (hc : o'.cls ≠ .type "dict") : o.cls ≠ o'.cls := by rw [cls_dict h]; exact fun e => hc e.symm
end Mine
namespace Mine
open PySem PySem.Spec PySem.Calls
/-- reversed(t) of a tuple -/
noncomputable def revT (l : Addr) (i : Int) : Obj := { cls := .type "reversed", data := .fields #[.ref l, rawInt i] }
theorem sig_rev : Manifest.owners.lookup (String.ofList ['d', 'e', 's', 'r', 'e', 'v', 'e', 'r'].reverse) = some Manifest.sig_reversed := by kernel_rfl
theorem slot_rev_next : Slot "reversed" "__next__" "reversed.__next__" :=
  .of (owner := "reversed") (n := "__next__") (by rw [typeLookup_type, builtinLookup_eq_fast]; kernel_rfl) (by decide +kernel) (by decide +kernel) (by decide +kernel)
    (by first | exact .inl (by decide +kernel) | exact .inr (by decide +kernel)) (by rw [isSubtype_type]; kernel_rfl)
theorem entry_rev_next : entryFor table "reversed.__next__" = some Builtin.«reversed.__next__» := entryFor_of_tree (by kernel_rfl)
theorem args_rev_next (a : Value) : argsOk "reversed.__next__" ⟨[a], []⟩ := by unfold argsOk; kernel_rfl
theorem slot_rev_iter : Slot "reversed" "__iter__" "reversed.__iter__" :=
  .of (owner := "reversed") (n := "__iter__") (by rw [typeLookup_type, builtinLookup_eq_fast]; kernel_rfl) (by decide +kernel) (by decide +kernel) (by decide +kernel)
    (by first | exact .inl (by decide +kernel) | exact .inr (by decide +kernel)) (by rw [isSubtype_type]; kernel_rfl)
theorem args_rev_iter (a : Value) : argsOk "reversed.__iter__" ⟨[a], []⟩ := by unfold argsOk; kernel_rfl
theorem entry_rev_iter : entryFor table "reversed.__iter__" = some Builtin.«dict_keyiterator.__iter__» :=
  entryFor_alias (id' := "dict_keyiterator.__iter__") (by kernel_rfl) (by first | rfl | decide +kernel | (unfold String.splitOn; simp +decide [String.splitOnAux])) (by decide +kernel) (by kernel_rfl)
theorem init_rev : Slot "reversed" "__init__" "object.__init__" :=
  .of (owner := "object") (n := "__init__") (by rw [typeLookup_type, builtinLookup_eq_fast]; kernel_rfl) (by decide +kernel) (by decide +kernel) (by decide +kernel)
    (by first | exact .inl (by decide +kernel) | exact .inr (by decide +kernel)) (by rw [isSubtype_type]; kernel_rfl)
theorem called_rev : TypeCalled "reversed" "reversed.__new__" "object.__init__" :=
  ⟨by decide +kernel, F.create_reversed, ⟨_, _, F.mro_reversed⟩, F.made_reversed, F.plain_reversed_new, F.sub_reversed_self, init_rev⟩
theorem tuple_no_reversed : typeLookup (.type "tuple") "__reversed__" = pure none := by rw [typeLookup_type, builtinLookup_eq_fast]; kernel_rfl
theorem meets_rev_new (l : Addr) (items : Array Value) : Meets (Builtin.«reversed.__new__» ⟨[.type "reversed", .ref l], []⟩)
    (fun _ R s => IsTup s.heap l items ∧ items.size < 2 ^ 60 ∧ ∀ tk, R (.ok (.ret (.ref s.heap.objs.size))) { s with heap := s.heap.push (revT l ((items.size : Int) - 1)), toks := tk }) := by
  refine .of_wp fun prog w A R s hs => ?_
  obtain ⟨ht, hz, h⟩ := hs
  have hT : s.TypeIs (.ref l) "tuple" := ht.typeIs
  unfold Builtin.«reversed.__new__»
  refine wpAny_bind (wpAny_of_eq (newClass_reversed _) ?_)
  try dsimp only
  refine wpAny_bind (wpAny_of_eq (a := ()) (by first | rfl | kernel_rfl) ?_)
  refine wpAny_bind (wpAny_of_eq (a := ()) (by first | rfl | kernel_rfl) ?_)
  try dsimp only
  refine wpAny_bind (wpAny_specialOf hT tuple_no_reversed ?_)
  try dsimp only
  refine wpAny_bind ?_
  show wpAny _ _ (isInstance (.ref l) (.type "dict") >>= _) _ _ s
  refine wpAny_bind (wpAny_isInstance (b := false) hT F.sub_tuple_dict ?_)
  refine KFB.if_not rfl ?_
  show wpAny _ _ (specialOf (.ref l) "__getitem__" >>= _) _ _ s
  refine wpAny_bind (wpAny_specialOf hT F.slot_tuple_getitem.lookup ?_)
  refine KFB.if_so (by decide +kernel) (wpAny_pure ?_)
  refine KFB.if_not rfl ?_
  show wpAny _ _ (call (.builtin "len") [.ref l] >>= _) _ _ s
  refine wpAny_bind (len_tuple ht (by omega) ?_)
  refine wpAny_bind (wpAny_of_eq (a := some (items.size : Int)) rfl ?_)
  show wpAny _ _ (Builtin.SmallTypes.newRecord _ _ >>= _) _ _ _
  unfold Builtin.SmallTypes.newRecord
  refine wpAny_bind (wpAny_newObj_type (wpAny_pure ⟨_, rfl, h _⟩) (by size_fits))

section
variable {prog : Program} {w : World} {A : Around} {E : Value → Shared → Prop} {s : Shared}
theorem call_reversed_tuple {l : Addr} {items : Array Value} {Q : Value → Shared → Prop} (ht : IsTup s.heap l items) (hz : items.size < 2 ^ 60)
    (h : ∀ tk, Q (.ref s.heap.objs.size) { s with heap := s.heap.push (revT l ((items.size : Int) - 1)), toks := tk }) : wpAny (model prog w) A (call (.type "reversed") [.ref l]) Q E s :=
  callType_new called_rev (by decide) (F.typeCall_reversed_1 _) (F.newCall_reversed_1 _) (fun obj => F.args_object_init_2 obj _) F.entry_reversed_new
    (meets_rev_new l items) ⟨ht, hz, fun tk => ⟨⟨_, Heap.get?_push_size _ rfl, rfl⟩, h tk⟩⟩

def IsRevT (h : Heap) (a l : Addr) (i : Int) : Prop := ∃ o, h.get? a = some o ∧ o.cls = .type "reversed" ∧ o.data = .fields #[.ref l, rawInt i]
theorem IsRevT.typeIs {a l : Addr} {i : Int} (x : IsRevT s.heap a l i) : s.TypeIs (.ref a) "reversed" := let ⟨o, ho, hc, _⟩ := x; ⟨o, ho, hc⟩
theorem IsRevT.at {h h' : Heap} {a l : Addr} {i : Int} (x : IsRevT h a l i) (e : ∀ o, h.get? a = some o → h'.get? a = some o) : IsRevT h' a l i := let ⟨o, ho, r⟩ := x; ⟨o, e _ ho, r⟩

theorem next_revT {it l : Addr} {i : Nat} {items : Array Value} {x : Value} {Q : Option Value → Shared → Prop} (hit : IsRevT s.heap it l (i : Int)) (hl : IsTup s.heap l items) (hx : items[i]? = some x) (hz : items.size < 2 ^ 60)
    (hQ : ∀ h' tk, IsRevT h' it l ((i : Int) - 1) → Heap.SameBut it s.heap h' → Q (some x) { s with heap := h', toks := tk }) : wpAny (model prog w) A (pyNext (.ref it)) Q E s := by
  obtain ⟨o, ho, hc, hd⟩ := id hit
  have hlt : i < items.size := by
    rcases Nat.lt_or_ge i items.size with h | h
    · exact h
    · rw [Array.getElem?_eq_none h] at hx; cases hx
  unfold pyNext
  refine wpAny_bind (wpAny_attempt (wpAny_callSpecial?_slot (name := Str.ofString "__next__") hit.typeIs slot_rev_next
    (wpAny_call_entry slot_rev_next hit.typeIs entry_rev_next ?_ (args_rev_next _))))
  unfold Builtin.«reversed.__next__»
  refine wpAny_bind (wpAny_of_eq (a := (Value.ref it, [])) rfl ?_)
  try dsimp only
  refine wpAny_bind (wpAny_field ho hd (x := .ref l) rfl ?_)
  refine wpAny_bind (wpAny_field ho hd (x := rawInt (i : Int)) rfl ?_)
  show wpAny _ _ (if (i : Int) < 0 then _ else _) _ _ s
  rw [if_neg (by omega)]
  show wpAny _ _ (specialOf (.ref l) "__getitem__" >>= _) _ _ s
  refine wpAny_bind (wpAny_specialOf hl.typeIs F.slot_tuple_getitem.lookup ?_)
  refine KFB.if_not rfl ?_
  refine wpAny_bind (wpAny_mkInt ?_)
  refine wpAny_bind (wpAny_attempt (getItem_tuple (j := i) (x := x) hl (by omega) (by omega) ?_ hx ?_))
  · unfold seqIndex?
    first | (simp; omega) | (rw [if_neg (by omega)]; simp; omega)
  try dsimp only
  show wpAny _ _ (field (.ref it) 1 >>= _) _ _ _
  refine wpAny_bind (wpAny_field ho hd (x := rawInt (i : Int)) rfl ?_)
  refine wpAny_bind (wpAny_setField ho hd (by simp) ?_)
  refine wpAny_pure ⟨x, rfl, wpAny_pure (hQ _ _ ?_ (Heap.SameBut.update ..))⟩
  exact ⟨_, Heap.get?_update_self _ ho (Obj.isFreed_of_fields (Obj.data_mapFields hd _)), (Obj.cls_mapFields ..).trans hc, by
    rw [Obj.data_mapFields hd]; simp⟩

theorem end_revT {it l : Addr} {Q : Option Value → Shared → Prop} (hh : A.handled = none) (hit : IsRevT s.heap it l (-1))
    (hQ : ∀ h', Heap.ExtBut it s.heap h' → Q none { s with heap := h' }) : wpAny (model prog w) A (pyNext (.ref it)) Q E s := by
  obtain ⟨o, ho, hc, hd⟩ := id hit
  unfold pyNext
  refine wpAny_bind (wpAny_attempt (wpAny_callSpecial?_slot (name := Str.ofString "__next__") hit.typeIs slot_rev_next
    (wpAny_call_entry slot_rev_next hit.typeIs entry_rev_next ?_ (args_rev_next _))))
  unfold Builtin.«reversed.__next__»
  refine wpAny_bind (wpAny_of_eq (a := (Value.ref it, [])) rfl ?_)
  try dsimp only
  refine wpAny_bind (wpAny_field ho hd (x := .ref l) rfl ?_)
  refine wpAny_bind (wpAny_field ho hd (x := rawInt (-1)) rfl ?_)
  show wpAny _ _ (if (-1 : Int) < 0 then _ else _) _ _ s
  rw [if_pos (by decide)]
  refine wpAny_bind (wpAny_rule ?_)
  refine wpAny_bind ?_
  show wpAny _ _ (setField (.ref it) 1 (rawInt (-1)) >>= fun _ => setField (.ref it) 0 .none) _ _ _
  refine wpAny_bind (wpAny_setField ho hd (by simp) ?_)
  have ho2 : (s.heap.update it (Obj.mapFields (·.setIfInBounds 1 (rawInt (-1))))).get? it = some _ := Heap.get?_update_self _ ho (Obj.isFreed_of_fields (Obj.data_mapFields hd _))
  refine wpAny_setField ho2 (Obj.data_mapFields hd _) (by simp) ?_
  have hx : Heap.ExtBut it s.heap ((s.heap.update it (Obj.mapFields (·.setIfInBounds 1 (rawInt (-1))))).update it (Obj.mapFields (·.setIfInBounds 0 Value.none))) :=
    (Heap.SameBut.extBut (Heap.SameBut.update ..)).trans (Heap.SameBut.extBut (Heap.SameBut.update ..))
  first
  | show wpAny _ _ (newExc (.type "StopIteration") [] >>= _) _ _ _
  | (refine wpAny_bind ?_; show wpAny _ _ (newExc (.type "StopIteration") [] >>= _) _ _ _)
  refine wpAny_bind ?_
  simp only [newExc, newTuple]
  refine wpAny_bind (wpAny_newObj_type ?_ (by size_fits))
  refine wpAny_bind (m := firstArgMember _ _) (wpAny_of_eq (a := Value.none) (by first | rfl | (simp only [firstArgMember]; rfl)) ?_)
  refine wpAny_newObj_type ?_ (by size_fits)
  simp only [raiseNew]
  refine wpAny_bind (wpAny_handled ?_)
  first | rw [show A.in1.handled = none from hh] | rw [hh]
  refine wpAny_bind (wpAny_pure (wpAny_throw ?_))
  refine wpAny_bind (wpAny_isInstance (T := "StopIteration") (b := true) ⟨_, Heap.get?_push_size _ rfl, rfl⟩ isSubtype_stop ?_)
  exact wpAny_pure (hQ _ ((hx.push _).push _))

theorem iter_revT {it l : Addr} {i : Int} {Q : Value → Shared → Prop} (hit : IsRevT s.heap it l i) (h : Q (.ref it) s) : wpAny (model prog w) A (pyIter (.ref it)) Q E s := by
  refine wpAny_pyIter_slot hit.typeIs slot_rev_iter (wpAny_call_entry slot_rev_iter hit.typeIs entry_rev_iter ?_ (args_rev_iter _))
  show wpAny _ _ (ret (.ref it)) _ _ s
  exact wpAny_pure ⟨_, rfl, "reversed", _, hit.typeIs, slot_rev_next.lookup, h⟩
end

theorem Walks.revT {prog : Program} {w : World} {A : Around} (hh : A.handled = none) (I l : Addr) (hne : l ≠ I) (items : Array Value) (hz : items.size < 2 ^ 60) :
    Walks prog w A I [I, l] [I] items.size (fun i v => items[items.size - 1 - i]? = some v) (fun i h => i ≤ items.size ∧ IsRevT h I l ((items.size : Int) - 1 - (i : Int)) ∧ IsTup h l items) where
  sub := fun b hb => by simp at hb; simp [hb]
  frame := fun _ _ _ x hk => ⟨x.1, x.2.1.at fun o e => hk I (by simp) o e, let ⟨o, ho, r⟩ := x.2.2; ⟨o, hk l (by simp) o ho, r⟩⟩
  item := fun i s Q E hi x hQ => by
    have e : (items.size : Int) - 1 - (i : Int) = ((items.size - 1 - i : Nat) : Int) := by omega
    have hit := x.2.1
    rw [e] at hit
    have hx : items[items.size - 1 - i]? = some (items[items.size - 1 - i]'(by omega)) := Array.getElem?_eq_getElem (by omega)
    refine next_revT hit x.2.2 hx hz fun h' tk hit' hs' => ?_
    have e2 : ((items.size - 1 - i : Nat) : Int) - 1 = (items.size : Int) - 1 - ((i + 1 : Nat) : Int) := by omega
    rw [e2] at hit'
    exact hQ _ h' tk hx ⟨hi, hit', x.2.2.extBut hs'.extBut hne⟩ fun b o hb eo => hs'.extBut b o (fun h => hb (by simp [h])) eo
  done := fun s Q E x hQ => by
    have e : (items.size : Int) - 1 - (items.size : Int) = -1 := by omega
    have hit := x.2.1
    rw [e] at hit
    exact end_revT hh hit fun h' he' => hQ h' s.toks fun b o hb eo => he' b o (fun h => hb (by simp [h])) eo
  self := fun _ _ _ _ x hQ => iter_revT x.2.1 hQ

section
variable {prog : Program} {w : World} {A : Around} {E : Value → Shared → Prop} {s : Shared} {h₀ : Heap} {L : Addr} {m : Str → Option Value} {env : Env} {x : Str} {body : List Stmt}
theorem reversed_tup {l : Addr} {vs : List Value} {news : List (Addr × Obj)} {Q : Value → Shared → Prop} (F : Fr h₀ L s.heap m) (N : News h₀ L s.heap news) (hl : (l, tupOf vs) ∈ news) (hz : vs.length < 2 ^ 60)
    (h : ∀ D h' tk, Fr h₀ L h' m → News h₀ L h' ((D, revT l ((vs.length : Int) - 1)) :: news) → (∀ p ∈ news, p.1 < D) → Q (.ref D) { s with heap := h', toks := tk }) : wpAny (model prog w) A (call (.type "reversed") [.ref l]) Q E s := by
  refine call_reversed_tuple (items := vs.toArray) ⟨_, (N _ hl).1, rfl, _, rfl⟩ (by simpa using hz) fun tk => ?_
  have e : ((vs.toArray.size : Nat) : Int) - 1 = (vs.length : Int) - 1 := by simp
  rw [e]
  exact h _ _ _ (F.push _) (News.push F N _) fun p hp => Heap.lt_size (N p hp).1

theorem len_tup {l : Addr} {vs : List Value} {news : List (Addr × Obj)} {Q : Value → Shared → Prop} (N : News h₀ L s.heap news) (hl : (l, tupOf vs) ∈ news) (hz : vs.length < 1152921504606846976)
    (h : ∀ t tk, Q (.int (vs.length : Int) t) { s with toks := tk }) : wpAny (model prog w) A (call (.builtin "len") [.ref l]) Q E s := by
  refine len_tuple (items := vs.toArray) ⟨_, (N _ hl).1, rfl, _, rfl⟩ (by rw [List.size_toArray]; omega) ?_
  have e : ((vs.toArray.size : Nat) : Int) = (vs.length : Int) := by simp
  rw [e]
  exact h _ _
variable {Q : Flow → Shared → Prop}
/-- over a reversed tuple, its record at the ledger's head -/
theorem loop_rev {I l : Addr} {vs : List Value} {m₀ : Str → Option Value} {news : List (Addr × Obj)} (J : Nat → (Str → Option Value) → List (Addr × Obj) → Prop)
    (hh : A.handled = none) (F : Fr h₀ env.locals s.heap m₀) (N : News h₀ env.locals s.heap ((I, revT l ((vs.length : Int) - 1)) :: news)) (hz : vs.length < 2 ^ 60) (hof : ∀ p ∈ news, p.1 ≠ I)
    (hm : ∀ i m nx, J i m nx → (l, tupOf vs) ∈ nx) (hj : J 0 m₀ news)
    (turn : ∀ i v m₁ nx it h tk, i < vs.length → vs[vs.length - 1 - i]? = some v → J i m₁ nx → (∀ p ∈ nx, p.1 ≠ I) → Fr h₀ env.locals h (fun y => if y = x then some v else m₁ y) → News h₀ env.locals h ((I, it) :: nx) →
      wpAny (model prog w) A (execs body env) (UnrPost h₀ env.locals { s with heap := h, toks := tk } I it (J (i + 1)) Q) E { s with heap := h, toks := tk })
    (done : ∀ m₁ nx h tk, J vs.length m₁ nx → Fr h₀ env.locals h m₁ → News h₀ env.locals h nx → Q .next { s with heap := h, toks := tk }) :
    wpAny (model prog w) A (pyIter (.ref I)) (fun it s₂ => LoopAtV prog w A h₀ env x body Q E it s₂) E s := by
  have hmem := hm 0 m₀ news hj
  have hIx := N _ (List.mem_cons_self ..)
  have hl := N _ (List.mem_cons_of_mem _ hmem)
  have hit : IsRevT s.heap I l ((vs.length : Int) - 1) := ⟨_, hIx.1, rfl, rfl⟩
  refine iter_revT hit ?_
  have W := Walks.revT (prog := prog) (w := w) hh I l (hof _ hmem) vs.toArray (by simpa using hz)
  have hlen : vs.toArray.size = vs.length := by simp
  rw [hlen] at W
  refine loop_gen J W (fun e => hIx.2.1 e.symm) (fun e => hl.2.1 (List.mem_singleton.mp e).symm) hIx.2.2 ?_ hof ?_ ⟨Nat.zero_le _, ?_, ⟨_, hl.1, rfl, _, rfl⟩⟩ F (fun p hp => N p (List.mem_cons_of_mem _ hp)) hj ?_ done
  · rintro i h ⟨_, ⟨o, ho, _⟩, _⟩
    exact ⟨o, ho⟩
  · intro c hc
    rw [List.mem_singleton.mp hc]
    exact .inr ⟨_, hm⟩
  · have e : (vs.length : Int) - 1 - ((0 : Nat) : Int) = (vs.length : Int) - 1 := by omega
    rw [e]
    exact hit
  · intro i v m₁ nx it h tk hin hP hJ hof F₁ N₁
    exact turn i v m₁ nx it h tk hin (by simpa using hP) hJ hof F₁ N₁
end
end Mine
namespace Mine
/-- two nodes under one, by the bit of the way -/
noncomputable def mix (a : Nat) (s h : By) : By := if a % 2 = 0 then h ++ s else s ++ h
/-- the text at the height j of the way of u -/
noncomputable def Tn (u : Nat) (v : By) (bs : List By) (hs : Nat → By) : Nat → By
  | 0 => v
  | j + 1 => mix (u / 2 ^ j) (bs.getD (7 - j) []) (hs j)
/-- the names up to the height n -/
def Way (reg : List By) (u : Nat) (v : By) (bs : List By) (n : Nat) (hs : Nat → By) : Prop := ∀ j, j < n → Hs reg (Tn u v bs hs j) (hs j)
theorem Way.mono {reg reg' : List By} {u : Nat} {v : By} {bs : List By} {n : Nat} {hs : Nat → By} (h : Way reg u v bs n hs) (x : reg <+: reg') : Way reg' u v bs n hs := fun j hj => (h j hj).mono x
noncomputable def put (hs : Nat → By) (n : Nat) (b : By) : Nat → By := fun k => if k = n then b else hs k
theorem put_self {hs : Nat → By} {n : Nat} {b : By} : put hs n b n = b := if_pos rfl
theorem put_ne {hs : Nat → By} {n k : Nat} {b : By} (h : k ≠ n) : put hs n b k = hs k := if_neg h
theorem Tn_put {u : Nat} {v : By} {bs : List By} {hs : Nat → By} {n j : Nat} {b : By} (h : j ≤ n) : Tn u v bs (put hs n b) j = Tn u v bs hs j := by
  cases j with
  | zero => rfl
  | succ j => show mix _ _ (put hs n b j) = mix _ _ (hs j); rw [put_ne (by omega)]
theorem Way.snoc {reg : List By} {u : Nat} {v : By} {bs : List By} {n : Nat} {hs : Nat → By} {b : By} (h : Way reg u v bs n hs) (hb : Hs reg (Tn u v bs hs n) b) : Way reg u v bs (n + 1) (put hs n b) := fun j hj => by
  rw [Tn_put (by omega)]
  by_cases e : j = n
  · rw [e, put_self]; exact hb
  · rw [put_ne e]; exact h j (by omega)
theorem Way.zero {reg : List By} {u : Nat} {v : By} {bs : List By} {hs : Nat → By} : Way reg u v bs 0 hs := fun j hj => absurd hj (Nat.not_lt_zero j)
theorem Tn_one {u : Nat} {v : By} {bs : List By} {hs : Nat → By} {j : Nat} {s : By} (h : u / 2 ^ j % 2 = 1) (e : bs[7 - j]? = some s) : Tn u v bs hs (j + 1) = s ++ hs j := by
  show mix _ _ _ = _; unfold mix; rw [if_neg (by omega), List.getD_eq_getElem?_getD, e]; rfl
theorem Tn_zero {u : Nat} {v : By} {bs : List By} {hs : Nat → By} {j : Nat} {s : By} (h : u / 2 ^ j % 2 = 0) (e : bs[7 - j]? = some s) : Tn u v bs hs (j + 1) = hs j ++ s := by
  show mix _ _ _ = _; unfold mix; rw [if_pos h, List.getD_eq_getElem?_getD, e]; rfl
theorem shl_one (k : Nat) : ((2 ^ k : Nat) : Int) * 2 = ((2 ^ (k + 1) : Nat) : Int) := by rw [Nat.pow_succ]; omega
theorem cat_bytes {prog : Program} {w : World} {A : Around} {E : Value → Shared → Prop} {s : Shared} {b c : Array UInt8} {t u : Tok} {Q : Value → Shared → Prop} (hz : b.size + c.size ≤ 16777216)
    (h : ∀ (d : Array UInt8) t' k', d.toList = b.toList ++ c.toList → Q (.bytes d t') { s with toks := k' }) : wpAny (model prog w) A (binaryOp .Add (.bytes b t) (.bytes c u)) Q E s :=
  KBy.add_bytes hz fun t' k' => h _ t' k' (by simp)
theorem ilsh {prog : Program} {w : World} {A : Around} {E : Value → Shared → Prop} {s : Shared} {x : Int} {t u : Tok} {Q : Value → Shared → Prop} (h0 : 0 ≤ x) (h1 : x < 1152921504606846976)
    (h : ∀ t' k', Q (.int (x * 2) t') { s with toks := k' }) : wpAny (model prog w) A (inplaceOp .LShift (.int x t) (.int 1 u)) Q E s := by
  obtain ⟨n, rfl⟩ := Int.eq_ofNat_of_zero_le h0
  have := bits32 (n := n) (by omega)
  exact ilshift_int (by decide) (by omega) (h _ _)
theorem nameOd {prog : Program} {w : World} {K : Type} [DecidableEq K] {knd : KeyKind prog w K} {o : Obj} {kvs : List (K × Value)} (h : o.IsDictOf knd kvs) : ∃ o', o' = o ∧ o'.IsDictOf knd kvs := ⟨o, rfl, h⟩
theorem pow_small {i : Nat} (h : i ≤ 8) : (0 : Int) ≤ ((2 ^ i : Nat) : Int) ∧ ((2 ^ i : Nat) : Int) ≤ 256 := by
  have : 2 ^ i ≤ 2 ^ 8 := Nat.pow_le_pow_right (by decide) h
  exact ⟨Int.natCast_nonneg _, by exact_mod_cast this⟩
end Mine
namespace Mine
open PySem PySem.Spec PySem.Calls
theorem nolen_rev : typeLookup (.type "list_reverseiterator") "__len__" = pure none := by rw [typeLookup_type, builtinLookup_eq_fast]; kernel_rfl
theorem hintOf_rev : typeLookup (.type "list_reverseiterator") "__length_hint__" = pure (some (.builtin "list_reverseiterator.__length_hint__")) := by rw [typeLookup_type, builtinLookup_eq_fast]; kernel_rfl
section
variable {prog : Program} {w : World} {A : Around} {E : Value → Shared → Prop} {s : Shared}
/-- no room is made ahead for a reversed list -/
theorem hint_rev {I : Addr} {Q : Bool → Shared → Prop} (hT : s.TypeIs (.ref I) "list_reverseiterator") (h : Q false s) : wpAny (model prog w) A (Builtin.List.listLengthHint (.ref I)) Q E s := by
  unfold Builtin.List.listLengthHint
  refine wpAny_bind (wpAny_specialOf hT nolen_rev ?_)
  show wpAny _ A (specialOf (Value.ref I) (Str.ofString "__length_hint__") >>= _) _ _ _
  refine wpAny_bind (wpAny_specialOf hT hintOf_rev ?_)
  generalize hid : ("list_reverseiterator.__length_hint__" : String) = id0
  wp_delta
  rw [show splitId id0 = some ("list_reverseiterator", "__length_hint__") from by subst hid; decide +kernel]
  subst hid
  exact wpAny_bind (wpAny_isInstance (b := true) hT (by rw [isSubtype_type]; kernel_rfl) (wpAny_pure h))

theorem collect_rev {I l : Addr} {items : Array Value} {Q : List Value → Shared → Prop} (hh : A.handled = none) (hit : s.heap.IsRevIter I l ((items.size : Int) - 1)) (hl : s.heap.IsList l items) (hne : l ≠ I) (hz : items.size ≤ sizeLine)
    (hQ : ∀ h' tk, (∀ b o, b ≠ I → s.heap.get? b = some o → h'.get? b = some o) → Q items.toList.reverse { s with heap := h', toks := tk }) : wpAny (model prog w) A (collect (.ref I)) Q E s := by
  have hI : I < s.heap.objs.size := let ⟨_, ho, _⟩ := hit; Heap.lt_size ho
  have hll : l < s.heap.objs.size := let ⟨_, ho, _⟩ := hl; Heap.lt_size ho
  have W := (Walks.listRev (prog := prog) (w := w) (A := A.in1) hh I l hne items).toS
  have hSf : s.heap.objs.size ∉ [I, l] := by
    intro hm
    rcases List.mem_cons.mp hm with e | hm
    · exact Nat.lt_irrefl _ (e ▸ hI)
    · exact Nat.lt_irrefl _ (List.mem_singleton.mp hm ▸ hll)
  have hSI : s.heap.objs.size ≠ I := fun e => Nat.lt_irrefl _ (e ▸ hI)
  unfold collect
  refine wpAny_bind (wpAny_runValue (codeAny_builtin F.entry_proto_collect ?_))
  rw [Around.under_plainId F.plain_proto_collect _]
  show wpAny _ A.in1 (newList [] >>= fun l => again (.builtin "list.__iadd__" ⟨[l, .ref I], []⟩)) _ _ s
  refine wpAny_bind (wpAny_newObj_type ?_)
  refine wpAny_pure ⟨plainId_quiet F.plain_list_iadd _, codeAny_builtin F.entry_list_iadd ?_⟩
  rw [Around.under_plainId F.plain_list_iadd _]
  have hst : (0 ≤ items.size ∧ (s.heap.push { cls := .type "list", data := .seq ([] : List Value).toArray }).IsRevIter I l ((items.size : Int) - 1 - ((0 : Nat) : Int)) ∧ (s.heap.push { cls := .type "list", data := .seq ([] : List Value).toArray }).IsList l items) :=
    ⟨Nat.zero_le _, by
      have e : (items.size : Int) - 1 - ((0 : Nat) : Int) = (items.size : Int) - 1 := by omega
      rw [e]
      exact hit.at fun o e => Heap.get?_push_of_some _ e, hl.at fun o e => Heap.get?_push_of_some _ e⟩
  have hS : (s.heap.push { cls := .type "list", data := .seq ([] : List Value).toArray }).get? s.heap.objs.size = some { cls := .type "list", data := .seq ([] : List Value).toArray } := Heap.get?_push_size _ rfl
  have h1 : Builtin.List.listSameRef (.ref s.heap.objs.size) (.ref I) = false := by simp [Builtin.List.listSameRef, hSI]
  show wpAny _ A.in1 (Builtin.List.listExtendWith (.ref s.heap.objs.size) (.ref I) (.ref s.heap.objs.size)) _ _ _
  unfold Builtin.List.listExtendWith
  refine wpAny_bind (wpAny_typeOf (T := "list_reverseiterator") hst.2.1.typeIs ?_)
  rw [if_neg (by rw [h1]; decide)]
  refine wpAny_bind (wpAny_pyIter_revIter hst.2.1 ?_)
  refine wpAny_bind (wpAny_holding (hint_rev hst.2.1.typeIs ?_))
  rw [if_neg (by decide)]
  refine wpAny_pure ⟨plainId_quiet F.plain_extend_loop _, codeAny_extend_loopS W hz _ hSf _ items.size 0 _ _ _ rfl (Nat.zero_le _) hst hS (ItemsOf.nil _) fun s' acc' c' hm hS' hacc => ?_⟩
  show wpAny _ A (load s.heap.objs.size >>= _) _ _ s'
  refine wpAny_bind (wpAny_load hS' (wpAny_pure ?_))
  obtain ⟨h', g', d', t', o'⟩ := s'
  obtain ⟨m1, m2, m3, m4, _⟩ := hm
  have m2 : g' = s.gens := m2
  have m3 : d' = s.drawn := m3
  have m4 : o' = s.os := m4
  subst m2 m3 m4
  have e : acc'.toList = items.toList.reverse := by
    apply List.ext_getElem?
    intro j
    rcases Nat.lt_or_ge j acc'.size with hj | hj
    · have e1 : acc'[j]? = some acc'[j] := Array.getElem?_eq_getElem hj
      have hj2 : j < items.toList.length := by rw [Array.length_toList, ← hacc.1]; exact hj
      rw [Array.getElem?_toList, e1, List.getElem?_reverse hj2, ← hacc.2 j _ e1]
      simp
    · rw [Array.getElem?_toList, Array.getElem?_eq_none hj, List.getElem?_eq_none (by rw [List.length_reverse, Array.length_toList, ← hacc.1]; exact hj)]
  show Q acc'.toList _
  rw [e]
  refine hQ h' t' fun b o hb eb => m1 b o ?_ (Heap.get?_push_of_some _ eb)
  intro hm
  rcases List.mem_cons.mp hm with hm | hm
  · exact absurd (Heap.lt_size eb) (by rw [hm]; exact Nat.lt_irrefl _)
  · exact hb (List.mem_singleton.mp hm)

theorem code_tuple_rev {I l : Addr} {items : Array Value} {Q₁ : Value → Shared → Prop} (hh : A.handled = none) (hit : s.heap.IsRevIter I l ((items.size : Int) - 1)) (hl : s.heap.IsList l items) (hne : l ≠ I) (hz : items.size ≤ sizeLine)
    (h : ∀ (h' : Heap) tk, (∀ b o, b ≠ I → s.heap.get? b = some o → h'.get? b = some o) → Q₁ (.ref h'.objs.size) { s with heap := h'.push { cls := .type "tuple", data := .seq items.toList.reverse.toArray }, toks := tk }) :
    codeAny (model prog w) A (.call (.builtin "tuple.__new__") ⟨[.type "tuple", .ref I], []⟩) (wants Q₁ E) s := by
  refine codeAny_of_tree ?_
  show wpAny _ A.in1 (do checkBuiltinCall "tuple.__new__" ⟨[.type "tuple", .ref I], []⟩; again (.builtin "tuple.__new__" ⟨[.type "tuple", .ref I], []⟩)) _ _ s
  refine wpAny_bind (wpAny_of_eq (F.newCall_tuple_1 _) (wpAny_pure ⟨plainId_quiet F.plain_tuple_new _, codeAny_builtin F.entry_tuple_new ?_⟩))
  rw [Around.under_plainId F.plain_tuple_new _]
  have hsub := sub_tuple_self
  have hinit := init_tuple_lookup
  have hmh := madeHere_tuple
  have hTI : s.TypeIs (.ref I) "list_reverseiterator" := hit.typeIs
  wp_walk using wpAny_typeOf hTI, collect_rev (A := A.in1) hh hit hl hne hz
  intro h' tk hk
  show wpAny _ _ (Builtin.Tuple.tupleExact items.toList.reverse.toArray >>= fun v => ret v) _ _ _
  unfold Builtin.Tuple.tupleExact
  refine wpAny_bind (wpAny_newObj_type ?_ (show items.toList.reverse.toArray.size ≤ sizeLine by simpa using hz))
  exact wpAny_pure (h h' tk hk)

theorem call_tuple_rev {I l : Addr} {items : Array Value} {Q : Value → Shared → Prop} (hh : A.handled = none) (hit : s.heap.IsRevIter I l ((items.size : Int) - 1)) (hl : s.heap.IsList l items) (hne : l ≠ I) (hz : items.size ≤ sizeLine)
    (h : ∀ (h' : Heap) tk, (∀ b o, b ≠ I → s.heap.get? b = some o → h'.get? b = some o) → Q (.ref h'.objs.size) { s with heap := h'.push { cls := .type "tuple", data := .seq items.toList.reverse.toArray }, toks := tk }) :
    wpAny (model prog w) A (call (.type "tuple") [.ref I]) Q E s := by
  refine callType_codes (Q₁ := fun obj s₁ => s₁.TypeIs obj "tuple" ∧ Q obj s₁) F.called_tuple (F.typeCall_tuple_1 _) F.entry_object_init
    (code_tuple_rev hh hit hl hne hz fun h' tk hk => ⟨⟨_, Heap.get?_push_size _ rfl, rfl⟩, h h' tk hk⟩) fun obj s₁ h₁ => ?_
  exact ⟨h₁.1, F.args_object_init_2 obj _, object_init_meets F.called_tuple.init.lookup F.called_tuple.made (by decide) prog w A.in1 _ s₁ ⟨h₁.1, rfl, h₁.2⟩⟩

variable {h₀ : Heap} {L : Addr} {m : Str → Option Value}
/-- tuple(reversed(list)), the reversed list at the ledger's head -/
theorem tuple_rev {I l : Addr} {vs : List Value} {n : Nat} {news : List (Addr × Obj)} {Q : Value → Shared → Prop} (F : Fr h₀ L s.heap m) (N : News h₀ L s.heap ((I, revObj l ((vs.length : Int) - 1)) :: news)) (hh : A.handled = none) (hl : (l, W.listOf vs.toArray n) ∈ news) (hof : ∀ p ∈ news, p.1 ≠ I) (hz : vs.length ≤ 16777216)
    (h : ∀ D h' tk, Fr h₀ L h' m → News h₀ L h' ((D, tupOf vs.reverse) :: news) → (∀ p ∈ news, p.1 < D) → Q (.ref D) { s with heap := h', toks := tk }) : wpAny (model prog w) A (call (.type "tuple") [.ref I]) Q E s := by
  have hI := N _ (List.mem_cons_self ..)
  have hll := N _ (List.mem_cons_of_mem _ hl)
  have e : ((vs.toArray.size : Nat) : Int) - 1 = (vs.length : Int) - 1 := by simp
  refine call_tuple_rev (I := I) (l := l) (items := vs.toArray) hh (by rw [e]; exact ⟨_, hI.1, rfl, rfl⟩) ⟨_, hll.1, rfl, _, rfl⟩ (hof _ hl) (by rw [sizeLine_eq]; simpa using hz) fun h' tk hk => ?_
  have F' : Fr h₀ L h' m := ⟨F.ns.at' fun o eo => hk _ _ hI.2.1.symm eo, fun c x ex => hk c x (fun ec => by rw [ec, hI.2.2] at ex; cases ex) (F.keep c x ex), F.above⟩
  have N' : News h₀ L h' news := fun p hp => ⟨hk _ _ (hof p hp) (N _ (List.mem_cons_of_mem _ hp)).1, (N _ (List.mem_cons_of_mem _ hp)).2⟩
  exact h _ _ _ (F'.push _) (News.push F' N' _) fun p hp => Heap.lt_size (N' p hp).1
end
end Mine
namespace Mine
/-- the nodes behind a set -/
noncomputable def setNd (nd : Nat → Nat → By) (u : Nat) (hs : Nat → By) : Nat → Nat → By := fun k a => if a = u / 2 ^ k then hs k else nd k a
theorem setNd_on {nd : Nat → Nat → By} {u k : Nat} {hs : Nat → By} : setNd nd u hs k (u / 2 ^ k) = hs k := if_pos rfl
theorem setNd_off {nd : Nat → Nat → By} {u k a : Nat} {hs : Nat → By} (h : a ≠ u / 2 ^ k) : setNd nd u hs k a = nd k a := if_neg h
/-- the nodes along the way of a leaf, from the top -/
noncomputable def along (nd : Nat → Nat → By) (a : Nat) : List By := (List.range 8).map fun i => nd (7 - i) (a / 2 ^ (7 - i))
theorem along_length (nd : Nat → Nat → By) (a : Nat) : (along nd a).length = 8 := by simp [along]
theorem along_get {nd : Nat → Nat → By} {a i : Nat} (h : i < 8) : (along nd a)[i]? = some (nd (7 - i) (a / 2 ^ (7 - i))) := by simp [along, h]
theorem half_way (u k : Nat) : u / 2 ^ (k + 1) = u / 2 ^ k / 2 := by rw [Nat.div_div_eq_div_mul, Nat.pow_succ]
theorem Way.nodes {reg : List By} {val : Nat → By} {nd : Nat → Nat → By} {u : Nat} {v : By} {hs : Nat → By} (N : Nodes reg val nd) (W : Way reg u v (beside nd u) 9 hs) : Nodes reg (put val u v) (setNd nd u hs) := by
  refine ⟨fun a ha => ?_, fun k a hk ha => ?_⟩
  · by_cases h : a = u
    · subst h
      have := W 0 (by omega)
      rw [put_self]
      have e : setNd nd a hs 0 a = hs 0 := by unfold setNd; rw [if_pos (by simp)]
      rw [e]; exact this
    · rw [put_ne h, setNd_off (by simpa using h)]
      exact N.leaf a ha
  · have hb : (beside nd u)[7 - k]? = some (nd k (sib (u / 2 ^ k))) := by
      rw [beside_get (by omega), ixB (i := k) (by omega)]
    by_cases h : a = u / 2 ^ (k + 1)
    · have hw := W (k + 1) (by omega)
      rw [h, setNd_on]
      rw [half_way] at h ⊢
      by_cases hq : u / 2 ^ k % 2 = 0
      · rw [Tn_zero hq hb] at hw
        have e1 : 2 * (u / 2 ^ k / 2) = u / 2 ^ k := md2 ‹_›
        have e2 : sib (u / 2 ^ k) = u / 2 ^ k + 1 := by unfold sib; rw [if_pos hq]
        rw [e1, setNd_on, setNd_off (by omega), ← e2]
        exact hw
      · rw [Tn_one (by omega) hb] at hw
        have e1 : 2 * (u / 2 ^ k / 2) + 1 = u / 2 ^ k := md3 ‹_›
        have e2 : sib (u / 2 ^ k) = u / 2 ^ k - 1 := by unfold sib; rw [if_neg hq]
        have e3 : 2 * (u / 2 ^ k / 2) = u / 2 ^ k - 1 := by omega
        rw [e1, setNd_on, setNd_off (by omega), e3, ← e2]
        exact hw
    · rw [setNd_off h]
      rw [half_way] at h
      rw [setNd_off (by omega), setNd_off (by omega)]
      exact N.node k a hk ha
theorem DbOk.set {reg reg' : List By} {kvs kvs' : List (By × Value)} {val : Nat → By} {nd : Nat → Nat → By} {u : Nat} {v : By} {hs : Nat → By} (D : DbOk reg kvs val nd) (hx : reg <+: reg') (W : Way reg' u v (beside nd u) 9 hs)
    (sound : ∀ k x, valueAt kvs' k = some x → ∃ b t, x = .bytes b t ∧ Hs reg' b.toList k) (old : ∀ k, (valueAt kvs k).isSome = true → (valueAt kvs' k).isSome = true) (new : ∀ j, j < 9 → (valueAt kvs' (hs j)).isSome = true) :
    DbOk reg' kvs' (put val u v) (setNd nd u hs) := by
  refine ⟨Way.nodes (D.nodes.mono hx) W, sound, fun a ha => ?_, fun k a hk ha => ?_⟩
  · unfold setNd
    split
    · exact new 0 (by omega)
    · exact old _ (D.leaf a ha)
  · unfold setNd
    split
    · exact new (k + 1) (by omega)
    · exact old _ (D.node k a hk ha)
/-- the table amid a set -/
structure Amid (reg : List By) (kvs kvs' : List (By × Value)) (n : Nat) (hs : Nat → By) : Prop where
  sound : ∀ k x, valueAt kvs' k = some x → ∃ b t, x = .bytes b t ∧ Hs reg b.toList k
  old : ∀ k, (valueAt kvs k).isSome = true → (valueAt kvs' k).isSome = true
  new : ∀ j, j < n → (valueAt kvs' (hs j)).isSome = true
theorem Amid.zero {reg : List By} {kvs : List (By × Value)} {hs : Nat → By} (h : ∀ k x, valueAt kvs k = some x → ∃ b t, x = .bytes b t ∧ Hs reg b.toList k) : Amid reg kvs kvs 0 hs := ⟨h, fun _ h => h, fun j hj => absurd hj (Nat.not_lt_zero j)⟩
theorem Amid.step {reg reg' : List By} {kvs kvs' : List (By × Value)} {n : Nat} {hs : Nat → By} {b : Array UInt8} {t : Tok} {k : By} (A : Amid reg kvs kvs' n hs) (hx : reg <+: reg') (h : Hs reg' b.toList k) :
    Amid reg' kvs (stored kvs' k (.bytes b t)) (n + 1) (put hs n k) := by
  refine ⟨fun k' x e => ?_, fun k' e => ?_, fun j hj => ?_⟩
  · rw [valueAt_stored] at e
    split at e
    · rename_i hk
      subst hk
      exact ⟨b, t, (Option.some.inj e).symm, h⟩
    · obtain ⟨b', t', e1, e2⟩ := A.sound _ _ e
      exact ⟨b', t', e1, e2.mono hx⟩
  · rw [valueAt_stored]
    split
    · rfl
    · exact A.old _ e
  · rw [valueAt_stored]
    by_cases hjn : j = n
    · rw [hjn, put_self, if_pos rfl]; rfl
    · rw [put_ne hjn]
      split
      · rfl
      · exact A.new j (by omega)
/-- the tree's places stand apart -/
structure Apart (td db r : Addr) (rest : List (Addr × Obj)) : Prop where
  a1 : @Ne Nat td db
  a2 : @Ne Nat td r
  a3 : @Ne Nat db r
  b1 : ∀ p ∈ rest, p.1 ≠ r
  b2 : ∀ p ∈ rest, p.1 ≠ db
  b3 : ∀ p ∈ rest, p.1 ≠ td
  c1 : (r == sysModules) = false
theorem ne_all_lt {d : Addr} {rest : List (Addr × Obj)} (h : ∀ p ∈ rest, p.1 < d) : ∀ p ∈ rest, p.1 ≠ d := fun p hp => Nat.ne_of_lt (h p hp)

theorem useC {M : Model} {A' : Around} {Q E : Value → Shared → Prop} {s : Shared} {dp un : Nat} {cn : Str} {cs : Scope} {L a : Addr} {ccd : Value} {cl : List (Str × Addr)} {outer : List Env} {f : Value} {args : List Value}
    (hfr : A'.frames = some (envX cn cs L a ccd cl :: outer)) (hhd : A'.handled = none) (hdp : A'.depth ≤ dp) (hun : A'.units ≤ un)
    (h : codeAny M (ctop dp un A'.guards cn cs L a ccd cl outer) (.call f ⟨args, []⟩) (fun r s' => match r with | .ok (.ret v) => Q v s' | .ok _ => False | .error e => E e s') s) : wpAny M A' (call f args) Q E s :=
  wpAny_call (code_deep h hhd hdp hfr.symm rfl hun)
theorem Hs.size {reg : List By} {t : By} {b : Array UInt8} (h : Hs reg t b.toList) : b.size = 32 := by
  have e := h.len
  rw [Array.length_toList] at e
  exact e
theorem beside_len {reg : List By} {val : Nat → By} {nd : Nat → Nat → By} (N : Nodes reg val nd) {u i : Nat} {b : Array UInt8} (hu : u < 256) (hi : i < 8) (e : (beside nd u)[7 - i]? = some b.toList) : b.size = 32 := by
  rw [beside_get (by omega)] at e
  have e2 := Option.some.inj e
  rw [ixB (i := i) (by omega)] at e2
  rw [← Array.length_toList, ← e2]
  refine N.len i _ (by omega) ?_
  have h : u / 2 ^ i < 2 ^ (7 - i + 1) := by
    rw [Nat.div_lt_iff_lt_mul (Nat.pow_pos (by decide)), ← Nat.pow_add, ixM (i := i) (by omega)]
    exact hu
  rw [ixA (i := i) (by omega)]
  exact sib_lt h
theorem range_put {hs : Nat → By} {n : Nat} {b : By} : (List.range (n + 1)).map (put hs n b) = (List.range n).map hs ++ [b] := by
  rw [List.range_succ, List.map_append]
  congr 1
  · exact List.map_congr_left fun a ha => put_ne (Nat.ne_of_lt (List.mem_range.mp ha))
  · show [put hs n b n] = [b]
    rw [put_self]
theorem range_put' {hs : Nat → By} {n : Nat} {b : By} : (List.range n).map (put hs n b) = (List.range n).map hs :=
  List.map_congr_left fun a ha => put_ne (Nat.ne_of_lt (List.mem_range.mp ha))
theorem setNd_top {nd : Nat → Nat → By} {u : Nat} {hs : Nat → By} (hu : u < 256) : setNd nd u hs 8 0 = hs 8 := by
  have e : u / 2 ^ 8 = 0 := Nat.div_eq_of_lt hu
  unfold setNd
  rw [e, if_pos rfl]
theorem along_set {nd : Nat → Nat → By} {u : Nat} {hs : Nat → By} : along (setNd nd u hs) u = ((List.range 8).map hs).reverse := by
  have e : along (setNd nd u hs) u = (List.range 8).map fun i => hs (7 - i) := List.map_congr_left fun a _ => setNd_on
  rw [e]
  rfl
theorem BsAre.reverse : ∀ {vs : List Value} {bs : List By}, BsAre vs bs → BsAre vs.reverse bs.reverse
  | [], [], _ => trivial
  | v :: vs, b :: bs, h => by
    rw [List.reverse_cons, List.reverse_cons]
    obtain ⟨a, t, rfl, e⟩ := h.1
    exact (BsAre.reverse h.2).append (.one e)
  | [], _ :: _, h => h.elim
  | _ :: _, [], h => h.elim
theorem some_int {o : Option Value} {a b : Int} {t : Tok} (h : o = some (.int a t)) (e : a = b) : o = some (.int b t) := e ▸ h
/-- the empty tree's texts and names -/
noncomputable def Te (d : By) (es : Nat → By) : Nat → By
  | 0 => d
  | j + 1 => es j ++ es j
def Emp (reg : List By) (d : By) (n : Nat) (es : Nat → By) : Prop := ∀ j, j < n → Hs reg (Te d es j) (es j)
theorem Emp.mono {reg reg' : List By} {d : By} {n : Nat} {es : Nat → By} (h : Emp reg d n es) (x : reg <+: reg') : Emp reg' d n es := fun j hj => (h j hj).mono x
theorem Te_put {d : By} {es : Nat → By} {n j : Nat} {b : By} (h : j ≤ n) : Te d (put es n b) j = Te d es j := by
  cases j with
  | zero => rfl
  | succ j => show put es n b j ++ put es n b j = es j ++ es j; rw [put_ne (by omega)]
theorem Emp.zero {reg : List By} {d : By} {es : Nat → By} : Emp reg d 0 es := fun j hj => absurd hj (Nat.not_lt_zero j)
theorem Emp.snoc {reg : List By} {d : By} {n : Nat} {es : Nat → By} {b : By} (h : Emp reg d n es) (hb : Hs reg (Te d es n) b) : Emp reg d (n + 1) (put es n b) := fun j hj => by
  rw [Te_put (by omega)]
  by_cases e : j = n
  · rw [e, put_self]; exact hb
  · rw [put_ne e]; exact h j (by omega)
theorem Emp.nodes {reg : List By} {d : By} {es : Nat → By} (h : Emp reg d 9 es) : Nodes reg (fun _ => d) (fun k _ => es k) :=
  ⟨fun _ _ => h 0 (by omega), fun k _ hk _ => h (k + 1) (by omega)⟩
theorem Emp.db {reg : List By} {kvs : List (By × Value)} {d : By} {es : Nat → By} (h : Emp reg d 9 es) (am : Amid reg [] kvs 9 es) : DbOk reg kvs (fun _ => d) (fun k _ => es k) :=
  ⟨h.nodes, am.sound, fun _ _ => am.new 0 (by omega), fun k _ hk _ => am.new (k + 1) (by omega)⟩
theorem Te_succ {d : By} {es : Nat → By} {j : Nat} {b : By} : Te d (put es j b) (j + 1) = b ++ b := by show put es j b j ++ put es j b j = _; rw [put_self]
theorem useW {M : Model} {A' : Around} {α : Type} {c : Sem α} {Q : α → Shared → Prop} {E : Value → Shared → Prop} {s : Shared} {dp un : Nat} {cn : Str} {cs : Scope} {L a : Addr} {ccd : Value} {cl : List (Str × Addr)} {outer : List Env}
    (hfr : A'.frames = some (envX cn cs L a ccd cl :: outer)) (hhd : A'.handled = none) (hdp : A'.depth ≤ dp) (hun : A'.units ≤ un)
    (h : wpAny M (ctop dp un A'.guards cn cs L a ccd cl outer) c Q E s) : wpAny M A' c Q E s :=
  any_deep h hhd hdp hfr.symm rfl hun
theorem empty_dict {prog : Program} {w : World} {K K' : Type} [DecidableEq K] [DecidableEq K'] {knd : KeyKind prog w K} {knd' : KeyKind prog w K'} {o : Obj} (h : o.IsDictOf knd []) : o.IsDictOf knd' [] := by
  obtain ⟨es, ep, h1, h2, h3, h4, h5⟩ := h
  have e : es = #[] := by
    have := h4
    rcases es with ⟨l⟩
    cases l with
    | nil => rfl
    | cons a l => exact absurd this (by intro x; cases x)
  subst e
  refine ⟨#[], ep, h1, h2, ?_, ?_, List.nodup_nil⟩
  · intro i he
    simp at he
  · constructor
@[reducible] noncomputable def td5Of (x : TD) (dflt : Value) (f db : Addr) : Obj :=
  dictOf [⟨x.h1, .str (Str.ofString "_key_size") x.k1, .int 1 x.v1⟩, ⟨x.h2, .str (Str.ofString "depth") x.k2, .int 8 x.v2⟩, ⟨x.h3, .str (Str.ofString "_default") x.k3, dflt⟩, ⟨x.h4, .str (Str.ofString "hash_of") x.k4, .ref f⟩,
    ⟨x.h5, .str (Str.ofString "db") x.k5, .ref db⟩] 5
theorem all_of_allLt {d : Nat} : ∀ {l : List (Addr × Obj)}, AllLt d l → ∀ p ∈ l, p.1 < d
  | [], _ => List.forall_mem_nil _
  | _ :: _, h => List.forall_mem_cons.mpr ⟨h.1, all_of_allLt h.2⟩
theorem rot3 {h₀ h : Heap} {L : Addr} {a b c : Addr × Obj} {l : List (Addr × Obj)} (N : News h₀ L h (a :: b :: c :: l)) : News h₀ L h (b :: c :: a :: l) := fun p hp => by
  rcases List.mem_cons.mp hp with rfl | hp
  · exact N _ (.tail _ (.head _))
  · rcases List.mem_cons.mp hp with rfl | hp
    · exact N _ (.tail _ (.tail _ (.head _)))
    · rcases List.mem_cons.mp hp with rfl | hp
      · exact N _ (.head _)
      · exact N _ (.tail _ (.tail _ (.tail _ hp)))
end Mine
namespace Mine
abbrev IKV : Type := List (Int × Value)
theorem isInt_of {prog : Program} {w : World} {k : Int} {v : Value} (h : (intKind prog w).is k v = true) : ∃ t, v = .int k t := Value.isInt_shape h
theorem get_of_valueAt {K : Type} [DecidableEq K] {kvs : List (K × Value)} {k : K} {v : Value} (h : valueAt kvs k = some v) : ∃ j : Nat, kvs[j]? = some (k, v) := by
  unfold valueAt at h
  obtain ⟨p, hp, rfl⟩ := Option.map_eq_some_iff.mp h
  have hk := List.find?_some hp
  obtain ⟨j, hj⟩ := List.getElem?_of_mem (List.mem_of_find?_eq_some hp)
  have : p.1 = k := by simpa using hk
  exact ⟨j, by rw [hj, ← this]⟩
theorem mem_stored {K : Type} [DecidableEq K] {kvs : List (K × Value)} {k : K} {v : Value} {p : K × Value} (h : p ∈ stored kvs k v) : p.1 = k ∨ p ∈ kvs := by
  unfold stored at h
  split at h
  · obtain ⟨q, hq, e⟩ := List.mem_map.mp h
    split at e
    · rename_i hk
      subst e
      exact .inl hk
    · exact .inr (e ▸ hq)
  · rcases List.mem_append.mp h with h | h
    · exact .inr h
    · rw [List.mem_singleton.mp h]; exact .inl rfl

/-- the value held at an octet -/
noncomputable def heldVal (kvh : List (By × Value)) (d : By) (a : Nat) : By := match valueAt kvh [UInt8.ofNat a] with | some (.bytes b _) => b.toList | _ => d
structure HeldOk (kvh : List (By × Value)) : Prop where
  nodup : (kvh.map (·.1)).Nodup
  ok : ∀ p ∈ kvh, ∃ (u : UInt8) (b : Array UInt8) (t : Tok), p = ([u], .bytes b t)
/-- the name that a level tells at a place -/
noncomputable def lvAt (kvs : IKV) (e : By) (a : Nat) : By := match valueAt kvs (a : Int) with | some (.bytes b _) => b.toList | _ => e
structure LvOk (kvs : IKV) (n : Nat) : Prop where
  key : ∀ p ∈ kvs, 0 ≤ p.1 ∧ p.1 < (n : Int)
  val : ∀ x v, valueAt kvs x = some v → ∃ b t, v = .bytes b t ∧ b.size = 32
theorem LvOk.get {kvs : IKV} {n : Nat} (h : LvOk kvs n) {eb : Array UInt8} {et : Tok} (he : eb.size = 32) (a : Nat) : ∃ b t, (valueAt kvs (a : Int)).getD (.bytes eb et) = .bytes b t ∧ b.toList = lvAt kvs eb.toList a ∧ b.size = 32 := by
  unfold lvAt
  cases hv : valueAt kvs (a : Int) with
  | none => exact ⟨eb, et, rfl, rfl, he⟩
  | some v =>
    obtain ⟨b, t, rfl, hb⟩ := h.val _ _ hv
    exact ⟨b, t, rfl, rfl, hb⟩
/-- the lowest level amid its making -/
structure Lv0 (reg : List By) (kvh : List (By × Value)) (d : By) (n : Nat) (kvs : IKV) : Prop where
  key : ∀ p ∈ kvs, 0 ≤ p.1 ∧ p.1 < 256
  val : ∀ (a : Nat) v, a < 256 → valueAt kvs (a : Int) = some v → ∃ b t, v = .bytes b t ∧ Hs reg (heldVal kvh d a) b.toList
  has : ∀ j (u : UInt8) x, j < n → kvh[j]? = some ([u], x) → (valueAt kvs (u.toNat : Int)).isSome = true
theorem Lv0.zero {reg : List By} {kvh : List (By × Value)} {d : By} : Lv0 reg kvh d 0 [] :=
  ⟨fun p hp => by simp at hp, fun a v _ h => by simp [valueAt] at h, fun j _ _ hj => absurd hj (Nat.not_lt_zero j)⟩
theorem Lv0.step {reg reg' : List By} {kvh : List (By × Value)} {d : By} {n : Nat} {kvs : IKV} (h : Lv0 reg kvh d n kvs) (H : HeldOk kvh) (hx : reg <+: reg') {u : UInt8} {vb b : Array UInt8} {tv t : Tok} (e : kvh[n]? = some ([u], .bytes vb tv)) (hb : Hs reg' vb.toList b.toList) :
    Lv0 reg' kvh d (n + 1) (stored kvs (u.toNat : Int) (.bytes b t)) := by
  have hu := u.toNat_lt
  refine ⟨fun p hp => ?_, fun a v ha hv => ?_, fun j u' x hj hk => ?_⟩
  · rcases mem_stored hp with h1 | h1
    · omega
    · exact h.key p h1
  · rw [valueAt_stored] at hv
    by_cases hau : (a : Int) = (u.toNat : Int)
    · rw [if_pos hau] at hv
      refine ⟨b, t, (Option.some.inj hv).symm, ?_⟩
      have ea : a = u.toNat := by omega
      have e2 : valueAt kvh [UInt8.ofNat a] = some (.bytes vb tv) := by
        rw [ea, UInt8.ofNat_toNat]
        exact valueAt_of_get H.nodup e
      unfold heldVal
      rw [e2]
      exact hb
    · rw [if_neg hau] at hv
      obtain ⟨b', t', e1, e2⟩ := h.val a v ha hv
      exact ⟨b', t', e1, e2.mono hx⟩
  · rw [valueAt_stored]
    split
    · rfl
    · by_cases hjn : j = n
      · subst hjn
        rw [e] at hk
        have : u = u' := by
          have := Option.some.inj hk
          simp only [Prod.mk.injEq, List.cons.injEq, and_true] at this
          exact this.1
        subst this
        rename_i hne
        exact absurd rfl hne
      · exact h.has j u' x (by omega) hk
theorem Lv0.leaf {reg : List By} {kvh : List (By × Value)} {d e : By} {kvs : IKV} (h : Lv0 reg kvh d kvh.length kvs) (H : HeldOk kvh) (he : Hs reg d e) : ∀ a, a < 256 → Hs reg (heldVal kvh d a) (lvAt kvs e a) := by
  intro a ha
  unfold lvAt
  cases hv : valueAt kvs (a : Int) with
  | some v =>
    obtain ⟨b, t, rfl, hb⟩ := h.val a v ha hv
    exact hb
  | none =>
    have e2 : heldVal kvh d a = d := by
      unfold heldVal
      cases hk : valueAt kvh [UInt8.ofNat a] with
      | none => rfl
      | some x =>
        obtain ⟨j, hj⟩ := get_of_valueAt hk
        have := h.has j _ _ (List.getElem?_eq_some_iff.mp hj).1 hj
        rw [show (UInt8.ofNat a).toNat = a from by simp [UInt8.toNat_ofNat]; omega, hv] at this
        cases this
    rw [e2]
    exact he
theorem Lv0.ok {reg : List By} {kvh : List (By × Value)} {d : By} {n : Nat} {kvs : IKV} (h : Lv0 reg kvh d n kvs) : LvOk kvs 256 := by
  refine ⟨h.key, fun x v hv => ?_⟩
  obtain ⟨j, hj⟩ := get_of_valueAt hv
  have hr := h.key _ (List.mem_of_getElem? hj)
  obtain ⟨a, rfl⟩ := Int.eq_ofNat_of_zero_le hr.1
  obtain ⟨b, t, rfl, hb⟩ := h.val a v (by have := hr.2; simp at this; omega) hv
  exact ⟨b, t, rfl, hb.size⟩
/-- a level above amid its making -/
structure Abv (reg : List By) (kvs : IKV) (e : By) (m n : Nat) (up : IKV) : Prop where
  key : ∀ p ∈ up, 0 ≤ p.1 ∧ p.1 < (m : Int)
  val : ∀ (a : Nat) v, valueAt up (a : Int) = some v → ∃ b t, v = .bytes b t ∧ Hs reg (lvAt kvs e (2 * a) ++ lvAt kvs e (2 * a + 1)) b.toList
  has : ∀ j x v, j < n → kvs[j]? = some (x, v) → (x % 2 = 0 ∨ valueAt kvs (x - 1) = none) → (valueAt up (x / 2)).isSome = true
theorem Abv.zero {reg : List By} {kvs : IKV} {e : By} {m : Nat} : Abv reg kvs e m 0 [] :=
  ⟨fun p hp => by simp at hp, fun a v h => by simp [valueAt] at h, fun j _ _ hj => absurd hj (Nat.not_lt_zero j)⟩
theorem Abv.mono {reg reg' : List By} {kvs up : IKV} {e : By} {m n : Nat} (h : Abv reg kvs e m n up) (x : reg <+: reg') : Abv reg' kvs e m n up :=
  ⟨h.key, fun a v hv => let ⟨b, t, e1, e2⟩ := h.val a v hv; ⟨b, t, e1, e2.mono x⟩, h.has⟩
theorem Abv.skip {reg : List By} {kvs up : IKV} {e : By} {m n : Nat} (h : Abv reg kvs e m n up) {x : Int} {v : Value} (he : kvs[n]? = some (x, v)) (h1 : ¬ x % 2 = 0) (h2 : ¬ valueAt kvs (x - 1) = none) : Abv reg kvs e m (n + 1) up :=
  ⟨h.key, h.val, fun j x' v' hj hk hc => by
    by_cases hjn : j = n
    · subst hjn
      rw [he] at hk
      have hxx : x = x' := congrArg Prod.fst (Option.some.inj hk)
      subst hxx
      rcases hc with hc | hc
      · exact absurd hc h1
      · exact absurd hc h2
    · exact h.has j x' v' (by omega) hk hc⟩
theorem Abv.step {reg reg' : List By} {kvs up : IKV} {e : By} {m n : Nat} (h : Abv reg kvs e m n up) (hx : reg <+: reg') {x : Int} {v : Value} {b : Array UInt8} {t : Tok} {a : Nat} (he : kvs[n]? = some (x, v)) (ha : x / 2 = (a : Int)) (hm : a < m)
    (hb : Hs reg' (lvAt kvs e (2 * a) ++ lvAt kvs e (2 * a + 1)) b.toList) : Abv reg' kvs e m (n + 1) (stored up (a : Int) (.bytes b t)) := by
  refine ⟨fun p hp => ?_, fun a' v' hv => ?_, fun j x' v' hj hk hc => ?_⟩
  · rcases mem_stored hp with h1 | h1
    · omega
    · exact h.key p h1
  · rw [valueAt_stored] at hv
    by_cases haa : (a' : Int) = (a : Int)
    · rw [if_pos haa] at hv
      have : a' = a := by omega
      subst this
      exact ⟨b, t, (Option.some.inj hv).symm, hb⟩
    · rw [if_neg haa] at hv
      obtain ⟨b', t', e1, e2⟩ := h.val a' v' hv
      exact ⟨b', t', e1, e2.mono hx⟩
  · rw [valueAt_stored]
    split
    · rfl
    · by_cases hjn : j = n
      · subst hjn
        rw [he] at hk
        have hxx : x = x' := congrArg Prod.fst (Option.some.inj hk)
        subst hxx
        rename_i hne
        exact absurd ha hne
      · exact h.has j x' v' (by omega) hk hc
theorem Abv.ok {reg : List By} {kvs up : IKV} {e : By} {m n : Nat} (h : Abv reg kvs e m n up) : LvOk up m := by
  refine ⟨h.key, fun x v hv => ?_⟩
  obtain ⟨j, hj⟩ := get_of_valueAt hv
  have hr := h.key _ (List.mem_of_getElem? hj)
  obtain ⟨a, rfl⟩ := Int.eq_ofNat_of_zero_le hr.1
  obtain ⟨b, t, rfl, hb⟩ := h.val a v hv
  exact ⟨b, t, rfl, hb.size⟩
theorem Abv.node {reg : List By} {kvs up : IKV} {e e' : By} {m : Nat} (h : Abv reg kvs e m kvs.length up) (he : Hs reg (e ++ e) e') : ∀ a : Nat, Hs reg (lvAt kvs e (2 * a) ++ lvAt kvs e (2 * a + 1)) (lvAt up e' a) := by
  intro a
  cases hv : valueAt up (a : Int) with
  | some v =>
    obtain ⟨b, t, rfl, hb⟩ := h.val a v hv
    have e1 : lvAt up e' a = b.toList := by unfold lvAt; rw [hv]
    rw [e1]; exact hb
  | none =>
    have h0 : valueAt kvs ((2 * a : Nat) : Int) = none := by
      cases hk : valueAt kvs ((2 * a : Nat) : Int) with
      | none => rfl
      | some x =>
        obtain ⟨j, hj⟩ := get_of_valueAt hk
        have := h.has j _ _ (List.getElem?_eq_some_iff.mp hj).1 hj (.inl (by omega))
        rw [show ((2 * a : Nat) : Int) / 2 = (a : Int) by omega, hv] at this
        cases this
    have h1 : valueAt kvs ((2 * a + 1 : Nat) : Int) = none := by
      cases hk : valueAt kvs ((2 * a + 1 : Nat) : Int) with
      | none => rfl
      | some x =>
        obtain ⟨j, hj⟩ := get_of_valueAt hk
        have := h.has j _ _ (List.getElem?_eq_some_iff.mp hj).1 hj (.inr (by rw [← h0]; congr 1; omega))
        rw [show ((2 * a + 1 : Nat) : Int) / 2 = (a : Int) by omega, hv] at this
        cases this
    have e0 : lvAt kvs e (2 * a) = e := by unfold lvAt; rw [h0]
    have e1 : lvAt kvs e (2 * a + 1) = e := by unfold lvAt; rw [h1]
    have e2 : lvAt up e' a = e' := by unfold lvAt; rw [hv]
    rw [e0, e1, e2]
    exact he
end Mine
namespace Mine
section
variable {prog : Program} {w : World} {A : Around} {E : Value → Shared → Prop} {s : Shared} {h₀ : Heap} {L : Addr} {news : List (Addr × Obj)}
theorem seqIndex_nat {x : Int} {i n : Nat} (h : x = (i : Int)) (hi : i < n) : seqIndex? x n = some i := by
  subst h
  unfold seqIndex?
  first | (simp; omega) | (rw [if_neg (by omega)]; simp; omega)
/-- the i-th of a list of the ledger -/
theorem item_L {value slice : Expr} {l : Addr} {vs : List Value} {n : Nat} {x : Int} {tx : Tok} {i : Nat} {v : Value} {Q : Value → Shared → Prop} (N : News h₀ L s.heap news) (hl : (l, W.listOf vs.toArray n) ∈ news) (hx : x = (i : Int)) (hv : vs[i]? = some v) (hz : vs.length < 1152921504606846976) (h : Q v s)
    (hs : subscripted slice false (.ref l) (.int x tx) = operate [.ref l, .int x tx] (getItem (.ref l) (.int x tx)) := by with_unfolding_all rfl) (hg : ∀ r, letTemporaryGo value (.ref l) r = pure () := by intro _; with_unfolding_all rfl) :
    wpAny (model prog w) A (subscriptTail value slice (.ref l) (.int x tx)) Q E s := by
  have hi := (List.getElem?_eq_some_iff.mp hv).1
  have hL : s.heap.IsList l vs.toArray := ⟨_, (N _ hl).1, rfl, _, rfl⟩
  subst hx
  exact item_listL hL (by omega) (by omega) (by simpa using hv) h hs hg
/-- the i-th of a tuple of the ledger -/
theorem item_T {value slice : Expr} {l : Addr} {vs : List Value} {x : Int} {tx : Tok} {i : Nat} {v : Value} {Q : Value → Shared → Prop} (N : News h₀ L s.heap news) (hl : (l, tupOf vs) ∈ news) (hx : x = (i : Int)) (hv : vs[i]? = some v) (hz : vs.length < 1152921504606846976) (h : Q v s)
    (hs : subscripted slice false (.ref l) (.int x tx) = operate [.ref l, .int x tx] (getItem (.ref l) (.int x tx)) := by with_unfolding_all rfl) (hg : ∀ r, letTemporaryGo value (.ref l) r = pure () := by intro _; with_unfolding_all rfl) :
    wpAny (model prog w) A (subscriptTail value slice (.ref l) (.int x tx)) Q E s := by
  have hi := (List.getElem?_eq_some_iff.mp hv).1
  have hT : IsTup s.heap l vs.toArray := ⟨_, (N _ hl).1, rfl, _, rfl⟩
  exact subscriptTail_builtin hT.typeIs slot_tuple_getitem.lookup (getItem_tuple hT (by omega) (by omega) (seqIndex_nat hx (by simpa using hi)) (by simpa using hv) h) hs hg
/-- a level's get -/
theorem lvl_get {d : Addr} {o : Obj} {kvs : IKV} {n : Nat} {x : Int} {tx et : Tok} {eb : Array UInt8} {Q : Value → Shared → Prop} (N : News h₀ L s.heap news) (hp : (d, o) ∈ news) (hd : o.IsDictOf (intKind prog w) kvs) (lo : (d == sysModules) = false) (ok : LvOk kvs n) (he : eb.size = 32) (hx : 0 ≤ x)
    (h : ∀ b t tk, b.toList = lvAt kvs eb.toList x.toNat → b.size = 32 → Q (.bytes b t) { s with toks := tk }) : wpAny (model prog w) A (call (.builtin "dict.get") [.ref d, .int x tx, .bytes eb et]) Q E s := by
  obtain ⟨a, rfl⟩ := Int.eq_ofNat_of_zero_le hx
  obtain ⟨b, t, e1, e2, e3⟩ := ok.get (eb := eb) (et := et) he a
  refine kdg_get2 (knd := intKind prog w) N hp hd lo (intKind_is prog w _ tx) _ rfl ?_
  rw [e1]
  exact h b t _ e2 e3
theorem lvl_notin {d : Addr} {o : Obj} {kvs : IKV} {x : Int} {tx : Tok} {Q : Value → Shared → Prop} (N : News h₀ L s.heap news) (hp : (d, o) ∈ news) (hd : o.IsDictOf (intKind prog w) kvs) (lo : (d == sysModules) = false)
    (h1 : valueAt kvs x = none → ∀ tk, Q (.bool true) { s with toks := tk }) (h2 : ¬ valueAt kvs x = none → ∀ tk, Q (.bool false) { s with toks := tk }) : wpAny (model prog w) A (compareOp .NotIn (.int x tx) (.ref d)) Q E s := by
  by_cases hv : valueAt kvs x = none
  · exact kdg_notin (knd := intKind prog w) N hp hd lo (intKind_is prog w _ tx) false (by rw [hv]; rfl) (h1 hv _)
  · refine kdg_notin (knd := intKind prog w) N hp hd lo (intKind_is prog w _ tx) true ?_ (h2 hv _)
    cases hk : valueAt kvs x with
    | none => exact absurd hk hv
    | some v => rfl
/-- the held value, or the default -/
theorem held_get {d : Addr} {o : Obj} {kvh : List (By × Value)} {u : UInt8} {tu dt : Tok} {da : Array UInt8} {Q : Value → Shared → Prop} (N : News h₀ L s.heap news) (hp : (d, o) ∈ news) (hd : o.IsDictOf (bytesKind prog w) kvh) (lo : (d == sysModules) = false) (H : HeldOk kvh)
    (h : ∀ b t tk, b.toList = heldVal kvh da.toList u.toNat → Q (.bytes b t) { s with toks := tk }) : wpAny (model prog w) A (call (.builtin "dict.get") [.ref d, .bytes #[u] tu, .bytes da dt]) Q E s := by
  refine kdg_get2 (knd := bytesKind prog w) N hp hd lo (bytes_is prog w _ tu) _ rfl ?_
  cases hv : valueAt kvh (#[u] : Array UInt8).toList with
  | none =>
    refine h da dt _ ?_
    unfold heldVal
    rw [UInt8.ofNat_toNat, show valueAt kvh [u] = none from hv]
  | some v =>
    obtain ⟨j, hj⟩ := get_of_valueAt hv
    obtain ⟨u', b, t, e⟩ := H.ok _ (List.mem_of_getElem? hj)
    have e2 : v = .bytes b t := congrArg Prod.snd e
    subst e2
    refine h b t _ ?_
    unfold heldVal
    rw [UInt8.ofNat_toNat, show valueAt kvh [u] = some (.bytes b t) from hv]
end
theorem fmod_two (c : Nat) : ((c : Int)).fmod 2 = ((c % 2 : Nat) : Int) := by rw [Int.fmod_eq_emod_of_nonneg _ (by decide)]; omega
theorem fmod_le (c : Nat) : 0 ≤ (c : Int) - ((c : Int)).fmod 2 := by rw [fmod_two]; exact Int.sub_nonneg_of_le (Int.ofNat_le.mpr (Nat.mod_le c 2))
theorem fmod_odd {c : Nat} (h : (c : Int) ≠ (c : Int) - ((c : Int)).fmod 2) : (c : Int) - ((c : Int)).fmod 2 = (c : Int) - 1 := by
  rw [fmod_two] at h ⊢
  rcases Nat.mod_two_eq_zero_or_one c with e | e
  · rw [e] at h; exact absurd (Int.sub_zero _).symm h
  · rw [e]; rfl
theorem sub_one_toNat {q : Nat} (h : q % 2 ≠ 0) : ((q : Int) - 1).toNat = q - 1 ∧ 0 ≤ (q : Int) - 1 := by
  cases q with
  | zero => exact absurd rfl h
  | succ q => rw [show ((q + 1 : Nat) : Int) - 1 = (q : Int) from by rw [Int.natCast_succ]; exact Int.add_sub_cancel _ _]; exact ⟨rfl, Int.natCast_nonneg q⟩
theorem fdiv_two (c : Nat) : ((c : Int)).fdiv 2 = ((c / 2 : Nat) : Int) := by rw [Int.fdiv_eq_ediv_of_nonneg _ (by decide)]; omega

/-- the law's own levels -/
structure KnownAt (w : World) (kn : List (Addr × Obj)) (kt : Addr) (nd : Nat → Nat → By) : Prop where
  ex : ∃ (el ll : Addr) (evs : List Value) (ne : Nat) (ds : List Addr) (nl : Nat) (es : Nat → By), (kt, tupOf [.ref el, .ref ll]) ∈ kn ∧ (el, W.listOf evs.toArray ne) ∈ kn ∧ (ll, W.listOf (ds.map Value.ref).toArray nl) ∈ kn ∧
    BsAre evs ((List.range 9).map es) ∧ (∀ k, k < 9 → (es k).length = 32) ∧ ds.length = 9 ∧
    ∀ k, k < 9 → ∃ d o kvs, ds[k]? = some d ∧ (d, o) ∈ kn ∧ (d == sysModules) = false ∧ o.IsDictOf (intKind PySem.Challenge.rw_iu0037_01.row.prog w) kvs ∧ LvOk kvs (2 ^ (8 - k)) ∧ nd k = lvAt kvs (es k)
end Mine
namespace Mine
theorem toNat_low (c : Nat) : ((c : Int) - ((c : Int)).fmod 2).toNat = 2 * (c / 2) := by rw [fmod_two]; omega
theorem toNat_low1 (c : Nat) : ((c : Int) - ((c : Int)).fmod 2 + 1).toNat = 2 * (c / 2) + 1 := by rw [fmod_two]; omega
theorem pow_half {i : Nat} (h : i < 8) : 2 ^ (8 - i) = 2 * 2 ^ (7 - i) := by rw [ixA h, Nat.pow_succ]; omega
/-- the levels up to a height -/
structure Lvs (w : World) (reg : List By) (kvh : List (By × Value)) (d : By) (es : Nat → By) (old : List (Addr × Obj)) (i : Nat) (cur : Addr) (oc : Obj) (kk : Nat → IKV) (ds : List Addr) : Prop where
  dl : ds.length = i + 1
  dict : ∀ k, k ≤ i → ∃ a o, ds[k]? = some a ∧ (a, o) ∈ (cur, oc) :: old ∧ (a == sysModules) = false ∧ o.IsDictOf (intKind PySem.Challenge.rw_iu0037_01.row.prog w) (kk k) ∧ LvOk (kk k) (2 ^ (8 - k))
  leaf : ∀ a, a < 256 → Hs reg (heldVal kvh d a) (lvAt (kk 0) (es 0) a)
  node : ∀ k, k < i → ∀ a, Hs reg (lvAt (kk k) (es k) (2 * a) ++ lvAt (kk k) (es k) (2 * a + 1)) (lvAt (kk (k + 1)) (es (k + 1)) a)
theorem Lvs.zero {w : World} {reg : List By} {kvh : List (By × Value)} {d : By} {es : Nat → By} {cur : Addr} {oc : Obj} {kl : IKV} (lo : (cur == sysModules) = false) (hd : oc.IsDictOf (intKind PySem.Challenge.rw_iu0037_01.row.prog w) kl)
    (h : Lv0 reg kvh d kvh.length kl) (H : HeldOk kvh) (he : Hs reg d (es 0)) : Lvs w reg kvh d es [] 0 cur oc (fun _ => kl) [cur] :=
  ⟨rfl, fun k hk => by obtain rfl : k = 0 := by omega
                       exact ⟨cur, oc, rfl, .head _, lo, hd, h.ok⟩, h.leaf H he, fun k hk => absurd hk (Nat.not_lt_zero k)⟩
theorem Lvs.step {w : World} {reg reg' : List By} {kvh : List (By × Value)} {d : By} {es : Nat → By} {old : List (Addr × Obj)} {i : Nat} {cur ab : Addr} {oc oa : Obj} {kk : Nat → IKV} {ds : List Addr} {ka : IKV} (h : Lvs w reg kvh d es old i cur oc kk ds) (hx : reg <+: reg')
    (lo : (ab == sysModules) = false) (hd : oa.IsDictOf (intKind PySem.Challenge.rw_iu0037_01.row.prog w) ka) (ha : Abv reg' (kk i) (es i) (2 ^ (7 - i)) (kk i).length ka) (he : Hs reg' (es i ++ es i) (es (i + 1))) :
    Lvs w reg' kvh d es ((cur, oc) :: old) (i + 1) ab oa (fun k => if k = i + 1 then ka else kk k) (ds ++ [ab]) := by
  refine ⟨by rw [List.length_append, h.dl]; rfl, fun k hk => ?_, fun a ha => ?_, fun k hk a => ?_⟩
  · by_cases e : k = i + 1
    · subst e
      refine ⟨ab, oa, ?_, .head _, lo, ?_, ?_⟩
      · rw [List.getElem?_append_right (by rw [h.dl]; exact Nat.le_refl _), h.dl]; simp
      · simpa using hd
      · simp only [if_pos]
        rw [ixD (i := i)]
        exact ha.ok
    · obtain ⟨a, o, e1, e2, e3, e4, e5⟩ := h.dict k (by omega)
      refine ⟨a, o, ?_, .tail _ e2, e3, ?_, ?_⟩
      · rw [List.getElem?_append_left (by rw [h.dl]; omega)]; exact e1
      · simpa only [if_neg e] using e4
      · simpa only [if_neg e] using e5
  · have := (h.leaf a ha).mono hx
    simpa using this
  · by_cases e : k = i
    · subst e
      have := ha.node he a
      simpa using this
    · have := (h.node k (by omega) a).mono hx
      have e1 : ¬ k = i + 1 := by omega
      simp only [if_neg e1, show ¬ k + 1 = i + 1 from by omega, if_false]
      exact this
theorem Lvs.nodes {w : World} {reg : List By} {kvh : List (By × Value)} {d : By} {es : Nat → By} {old : List (Addr × Obj)} {cur : Addr} {oc : Obj} {kk : Nat → IKV} {ds : List Addr} (h : Lvs w reg kvh d es old 8 cur oc kk ds) :
    Nodes reg (heldVal kvh d) (fun k => lvAt (kk k) (es k)) := ⟨h.leaf, fun k a hk _ => h.node k hk a⟩
theorem Lvs.known {w : World} {reg : List By} {kvh : List (By × Value)} {d : By} {es : Nat → By} {old : List (Addr × Obj)} {cur : Addr} {oc : Obj} {kk : Nat → IKV} {ds : List Addr} (h : Lvs w reg kvh d es old 8 cur oc kk ds)
    {kt el ll : Addr} {evs : List Value} {ne nl : Nat} (hev : BsAre evs ((List.range 9).map es)) (he : Emp reg d 9 es) :
    KnownAt w ((kt, tupOf [.ref el, .ref ll]) :: (ll, W.listOf (ds.map Value.ref).toArray nl) :: (cur, oc) :: (el, W.listOf evs.toArray ne) :: old) kt (fun k => lvAt (kk k) (es k)) := by
  refine ⟨el, ll, evs, ne, ds, nl, es, .head _, .tail _ (.tail _ (.tail _ (.head _))), .tail _ (.head _), hev, fun k hk => (he k hk).len, h.dl, fun k hk => ?_⟩
  obtain ⟨a, o, e1, e2, e3, e4, e5⟩ := h.dict k (by omega)
  refine ⟨a, o, kk k, e1, ?_, e3, e4, e5, rfl⟩
  rcases List.mem_cons.mp e2 with e | e
  · rw [e]; exact .tail _ (.tail _ (.head _))
  · exact .tail _ (.tail _ (.tail _ (.tail _ e)))
theorem sub_known {α : Type} {a b c d e : α} {old rest : List α} : ∀ p ∈ e :: ((a :: b :: c :: d :: old) ++ rest), p ∈ a :: b :: c :: d :: e :: (old ++ rest) := by
  intro p hp
  simp only [List.cons_append, List.mem_cons, List.mem_append] at hp ⊢
  rcases hp with h | h | h | h | h | h | h <;> simp [h]
theorem lt_known {el : Nat} {l q : List (Addr × Obj)} (h : ∀ p ∈ l, @LE.le Nat _ el p.1) (h' : ∀ p ∈ q, @LT.lt Nat _ p.1 el) : ∀ p ∈ l, ∀ x ∈ q, x.1 < p.1 := fun p hp x hx => Nat.lt_of_lt_of_le (h' x hx) (h p hp)
theorem forall_app {α : Type} {P : α → Prop} {l l' : List α} (h : ∀ p ∈ l, P p) (h' : ∀ p ∈ l', P p) : ∀ p ∈ l ++ l', P p := fun p hp => (List.mem_append.mp hp).elim (h p) (h' p)
end Mine
namespace Mine
section
variable {prog : Program} {w : World} {A : Around} {E : Value → Shared → Prop} {s : Shared} {h₀ : Heap} {L D : Addr} {m : Str → Option Value} {news news' : List (Addr × Obj)}
theorem insert_L {vs : List Value} {n : Nat} {x : Value} {t : Tok} {Q : Value → Shared → Prop} (F : Fr h₀ L s.heap m) (N : News h₀ L s.heap news) (U : Upd D (W.listOf vs.toArray n) (W.listOf (x :: vs).toArray (n + 1)) news news')
    (h : ∀ h', Fr h₀ L h' m → News h₀ L h' news' → Q .none { s with heap := h' }) (hsz : vs.length ≤ 16777216) : wpAny (model prog w) A (call (.builtin "list.insert") [.ref D, .int 0 t, x]) Q E s :=
  kl_insert (l := x :: vs) F N rfl rfl U (by rw [sizeLine_eq]; exact hsz) h
theorem tuple_L {l : Addr} {vs : List Value} {n : Nat} {Q : Value → Shared → Prop} (F : Fr h₀ L s.heap m) (N : News h₀ L s.heap news) (hl : (l, W.listOf vs.toArray n) ∈ news) (hz : vs.length ≤ 16384)
    (h : ∀ D h', Fr h₀ L h' m → News h₀ L h' ((D, tupOf vs) :: news) → (∀ p ∈ news, p.1 < D) → Q (.ref D) { s with heap := h' }) : wpAny (model prog w) A (call (.type "tuple") [.ref l]) Q E s :=
  kde_tupleOf (items := vs.toArray) F N ⟨_, (N _ hl).1, rfl, _, rfl⟩ (by simpa using hz) rfl h
theorem pow2 {x : Int} {t u : Tok} {Q : Value → Shared → Prop} (h0 : 0 ≤ x) (h1 : x ≤ 60) (h : ∀ t' k', Q (.int ((2 ^ x.toNat : Nat) : Int) t') { s with toks := k' }) : wpAny (model prog w) A (binaryOp .Pow (.int 2 t) (.int x u)) Q E s := by
  refine pow_int_small h0 (by omega) (by decide) ?_
  have e : (2 : Int) ^ x.toNat = ((2 ^ x.toNat : Nat) : Int) := by norm_cast
  rw [e]
  exact h _ _
theorem fdivP {a : Nat} {x : Int} {t u : Tok} {Q : Value → Shared → Prop} (hx : x ≤ 20) (h : ∀ t' k', Q (.int ((a / 2 ^ x.toNat : Nat) : Int) t') { s with toks := k' }) : wpAny (model prog w) A (binaryOp .FloorDiv (.int (a : Int) t) (.int ((2 ^ x.toNat : Nat) : Int) u)) Q E s := by
  have h1 : 2 ^ x.toNat ≤ 2 ^ 20 := Nat.pow_le_pow_right (by decide) (by omega)
  have h2 : 0 < 2 ^ x.toNat := Nat.pow_pos (by decide)
  generalize 2 ^ x.toNat = b at *
  refine floordiv_int (by omega) ?_ (Or.inl (PyProof.noPylong_small (by omega)))
  have e : ((a : Int)).fdiv (b : Int) = ((a / b : Nat) : Int) := Int.fdiv_eq_ediv_of_nonneg _ (Int.natCast_nonneg _)
  rw [e]
  exact h _ _
end
end Mine
namespace Mine
open PySem PySem.Spec PySem.Calls
theorem adjust_to (b n : Nat) (hb : b ≤ n) : Builtin.Slice.sliceAdjust none (some (b : Int)) 1 (n : Int) = (0, (b : Int)) := by
  unfold Builtin.Slice.sliceAdjust
  have h1 : ¬ ((1 : Int) < 0) := by omega
  have h2 : ¬ ((b : Int) < 0) := by omega
  simp only [h1, h2, if_false]
  congr 1
  omega
theorem places_to (b : Nat) : Builtin.Slice.slicePlaces 0 (b : Int) 1 = b := by
  unfold Builtin.Slice.slicePlaces
  have h1 : (1 : Int) > 0 := by omega
  simp only [h1, if_true, Int.ediv_one]
  split <;> omega
theorem adjust_rev (n : Nat) : Builtin.Slice.sliceAdjust none none (-1) (n : Int) = ((n : Int) - 1, -1) := by
  unfold Builtin.Slice.sliceAdjust
  have h1 : ((-1 : Int) < 0) := by omega
  simp only [h1, if_true]
theorem places_rev (n : Nat) : Builtin.Slice.slicePlaces ((n : Int) - 1) (-1) (-1) = n := by
  unfold Builtin.Slice.slicePlaces
  have h1 : ¬ ((-1 : Int) > 0) := by omega
  simp only [h1, if_false]
  rw [show (-(-1 : Int)) = 1 by omega]
  simp only [Int.ediv_one]
  split <;> omega
theorem pick_to (xs : Array Value) (b : Nat) (hb : b ≤ xs.size) : ((List.range b).filterMap fun (k : Nat) => xs[((0 : Int) + (k : Int) * 1).toNat]?).toArray = (xs.toList.take b).toArray := by
  have e : (fun (k : Nat) => xs[((0 : Int) + (k : Int) * 1).toNat]?) = fun k => xs[0 + k]? := by
    funext k
    have : ((0 : Int) + (k : Int) * 1).toNat = 0 + k := by omega
    rw [this]
  rw [e]
  have := pick_run xs 0 b
  rw [List.filterMap_map] at this
  have e2 : ((fun x => xs[x]?) ∘ fun x => 0 + x) = fun k => xs[0 + k]? := rfl
  rw [e2] at this
  rw [this, List.drop_zero]
theorem pick_rev (xs : Array Value) : ((List.range xs.size).filterMap fun (k : Nat) => xs[((xs.size : Int) - 1 + (k : Int) * (-1)).toNat]?).toArray = xs.toList.reverse.toArray := by
  congr 1
  have key : ∀ l : List Value, (List.range l.length).filterMap (fun (k : Nat) => l[((l.length : Int) - 1 + (k : Int) * (-1)).toNat]?) = l.reverse := by
    intro l
    have e : ∀ n, n ≤ l.length → (List.range n).filterMap (fun (k : Nat) => l[((l.length : Int) - 1 + (k : Int) * (-1)).toNat]?) = l.reverse.take n := by
      intro n
      induction n with
      | zero => intro _; simp
      | succ n ih =>
        intro hn
        rw [List.range_succ, List.filterMap_append, ih (by omega), List.take_add_one]
        congr 1
        have hx : ((l.length : Int) - 1 + (n : Int) * (-1)).toNat = l.length - 1 - n := by omega
        rw [List.filterMap_cons, hx, List.getElem?_reverse (by omega)]
        cases l[l.length - 1 - n]? <;> rfl
    rw [e _ (Nat.le_refl _)]
    exact List.take_of_length_le (by simp)
  have := key xs.toList
  simpa using this
section
variable {prog : Program} {w : World} {A : Around} {E : Value → Shared → Prop} {s : Shared}
theorem applied_to {sl : Addr} {b n : Nat} {u : Tok} {Q : Int × Int × Nat → Shared → Prop} (hs : s.heap.IsSliceOf sl .none (.int b u) .none) (hb : b ≤ n) (h : Q (0, 1, b) s) :
    wpAny (model prog w) A (Builtin.Slice.sliceApplied (.ref sl) (pure (n : Int))) Q E s := by
  obtain ⟨os, hos, hcs, hds⟩ := id hs
  unfold Builtin.Slice.sliceApplied Builtin.Slice.sliceFields
  refine wpAny_bind (wpAny_bind (wpAny_field hos hds (x := .none) rfl (wpAny_bind (wpAny_field hos hds (x := .int b u) rfl (wpAny_bind (wpAny_field hos hds (x := .none) rfl (wpAny_pure ?_)))))))
  refine wpAny_bind (slicePart_none ?_)
  show wpAny _ _ (if ((1 : Int) == 0) = true then _ else _) _ _ s
  rw [if_neg (by decide)]
  refine wpAny_bind (slicePart_none (wpAny_bind (slicePart_int (wpAny_bind (wpAny_pure ?_)))))
  show wpAny _ _ (match Builtin.Slice.sliceAdjust none (some (b : Int)) 1 (n : Int) with | (lo, hi) => pure (lo, (1 : Int), Builtin.Slice.slicePlaces lo hi 1)) _ _ s
  rw [adjust_to b n hb]
  show wpAny _ _ (pure ((0 : Int), (1 : Int), Builtin.Slice.slicePlaces 0 (b : Int) 1)) _ _ s
  rw [places_to b]
  exact wpAny_pure h
theorem applied_rev {sl : Addr} {n : Nat} {u : Tok} {Q : Int × Int × Nat → Shared → Prop} (hs : s.heap.IsSliceOf sl .none .none (.int (-1) u)) (h : Q ((n : Int) - 1, -1, n) s) :
    wpAny (model prog w) A (Builtin.Slice.sliceApplied (.ref sl) (pure (n : Int))) Q E s := by
  obtain ⟨os, hos, hcs, hds⟩ := id hs
  unfold Builtin.Slice.sliceApplied Builtin.Slice.sliceFields
  refine wpAny_bind (wpAny_bind (wpAny_field hos hds (x := .none) rfl (wpAny_bind (wpAny_field hos hds (x := .none) rfl (wpAny_bind (wpAny_field hos hds (x := .int (-1) u) rfl (wpAny_pure ?_)))))))
  refine wpAny_bind (slicePart_int ?_)
  show wpAny _ _ (if ((-1 : Int) == 0) = true then _ else _) _ _ s
  rw [if_neg (by decide)]
  refine wpAny_bind (slicePart_none (wpAny_bind (slicePart_none (wpAny_bind (wpAny_pure ?_)))))
  show wpAny _ _ (match Builtin.Slice.sliceAdjust none none (-1) (n : Int) with | (lo, hi) => pure (lo, (-1 : Int), Builtin.Slice.slicePlaces lo hi (-1))) _ _ s
  rw [adjust_rev n]
  show wpAny _ _ (pure ((n : Int) - 1, (-1 : Int), Builtin.Slice.slicePlaces ((n : Int) - 1) (-1) (-1))) _ _ s
  rw [places_rev n]
  exact wpAny_pure h
theorem exact_new {xs : Array Value} {Q : Value → Shared → Prop} (hz : xs.size ≤ sizeLine) (h : Q (.ref s.heap.objs.size) { s with heap := s.heap.push { cls := .type "tuple", data := .seq xs } }) :
    wpAny (model prog w) A (Builtin.Tuple.tupleExact xs >>= fun v => ret v) (fun fin s' => ∃ r, fin = .done (.ret r) ∧ Q r s') E s := by
  unfold Builtin.Tuple.tupleExact
  exact wpAny_bind (wpAny_newObj_type (wpAny_pure ⟨_, rfl, h⟩) hz)
theorem getItem_sl {t sl : Addr} {items : Array Value} {Q : Value → Shared → Prop} (ht : IsTup s.heap t items) (hTs : s.TypeIs (.ref sl) "slice")
    (h : wpAny (model prog w) A.in1 (do
      let (lo, step, n) ← Builtin.Slice.sliceApplied (.ref sl) (pure (items.size : Int))
      if lo == 0 && step == 1 && n == items.size then
        if ← Builtin.Tuple.tupleIsExact (.ref t) then rule "tuple.getitem.whole"; return ← ret (.ref t)
      return ← ret (← Builtin.Tuple.tupleExact ((List.range n).filterMap fun (k : Nat) => items[(lo + (k : Int) * step).toNat]?).toArray)) (fun fin s' => ∃ r, fin = .done (.ret r) ∧ Q r s') E s) :
    wpAny (model prog w) A (getItem (.ref t) (.ref sl)) Q E s := by
  unfold getItem
  try with_reducible refine wpAny_holding ?_
  first | refine wpAny_bind (wpAny_pure ?_) | skip
  refine wpAny_bind (wpAny_sequenceKey ht.typeIs (by decide) ?_)
  refine wpAny_bind (wpAny_callSpecial?_slot (name := Str.ofString "__getitem__") ht.typeIs slot_tuple_getitem
    (wpAny_call_entry slot_tuple_getitem ht.typeIs entry_tuple_getitem ?_ (args_tuple_getitem _ _)))
  show wpAny _ _ (Builtin.Tuple.tupleItemsOf (.ref t) >>= _) _ _ s
  refine wpAny_bind (tupleItemsOf_ ht ?_)
  refine wpAny_bind (wpAny_typeOf hTs ?_)
  rw [if_pos (by decide)]
  exact wpAny_mono h (fun fin s' q => let ⟨r, e, q⟩ := q; ⟨r, e, wpAny_pure q⟩) fun _ _ e => e
theorem getItem_to {t sl : Addr} {items : Array Value} {b : Nat} {u : Tok} {Q : Value → Shared → Prop} (ht : IsTup s.heap t items) (hs : s.heap.IsSliceOf sl .none (.int b u) .none) (hb : b ≤ items.size) (hsz : items.size ≤ sizeLine)
    (h1 : b = items.size → Q (.ref t) s) (h2 : Q (.ref s.heap.objs.size) { s with heap := s.heap.push { cls := .type "tuple", data := .seq (items.toList.take b).toArray } }) :
    wpAny (model prog w) A (getItem (.ref t) (.ref sl)) Q E s := by
  obtain ⟨os, hos, hcs, hds⟩ := id hs
  refine getItem_sl ht ⟨os, hos, hcs⟩ (wpAny_bind (applied_to hs hb ?_))
  show wpAny _ _ (if ((0 : Int) == 0 && (1 : Int) == 1 && b == items.size) = true then _ else _) _ _ s
  by_cases e : b = items.size
  · rw [if_pos (by simp [e])]
    show wpAny _ _ (Builtin.Tuple.tupleIsExact (.ref t) >>= _) _ _ s
    unfold Builtin.Tuple.tupleIsExact
    refine wpAny_bind (wpAny_bind (wpAny_typeOf ht.typeIs (wpAny_pure ?_)))
    show wpAny _ _ (if ((Value.type "tuple" : Value) == Value.type "tuple") = true then _ else _) _ _ s
    rw [if_pos (by decide)]
    exact wpAny_bind (wpAny_rule (wpAny_pure ⟨_, rfl, h1 e⟩))
  · rw [if_neg (by simp [e]), pick_to items b hb]
    exact exact_new (by rw [List.size_toArray, List.length_take]; omega) h2
theorem getItem_rev {t sl : Addr} {items : Array Value} {u : Tok} {Q : Value → Shared → Prop} (ht : IsTup s.heap t items) (hs : s.heap.IsSliceOf sl .none .none (.int (-1) u)) (hsz : items.size ≤ sizeLine)
    (h2 : Q (.ref s.heap.objs.size) { s with heap := s.heap.push { cls := .type "tuple", data := .seq items.toList.reverse.toArray } }) :
    wpAny (model prog w) A (getItem (.ref t) (.ref sl)) Q E s := by
  obtain ⟨os, hos, hcs, hds⟩ := id hs
  refine getItem_sl ht ⟨os, hos, hcs⟩ (wpAny_bind (applied_rev hs ?_))
  show wpAny _ _ (if (((items.size : Int) - 1) == 0 && (-1 : Int) == 1 && items.size == items.size) = true then _ else _) _ _ s
  rw [if_neg (by simp), pick_rev items]
  exact exact_new (by rw [List.size_toArray, List.length_reverse]; simpa using hsz) h2
variable {h₀ : Heap} {L : Addr} {m : Str → Option Value} {news : List (Addr × Obj)}
theorem isTup_of {t : Addr} {vs : List Value} (N : News h₀ L s.heap news) (ht : (t, tupOf vs) ∈ news) : IsTup s.heap t vs.toArray := ⟨_, (N _ ht).1, rfl, _, rfl⟩
/-- t[:b] -/
theorem slice_to {value slice : Expr} {ops : List Value} {t : Addr} {vs : List Value} {b : Int} {u : Tok} {Q : Value → Shared → Prop} (F : Fr h₀ L s.heap m) (N : News h₀ L s.heap news) (ht : (t, tupOf vs) ∈ news) (h0 : 0 ≤ b) (hb : b ≤ (vs.length : Int)) (hz : vs.length ≤ 16384)
    (h : ∀ X h', Fr h₀ L h' m → News h₀ L h' ((X, tupOf (vs.take b.toNat)) :: news) → Q (.ref X) { s with heap := h' })
    (hs : subscripted slice false (.ref t) (.ref s.heap.objs.size) = operate ops (getItem (.ref t) (.ref s.heap.objs.size)) := by with_unfolding_all rfl)
    (hg : ∀ r, letTemporaryGo value (.ref t) r = pure () := by intro _; with_unfolding_all rfl) :
    wpAny (model prog w) A (subscriptTail value slice (.ref t) (.ref s.heap.objs.size)) Q E { s with heap := s.heap.push { cls := .type "slice", data := .fields #[.none, .int b u, .none] } } := by
  obtain ⟨n, rfl⟩ := Int.eq_ofNat_of_zero_le h0
  have hb : n ≤ vs.length := Int.ofNat_le.mp hb
  have ht' : IsTup (s.heap.push { cls := .type "slice", data := .fields #[.none, .int n u, .none] }) t vs.toArray := (isTup_of N ht).keeps fun _ _ e => Heap.get?_push_of_some _ e
  have F1 := F.push { cls := .type "slice", data := .fields #[.none, .int n u, .none] }
  have N1 : News h₀ L (s.heap.push { cls := .type "slice", data := .fields #[.none, .int n u, .none] }) news := N.grown fun _ _ e => Heap.get?_push_of_some _ e
  refine subscriptTail_ops (s := { s with heap := s.heap.push { cls := .type "slice", data := .fields #[.none, .int n u, .none] } }) ht'.typeIs slot_tuple_getitem.lookup
    (getItem_to ht' (Heap.IsSliceOf.new ..) (by simpa using hb) (by rw [List.size_toArray, sizeLine_eq]; omega) (fun e => ?_) ?_) hs hg
  · have e : n = vs.length := by simpa using e
    refine h t _ F1 fun p hp => ?_
    rcases List.mem_cons.mp hp with rfl | hp
    · have e2 : vs.take n = vs := List.take_of_length_le (by omega)
      show (_ = some (tupOf (vs.take n))) ∧ _
      rw [e2]
      exact N1 _ ht
    · exact N1 p hp
  · exact h _ _ (F1.push _) (News.push F1 N1 _)
/-- t[::-1] -/
theorem slice_rev {value slice : Expr} {ops : List Value} {t : Addr} {vs : List Value} {u : Tok} {Q : Value → Shared → Prop} (F : Fr h₀ L s.heap m) (N : News h₀ L s.heap news) (ht : (t, tupOf vs) ∈ news) (hz : vs.length ≤ 16384)
    (h : ∀ X h', Fr h₀ L h' m → News h₀ L h' ((X, tupOf vs.reverse) :: news) → Q (.ref X) { s with heap := h' })
    (hs : subscripted slice false (.ref t) (.ref s.heap.objs.size) = operate ops (getItem (.ref t) (.ref s.heap.objs.size)) := by with_unfolding_all rfl)
    (hg : ∀ r, letTemporaryGo value (.ref t) r = pure () := by intro _; with_unfolding_all rfl) :
    wpAny (model prog w) A (subscriptTail value slice (.ref t) (.ref s.heap.objs.size)) Q E { s with heap := s.heap.push { cls := .type "slice", data := .fields #[.none, .none, .int (-1) u] } } := by
  have ht' : IsTup (s.heap.push { cls := .type "slice", data := .fields #[.none, .none, .int (-1) u] }) t vs.toArray := (isTup_of N ht).keeps fun _ _ e => Heap.get?_push_of_some _ e
  have F1 := F.push { cls := .type "slice", data := .fields #[.none, .none, .int (-1) u] }
  have N1 : News h₀ L (s.heap.push { cls := .type "slice", data := .fields #[.none, .none, .int (-1) u] }) news := N.grown fun _ _ e => Heap.get?_push_of_some _ e
  exact subscriptTail_ops (s := { s with heap := s.heap.push { cls := .type "slice", data := .fields #[.none, .none, .int (-1) u] } }) ht'.typeIs slot_tuple_getitem.lookup
    (getItem_rev ht' (Heap.IsSliceOf.new ..) (by rw [List.size_toArray, sizeLine_eq]; omega) (h _ _ (F1.push _) (News.push F1 N1 _))) hs hg
/-- t[a:] -/
theorem slice_from {value slice : Expr} {t : Addr} {vs : List Value} {a : Int} {u : Tok} {Q : Value → Shared → Prop} (F : Fr h₀ L s.heap m) (N : News h₀ L s.heap news) (ht : (t, tupOf vs) ∈ news) (h0 : 1 ≤ a) (hb : a ≤ (vs.length : Int)) (hz : vs.length ≤ 16384)
    (h : ∀ X h', Fr h₀ L h' m → News h₀ L h' ((X, tupOf (vs.drop a.toNat)) :: news) → Q (.ref X) { s with heap := h' })
    (hs : subscripted slice false (.ref t) (.ref s.heap.objs.size) = operate [.ref s.heap.objs.size, .ref t] (getItem (.ref t) (.ref s.heap.objs.size)) := by with_unfolding_all rfl)
    (hg : ∀ r, letTemporaryGo value (.ref t) r = pure () := by intro _; with_unfolding_all rfl) :
    wpAny (model prog w) A (subscriptTail value slice (.ref t) (.ref s.heap.objs.size)) Q E { s with heap := s.heap.push { cls := .type "slice", data := .fields #[.int a u, .none, .none] } } := by
  obtain ⟨n, rfl⟩ := Int.eq_ofNat_of_zero_le (a := a) (by omega)
  exact slice_tuple_from F N (isTup_of N ht) (by omega) (by rw [List.size_toArray]; omega) (fun h' F' N' => h _ _ F' N') hs hg (by rw [List.size_toArray, sizeLine_eq]; omega)
theorem list_LL {l : Addr} {vs : List Value} {n : Nat} {Q : Value → Shared → Prop} (F : Fr h₀ L s.heap m) (N : News h₀ L s.heap news) (hl : (l, W.listOf vs.toArray n) ∈ news) (hz : vs.length ≤ 16384)
    (h : ∀ D c h', Fr h₀ L h' m → News h₀ L h' ((D, W.listOf vs.toArray c) :: news) → (∀ p ∈ news, p.1 < D) → Q (.ref D) { s with heap := h' }) : wpAny (model prog w) A (call (.type "list") [.ref l]) Q E s :=
  list_copyK F N ⟨_, (N _ hl).1, rfl, _, rfl⟩ h (by rw [List.size_toArray, sizeLine_eq]; omega)
theorem list_LT {l : Addr} {vs : List Value} {Q : Value → Shared → Prop} (F : Fr h₀ L s.heap m) (N : News h₀ L s.heap news) (hl : (l, tupOf vs) ∈ news) (hz : vs.length ≤ 16384)
    (h : ∀ D c h', Fr h₀ L h' m → News h₀ L h' ((D, W.listOf vs.toArray c) :: news) → (∀ p ∈ news, p.1 < D) → Q (.ref D) { s with heap := h' }) : wpAny (model prog w) A (call (.type "list") [.ref l]) Q E s :=
  list_copyKT F N (isTup_of N hl) h (by rw [List.size_toArray, sizeLine_eq]; omega)
end
end Mine
namespace Mine
open PySem PySem.Spec PySem.Calls PySem.SeqAt
theorem eqAt_bytes {A : Around} {s : Shared} {b c : Array UInt8} {t u : Tok} : EqAt A s (.bytes b t) (.bytes c u) (b.toList == c.toList) := fun prog w E Q h => by
  unfold eqBool
  refine wpAny_holding ?_
  refine wpAny_ite_split (fun hab => ?_) (fun _ => ?_)
  · have e := eq_of_beq hab
    injection e with e1 e2
    subst e1
    rw [beq_self_eq_true] at h
    exact wpAny_bind (wpAny_rule (wpAny_pure h))
  · exact wpAny_bind (eq_bytes (wpAny_truthy_bool h))
theorem all_eq (xs ys : List By) : ((List.range (min xs.length ys.length)).all (fun j => xs.getD j [] == ys.getD j []) && xs.length == ys.length) = decide (xs = ys) := by
  rw [Bool.eq_iff_iff, decide_eq_true_iff, Bool.and_eq_true, beq_iff_eq, List.all_eq_true]
  constructor
  · rintro ⟨h, hl⟩
    apply List.ext_getElem hl
    intro j h1 h2
    have := h j (List.mem_range.mpr (by omega))
    rw [beq_iff_eq, List.getD_eq_getElem?_getD, List.getD_eq_getElem?_getD, List.getElem?_eq_getElem h1, List.getElem?_eq_getElem h2] at this
    exact this
  · rintro rfl
    exact ⟨fun j _ => beq_self_eq_true _, rfl⟩
section
variable {prog : Program} {w : World} {A : Around} {E : Value → Shared → Prop} {s : Shared} {h₀ : Heap} {L : Addr} {m : Str → Option Value} {news : List (Addr × Obj)}
theorem eqs_at {vs ws : List Value} {xs ys : List By} (hx : BsAre vs xs) (hy : BsAre ws ys) (j : Nat) (h1 : j < vs.toArray.size) (h2 : j < ws.toArray.size) : EqAt A.in1 s vs.toArray[j] ws.toArray[j] (xs.getD j [] == ys.getD j []) := by
  have g1 : j < vs.length := by simpa using h1
  have g2 : j < ws.length := by simpa using h2
  obtain ⟨b, t, e1, e2⟩ := hx.get (List.getElem?_eq_getElem g1)
  obtain ⟨c, u, e3, e4⟩ := hy.get (List.getElem?_eq_getElem g2)
  rw [List.getD_eq_getElem?_getD, List.getD_eq_getElem?_getD, e2, e4]
  have q1 : vs.toArray[j] = .bytes b t := by simpa using e1
  have q2 : ws.toArray[j] = .bytes c u := by simpa using e3
  rw [q1, q2]
  exact eqAt_bytes
theorem eq_TT {a b : Addr} {vs ws : List Value} {xs ys : List By} {Q : Value → Shared → Prop} (N : News h₀ L s.heap news) (ha : (a, tupOf vs) ∈ news) (hb : (b, tupOf ws) ∈ news) (hx : BsAre vs xs) (hy : BsAre ws ys) (hu : A.units < cLine)
    (h : Q (.bool (decide (xs = ys))) s) : wpAny (model prog w) A (compareOp .Eq (.ref a) (.ref b)) Q E s := by
  refine eq_tupleAt (items := vs.toArray) (items2 := ws.toArray) (e := fun j => xs.getD j [] == ys.getD j []) ⟨_, (N _ ha).1, rfl, _, rfl⟩ ⟨_, (N _ hb).1, rfl, _, rfl⟩ hu (fun j h1 h2 => eqs_at hx hy j h1 h2) ?_
  rw [List.size_toArray, List.size_toArray, hx.length, hy.length, all_eq]
  exact h
theorem ne_TT {a b : Addr} {vs ws : List Value} {xs ys : List By} {Q : Value → Shared → Prop} (N : News h₀ L s.heap news) (ha : (a, tupOf vs) ∈ news) (hb : (b, tupOf ws) ∈ news) (hx : BsAre vs xs) (hy : BsAre ws ys) (hu : A.units < cLine)
    (h : Q (.bool (!decide (xs = ys))) s) : wpAny (model prog w) A (compareOp .NotEq (.ref a) (.ref b)) Q E s := by
  refine RcNeAt.tuples (items := vs.toArray) (items2 := ws.toArray) (e := fun j => xs.getD j [] == ys.getD j []) ⟨_, (N _ ha).1, rfl, _, rfl⟩ ⟨_, (N _ hb).1, rfl, _, rfl⟩ hu (fun j h1 h2 => eqs_at hx hy j h1 h2) prog w E Q ?_
  rw [List.size_toArray, List.size_toArray, hx.length, hy.length, all_eq]
  exact h
/-- t + u of tuples -/
theorem add_TT {a b : Addr} {vs ws : List Value} {Q : Value → Shared → Prop} (F : Fr h₀ L s.heap m) (N : News h₀ L s.heap news) (ha : (a, tupOf vs) ∈ news) (hb : (b, tupOf ws) ∈ news) (hz : vs.length + ws.length ≤ 16384)
    (h : ∀ X h', Fr h₀ L h' m → News h₀ L h' ((X, tupOf (vs ++ ws)) :: news) → Q (.ref X) { s with heap := h' }) : wpAny (model prog w) A (binaryOp .Add (.ref a) (.ref b)) Q E s := by
  have one : ∀ (x : Addr) (zs : List Value), (x, tupOf zs) ∈ news → zs = vs ++ ws → Q (.ref x) s := fun x zs hx e => h x s.heap F fun p hp => by
    rcases List.mem_cons.mp hp with rfl | hp
    · rw [← e]; exact N _ hx
    · exact N p hp
  refine add_tuples F N (isTup_of N ha) (isTup_of N hb) (fun q => ?_) (fun _ q => ?_) (fun _ _ h' F' N' => h _ _ F' N') (by rw [sizeLine_eq]; omega)
  · exact one b ws hb (by rw [q]; rfl)
  · exact one a vs ha (by rw [q, List.append_nil])
end
theorem BsAre.take : ∀ {vs : List Value} {bs : List By} (n : Nat), BsAre vs bs → BsAre (vs.take n) (bs.take n)
  | _, _, 0, _ => by simp [BsAre]
  | [], [], n + 1, h => by simp [BsAre]
  | _ :: _, _ :: _, n + 1, h => ⟨h.1, BsAre.take n h.2⟩
  | [], _ :: _, _ + 1, h => h.elim
  | _ :: _, [], _ + 1, h => h.elim
theorem BsAre.drop : ∀ {vs : List Value} {bs : List By} (n : Nat), BsAre vs bs → BsAre (vs.drop n) (bs.drop n)
  | _, _, 0, h => by simpa using h
  | [], [], n + 1, h => by simp [BsAre]
  | _ :: _, _ :: _, n + 1, h => BsAre.drop n h.2
  | [], _ :: _, _ + 1, h => h.elim
  | _ :: _, [], _ + 1, h => h.elim
end Mine
namespace Mine
inductive MarkD : Prop where
  | mk
section
variable {prog : Program} {w : World} {A : Around} {E : Value → Shared → Prop} {s : Shared} {h₀ : Heap} {L : Addr} {m : Str → Option Value} {news : List (Addr × Obj)}
theorem len_LL {l : Addr} {vs : List Value} {n : Nat} {Q : Value → Shared → Prop} (N : News h₀ L s.heap news) (hl : (l, W.listOf vs.toArray n) ∈ news) (hz : vs.length < 1152921504606846976)
    (h : ∀ t tk, Q (.int (vs.length : Int) t) { s with toks := tk }) : wpAny (model prog w) A (call (.builtin "len") [.ref l]) Q E s := by
  refine len_list (items := vs.toArray) ⟨_, (N _ hl).1, rfl, _, rfl⟩ (by rw [List.size_toArray]; omega) ?_
  have e : ((vs.toArray.size : Nat) : Int) = (vs.length : Int) := by simp
  rw [e]
  exact h _ _
end
/-- the object's dict of the proof -/
structure PD where
  (h1 h2 h3 h4 h5 h6 : Int)
  (k1 k2 k3 k4 k5 k6 v1 v2 : Tok)
@[reducible] noncomputable def pdOf (x : PD) (key value : Value) (bl f : Addr) : Obj :=
  dictOf [⟨x.h1, .str (Str.ofString "_key") x.k1, key⟩, ⟨x.h2, .str (Str.ofString "_key_size") x.k2, .int 1 x.v1⟩, ⟨x.h3, .str (Str.ofString "_value") x.k3, value⟩, ⟨x.h4, .str (Str.ofString "_branch") x.k4, .ref bl⟩,
    ⟨x.h5, .str (Str.ofString "_branch_size") x.k5, .int 8 x.v2⟩, ⟨x.h6, .str (Str.ofString "hash_of") x.k6, .ref f⟩] 6
end Mine
namespace Mine
theorem Nodes.uniq {reg : List By} {val : Nat → By} {nd nd' : Nat → Nat → By} (hn : reg.Nodup) (h : Nodes reg val nd) (h' : Nodes reg val nd') : ∀ k a, k ≤ 8 → a < 2 ^ (8 - k) → nd k a = nd' k a
  | 0, a, _, ha => (h.leaf a ha).fn hn (h'.leaf a ha)
  | k + 1, a, hk, ha => by
    have ha7 : a < 2 ^ (7 - k) := by rw [show 7 - k = 8 - (k + 1) from ixD.symm]; exact ha
    have e8 : 2 ^ (8 - k) = 2 * 2 ^ (7 - k) := pow_half (by omega)
    have g := h'.node k a (by omega) ha7
    rw [← Nodes.uniq hn h h' k (2 * a) (by omega) (by omega), ← Nodes.uniq hn h h' k (2 * a + 1) (by omega) (by omega)] at g
    exact (h.node k a (by omega) ha7).fn hn g
theorem way_lt {u k : Nat} (hu : u < 256) (hk : k ≤ 8) : u / 2 ^ k < 2 ^ (8 - k) := by
  rw [Nat.div_lt_iff_lt_mul (Nat.pow_pos (by decide)), ← Nat.pow_add, ixK hk]
  exact hu
theorem sib_lt8 {u k : Nat} (hu : u < 256) (hk : k < 8) : sib (u / 2 ^ k) < 2 ^ (8 - k) := by
  have h := way_lt hu (k := k) (by omega)
  rw [ixA hk] at h ⊢
  exact sib_lt h
theorem beside_uniq {reg : List By} {val : Nat → By} {nd nd' : Nat → Nat → By} {u : Nat} (hn : reg.Nodup) (h : Nodes reg val nd) (h' : Nodes reg val nd') (hu : u < 256) : beside nd u = beside nd' u :=
  List.map_congr_left fun i hi => by
    have := List.mem_range.mp hi
    exact h.uniq hn h' _ _ (by omega) (sib_lt8 hu (by omega))
/-- along the right way lie the right nodes -/
theorem Way.right {reg : List By} {val : Nat → By} {nd : Nat → Nat → By} {u : Nat} {v : By} {hs : Nat → By} (hn : reg.Nodup) (h : Nodes reg val nd) (hu : u < 256) (hv : v = val u) (W : Way reg u v (beside nd u) 9 hs) : ∀ j, j ≤ 8 → hs j = nd j (u / 2 ^ j)
  | 0, _ => by
    have w := W 0 (by omega)
    rw [Nat.pow_zero, Nat.div_one]
    subst hv
    exact w.fn hn (h.leaf u hu)
  | j + 1, hj => by
    have w := W (j + 1) (by omega)
    have ih := Way.right hn h hu hv W j (by omega)
    have hb : (beside nd u)[7 - j]? = some (nd j (sib (u / 2 ^ j))) := by rw [beside_get (by omega), ixB (i := j) (by omega)]
    have ha := way_lt hu (k := j + 1) hj
    rw [ixD (i := j)] at ha
    have g := h.node j (u / 2 ^ (j + 1)) (by omega) ha
    rw [half_way] at g ⊢
    by_cases hq : u / 2 ^ j % 2 = 0
    · rw [Tn_zero hq hb, ih] at w
      have e1 : 2 * (u / 2 ^ j / 2) = u / 2 ^ j := md2 hq
      have e2 : sib (u / 2 ^ j) = u / 2 ^ j + 1 := by unfold sib; rw [if_pos hq]
      rw [e1, ← e2] at g
      exact w.fn hn g
    · rw [Tn_one (md1 hq) hb, ih] at w
      have e1 : 2 * (u / 2 ^ j / 2) + 1 = u / 2 ^ j := md3 hq
      have e2 : sib (u / 2 ^ j) = 2 * (u / 2 ^ j / 2) := by unfold sib; rw [if_neg hq]; exact Nat.sub_eq_of_eq_add e1.symm
      rw [e1, ← e2] at g
      exact w.fn hn g
theorem Way.root {reg : List By} {val : Nat → By} {nd : Nat → Nat → By} {u : Nat} {v : By} {hs : Nat → By} (hn : reg.Nodup) (h : Nodes reg val nd) (hu : u < 256) (hv : v = val u) (W : Way reg u v (beside nd u) 9 hs) : hs 8 = nd 8 0 := by
  have := W.right hn h hu hv 8 (Nat.le_refl _)
  rwa [show u / 2 ^ 8 = 0 from Nat.div_eq_of_lt hu] at this
theorem beside_small {reg : List By} {val : Nat → By} {nd : Nat → Nat → By} {u : Nat} (h : Nodes reg val nd) (hu : u < 256) : ∀ b ∈ beside nd u, b.length ≤ 1000 := fun b hb => by
  obtain ⟨i, hi, rfl⟩ := List.mem_map.mp hb
  have := List.mem_range.mp hi
  rw [h.len _ _ (by omega) (sib_lt8 hu (by omega))]
  decide
theorem app_inj {a b c d : By} (h : a ++ b = c ++ d) (e : a.length = c.length) : a = c ∧ b = d := List.append_inj h e
/-- a way that ends in the root is the right one -/
theorem Way.only {reg : List By} {val : Nat → By} {nd : Nat → Nat → By} {u : Nat} {v : By} {bs : List By} {hs : Nat → By} (hz : reg.length < 2 ^ 50) (h : Nodes reg val nd) (hu : u < 256) (hb8 : bs.length = 8) (W : Way reg u v bs 9 hs) (hr : hs 8 = nd 8 0) :
    v = val u ∧ bs = beside nd u := by
  have key : ∀ n, n ≤ 8 → hs (8 - n) = nd (8 - n) (u / 2 ^ (8 - n)) ∧ ∀ j, 8 - n ≤ j → j < 8 → bs[7 - j]? = some (nd j (sib (u / 2 ^ j))) := by
    intro n
    induction n with
    | zero =>
      intro _
      refine ⟨?_, fun j h1 h2 => by omega⟩
      rw [show 8 - 0 = 8 from rfl, hr, show u / 2 ^ 8 = 0 from Nat.div_eq_of_lt hu]
    | succ n ih =>
      intro hn
      obtain ⟨i1, i2⟩ := ih (by omega)
      obtain ⟨j, hj⟩ : ∃ j, j = 8 - (n + 1) := ⟨_, rfl⟩
      have hj8 : 8 - n = j + 1 := by omega
      have hj0 : j < 8 := by omega
      have hj1 : j + 1 < 9 := Nat.succ_lt_succ hj0
      have hj2 : j + 1 ≤ 8 := hj0
      rw [← hj]
      rw [hj8] at i1
      have w := W (j + 1) (by omega)
      have ha := way_lt hu (k := j + 1) (by omega)
      rw [ixD (i := j)] at ha
      have g := h.node j (u / 2 ^ (j + 1)) (by omega) ha
      rw [i1] at w
      have e := w.inj hz g
      have hlen : (hs j).length = 32 := (W j (by omega)).len
      obtain ⟨sb, hsb⟩ : ∃ sb, bs[7 - j]? = some sb := ⟨bs[7 - j]'(by omega), List.getElem?_eq_getElem _⟩
      have hl2 : ∀ c, c < 2 ^ (8 - j) → (nd j c).length = 32 := fun c hc => h.len j c (by omega) hc
      have e8 : 2 ^ (8 - j) = 2 * 2 ^ (7 - j) := pow_half (by omega)
      have both : hs j = nd j (u / 2 ^ j) ∧ sb = nd j (sib (u / 2 ^ j)) := by
        rw [half_way] at e ha
        by_cases hq : u / 2 ^ j % 2 = 0
        · rw [Tn_zero hq hsb] at e
          have e1 : 2 * (u / 2 ^ j / 2) = u / 2 ^ j := md2 hq
          have e2 : sib (u / 2 ^ j) = u / 2 ^ j + 1 := by unfold sib; rw [if_pos hq]
          obtain ⟨x1, x2⟩ := app_inj e (by rw [hlen, hl2 _ (by omega)])
          rw [e1] at x1 x2
          exact ⟨x1, by rw [e2]; exact x2⟩
        · rw [Tn_one (md1 hq) hsb] at e
          have e1 : 2 * (u / 2 ^ j / 2) + 1 = u / 2 ^ j := md3 hq
          have e2 : sib (u / 2 ^ j) = 2 * (u / 2 ^ j / 2) := by unfold sib; rw [if_neg hq]; exact Nat.sub_eq_of_eq_add e1.symm
          have hl := congrArg List.length e
          rw [List.length_append, List.length_append, hlen, hl2 _ (by omega), hl2 _ (by omega)] at hl
          obtain ⟨x1, x2⟩ := app_inj e (by rw [hl2 _ (by omega)]; omega)
          rw [e1] at x2
          exact ⟨x2, by rw [e2]; exact x1⟩
      refine ⟨both.1, fun j' h1 h2 => ?_⟩
      by_cases hjj : j' = j
      · rw [hjj, hsb, both.2]
      · exact i2 j' (by omega) h2
  obtain ⟨k1, k2⟩ := key 8 (Nat.le_refl _)
  constructor
  · have w := W 0 (by omega)
    rw [Nat.sub_self, Nat.pow_zero, Nat.div_one] at k1
    rw [k1] at w
    exact w.inj hz (h.leaf u hu)
  · apply List.ext_getElem?
    intro i
    rcases Nat.lt_or_ge i 8 with hi | hi
    · have := k2 (7 - i) (by omega) (by omega)
      rw [ixB hi] at this
      rw [this, beside_get hi]
    · rw [List.getElem?_eq_none (by omega), List.getElem?_eq_none (by rw [beside_length]; exact hi)]
section
variable {prog : Program} {w : World} {A : Around} {E : Value → Shared → Prop} {s : Shared} {h₀ : Heap} {L : Addr} {m : Str → Option Value} {news : List (Addr × Obj)}
theorem ne_same {b c : Array UInt8} {t u : Tok} {Q : Value → Shared → Prop} (e : b.toList = c.toList) (h : Q (.bool false) s) : wpAny (model prog w) A (compareOp .NotEq (.bytes b t) (.bytes c u)) Q E s :=
  ne_bytes (by rw [e, bne_self_eq_false]; exact h)
theorem eq_same {b c : Array UInt8} {t u : Tok} {Q : Value → Shared → Prop} (e : b.toList = c.toList) (h : Q (.bool true) s) : wpAny (model prog w) A (compareOp .Eq (.bytes b t) (.bytes c u)) Q E s :=
  eq_bytes (by rw [e, beq_self_eq_true]; exact h)
theorem ne_TTsame {a b : Addr} {vs ws : List Value} {xs : List By} {Q : Value → Shared → Prop} (N : News h₀ L s.heap news) (ha : (a, tupOf vs) ∈ news) (hb : (b, tupOf ws) ∈ news) (hx : BsAre vs xs) (hy : BsAre ws xs) (hu : A.units < cLine)
    (h : Q (.bool false) s) : wpAny (model prog w) A (compareOp .NotEq (.ref a) (.ref b)) Q E s :=
  ne_TT N ha hb hx hy hu (by rw [decide_eq_true rfl]; exact h)
end
end Mine
namespace Mine
open PySem PySem.Spec PySem.Calls
theorem sub_ri_reversed : isSubtype (.type "range_iterator") (.type "reversed") = pure false := by rw [isSubtype_type]; kernel_rfl
noncomputable def rngIt (x left step : Int) : Obj := { cls := .type "range_iterator", data := .fields #[rawInt x, rawInt left, rawInt step] }
section
variable {prog : Program} {w : World} {A : Around} {E : Value → Shared → Prop} {s : Shared}
theorem call_range_reversed {l : Addr} {t u v : Tok} {Q : Value → Shared → Prop} (hl : IsRange s.heap l 0 8 1 t u v)
    (h : Q (.ref s.heap.objs.size) { s with heap := s.heap.push (rngIt 7 8 (-1)) }) : wpAny (model prog w) A (call (.builtin "range.__reversed__") [.ref l]) Q E s := by
  have hT : s.TypeIs (.ref l) "range" := ⟨_, hl, rfl⟩
  refine wpAny_call_entry PySem.F.slot_range_reversed hT PySem.F.entry_range_reversed ?_ (PySem.F.args_range_reversed_1 _)
  unfold Builtin.«range.__reversed__»
  refine wpAny_bind (wpAny_of_eq (a := Value.ref l) rfl ?_)
  unfold Builtin.Range.rangeFields
  refine wpAny_bind (wpAny_bind (wpAny_field hl rfl (x := .int 0 t) rfl (wpAny_bind (wpAny_of_eq (a := some 0) rfl ?_))))
  refine wpAny_bind (wpAny_field hl rfl (x := .int 8 u) rfl (wpAny_bind (wpAny_of_eq (a := some 8) rfl ?_)))
  refine wpAny_bind (wpAny_field hl rfl (x := .int 1 v) rfl (wpAny_bind (wpAny_of_eq (a := some 1) rfl ?_)))
  refine wpAny_pure ?_
  exact wpAny_bind (wpAny_newObj_type (wpAny_pure ⟨_, rfl, h⟩))
theorem code_reversed_rng {l : Addr} {t u v : Tok} {Q₁ : Value → Shared → Prop} (hl : IsRange s.heap l 0 8 1 t u v)
    (h : Q₁ (.ref s.heap.objs.size) { s with heap := s.heap.push (rngIt 7 8 (-1)) }) :
    codeAny (model prog w) A (.call (.builtin "reversed.__new__") ⟨[.type "reversed", .ref l], []⟩) (wants Q₁ E) s := by
  have hT : s.TypeIs (.ref l) "range" := ⟨_, hl, rfl⟩
  refine codeAny_of_tree ?_
  show wpAny _ A.in1 (do checkBuiltinCall "reversed.__new__" ⟨[.type "reversed", .ref l], []⟩; again (.builtin "reversed.__new__" ⟨[.type "reversed", .ref l], []⟩)) _ _ s
  refine wpAny_bind (wpAny_of_eq (F.newCall_reversed_1 _) (wpAny_pure ⟨plainId_quiet F.plain_reversed_new _, codeAny_builtin F.entry_reversed_new ?_⟩))
  rw [Around.under_plainId F.plain_reversed_new _]
  unfold Builtin.«reversed.__new__»
  refine wpAny_bind (wpAny_of_eq (newClass_reversed _) ?_)
  try dsimp only
  refine wpAny_bind (wpAny_of_eq (a := ()) (by first | rfl | kernel_rfl) ?_)
  refine wpAny_bind (wpAny_of_eq (a := ()) (by first | rfl | kernel_rfl) ?_)
  try dsimp only
  refine wpAny_bind (wpAny_specialOf hT PySem.F.slot_range_reversed.lookup ?_)
  try dsimp only
  refine wpAny_bind (wpAny_of_eq (PySem.F.slot_range_reversed.bind _) ?_)
  try dsimp only
  first
  | rw [if_neg (show ¬ ((Value.builtin "range.__reversed__" == Value.none) = true) from Bool.false_ne_true)]
  | (show wpAny _ _ (if (Value.builtin "range.__reversed__" == Value.none) = true then _ else _) _ _ _; rw [if_neg (show ¬ ((Value.builtin "range.__reversed__" == Value.none) = true) from Bool.false_ne_true)])
  refine wpAny_bind (wpAny_rule ?_)
  refine wpAny_bind (m := runValue (.call (.builtin "range.__reversed__") ⟨[.ref l], []⟩)) (show wpAny _ _ (call (.builtin "range.__reversed__") [.ref l]) _ _ _ from call_range_reversed hl ?_)
  first
  | exact wpAny_pure h
  | exact wpAny_bind (wpAny_pure (wpAny_pure h))
theorem call_reversed_rng {l : Addr} {t u v : Tok} {Q : Value → Shared → Prop} (hl : IsRange s.heap l 0 8 1 t u v)
    (h : Q (.ref s.heap.objs.size) { s with heap := s.heap.push (rngIt 7 8 (-1)) }) : wpAny (model prog w) A (call (.type "reversed") [.ref l]) Q E s := by
  refine callType_other (U := "range_iterator") (Q₁ := fun obj s₁ => obj = .ref s.heap.objs.size ∧ s₁ = { s with heap := s.heap.push (rngIt 7 8 (-1)) }) (by decide +kernel) F.create_reversed ⟨_, _, F.mro_reversed⟩ F.made_reversed sub_ri_reversed (F.typeCall_reversed_1 _) (code_reversed_rng hl ⟨rfl, rfl⟩) ?_
  rintro obj s₁ ⟨rfl, rfl⟩
  exact ⟨⟨_, Heap.get?_push_size _ rfl, rfl⟩, h⟩
variable {h₀ : Heap} {L D : Addr} {m : Str → Option Value} {news news' : List (Addr × Obj)} {env : Env} {x : Str} {body : List Stmt}
theorem rev_rng {l : Addr} {t u v : Tok} {Q : Value → Shared → Prop} (F : Fr h₀ L s.heap m) (N : News h₀ L s.heap news) (hl : IsRange s.heap l 0 8 1 t u v)
    (h : ∀ I h', Fr h₀ L h' m → News h₀ L h' ((I, rngIt 7 8 (-1)) :: news) → (∀ p ∈ news, p.1 < I) → Q (.ref I) { s with heap := h' }) : wpAny (model prog w) A (call (.type "reversed") [.ref l]) Q E s :=
  call_reversed_rng hl (h _ _ (F.push _) (News.push F N _) fun p hp => Heap.lt_size (N p hp).1)
/-- over reversed(range(8)), its iterator at the ledger's head -/
theorem loop_revr {I : Addr} {m₀ : Str → Option Value} {Q : Flow → Shared → Prop} (J : Nat → (Str → Option Value) → List (Addr × Obj) → Prop)
    (hh : A.handled = none) (F : Fr h₀ env.locals s.heap m₀) (N : News h₀ env.locals s.heap ((I, rngIt 7 8 (-1)) :: news)) (hof : ∀ p ∈ news, p.1 ≠ I) (hj : J 0 m₀ news)
    (turn : ∀ i tv m₁ nx it h tk, i < 8 → J i m₁ nx → (∀ p ∈ nx, p.1 ≠ I) → Fr h₀ env.locals h (fun y => if y = x then some (.int (7 + (i : Int) * (-1)) tv) else m₁ y) → News h₀ env.locals h ((I, it) :: nx) →
      wpAny (model prog w) A (execs body env) (UnrPost h₀ env.locals { s with heap := h, toks := tk } I it (J (i + 1)) Q) E { s with heap := h, toks := tk })
    (done : ∀ m₁ nx h tk, J 8 m₁ nx → Fr h₀ env.locals h m₁ → News h₀ env.locals h nx → Q .next { s with heap := h, toks := tk }) :
    wpAny (model prog w) A (pyIter (.ref I)) (fun it s₂ => LoopAtV prog w A h₀ env x body Q E it s₂) E s := by
  have hI := N _ (List.mem_cons_self ..)
  have hit : IsRangeIter s.heap I 7 8 (-1) := hI.1
  refine wpAny_pyIter_rangeiter hit ?_
  refine loop_gen J (cs := []) (Walks.range hh I 7 (-1) 8) (fun e => hI.2.1 e.symm) (by simp) hI.2.2 (fun i h e => ⟨_, e⟩) hof (fun c hc => by cases hc) (by show IsRangeIter _ _ _ _ _; simpa using hit) F (fun p hp => N p (List.mem_cons_of_mem _ hp)) hj ?_ done
  rintro i v m₁ nx it h tk hin ⟨tv, rfl⟩ hJ hof F₁ N₁
  exact turn i tv m₁ nx it h tk hin hJ hof F₁ N₁
theorem set_L {vs : List Value} {n : Nat} {k : Int} {t : Tok} {y : Value} {Q : Unit → Shared → Prop} (F : Fr h₀ L s.heap m) (N : News h₀ L s.heap news) (U : Upd D (W.listOf vs.toArray n) (W.listOf (vs.set k.toNat y).toArray n) news news') (h0 : 0 ≤ k) (h1 : k < (vs.length : Int)) (hz : vs.length < 1152921504606846976)
    (h : ∀ h', Fr h₀ L h' m → News h₀ L h' news' → Q () { s with heap := h' }) : wpAny (model prog w) A (setItem (.ref D) (.int k t) y) Q E s := by
  obtain ⟨pre, post, rfl, rfl, a, b⟩ := U.split
  have z := N (D, W.listOf vs.toArray n) (List.mem_append.mpr (.inr (.head _)))
  refine ki_setAt z.1 h0 (by omega) (by rw [List.size_toArray]; exact h1) (h _ (F.change (Heap.SameBut.update ..) z.2.1 z.2.2) (ki_turn _ N a b ?_ ?_))
  · show vs.toArray.setIfInBounds k.toNat y = (vs.set k.toNat y).toArray
    apply Array.toList_inj.mp
    simp
  · simp
end
theorem lin_xor {A B X Y p q x y : Nat} (h : A + B = X + 2 * Y) (k : p + q = x + 2 * y) : (2 * A + p) + (2 * B + q) = (2 * X + x) + 2 * (2 * Y + y) := by omega
theorem xor_sum (a : Nat) : ∀ b : Nat, a + b = (a ^^^ b) + 2 * (a &&& b) := by
  induction a using Nat.strongRecOn with
  | _ a ih =>
    intro b
    by_cases h : a = 0
    · subst h; simp
    · have e := ih (a / 2) (by omega) (b / 2)
      rw [← Nat.xor_div_two, ← Nat.and_div_two] at e
      have k : a % 2 + b % 2 = (a ^^^ b) % 2 + 2 * ((a &&& b) % 2) := by
        have ea := Nat.xor_mod_two_pow (a := a) (b := b) (n := 1)
        have eb := Nat.and_mod_two_pow (a := a) (b := b) (n := 1)
        rw [Nat.pow_one] at ea eb
        rw [ea, eb]
        have : ∀ p, p < 2 → ∀ q, q < 2 → p + q = (p ^^^ q) + 2 * (p &&& q) := by decide
        exact this _ (Nat.mod_lt _ (by decide)) _ (Nat.mod_lt _ (by decide))
      have z := lin_xor e k
      rwa [Nat.div_add_mod, Nat.div_add_mod, Nat.div_add_mod, Nat.div_add_mod] at z
theorem xor_nat (a b : Nat) : Builtin.bitXor (a : Int) (b : Int) = ((a ^^^ b : Nat) : Int) := by
  rw [PyProof.Rows.bitXor_and]
  have e : Builtin.bitAnd (a : Int) (b : Int) = ((a &&& b : Nat) : Int) := by
    unfold Builtin.bitAnd
    rw [decide_eq_true (Int.natCast_nonneg a), decide_eq_true (Int.natCast_nonneg b)]
    simp only [Int.toNat_natCast]
  have := xor_sum a b
  rw [e]
  omega
theorem xor_zero {a b : Nat} (h : a ^^^ b = 0) : a = b := by
  apply Nat.eq_of_testBit_eq
  intro i
  have := congrArg (fun x => x.testBit i) h
  simp only [Nat.testBit_xor, Nat.zero_testBit] at this
  revert this
  cases a.testBit i <;> cases b.testBit i <;> simp
theorem tb (n k : Nat) : n.testBit k = decide (n / 2 ^ k % 2 = 1) := Nat.testBit_eq_decide_div_mod_eq
theorem xor_bit {a b k : Nat} (h : a / 2 ^ (k + 1) = b / 2 ^ (k + 1)) : ((a ^^^ b) &&& 2 ^ k = 0) ↔ a / 2 ^ k = b / 2 ^ k := by
  rw [half_way, half_way] at h
  have e : (a ^^^ b).testBit k = (a.testBit k ^^ b.testBit k) := Nat.testBit_xor ..
  rw [tb, tb, tb] at e
  rw [and_pow]
  have h1 : a / 2 ^ k % 2 = 0 ∨ a / 2 ^ k % 2 = 1 := by omega
  have h2 : b / 2 ^ k % 2 = 0 ∨ b / 2 ^ k % 2 = 1 := by omega
  have h3 : (a ^^^ b) / 2 ^ k % 2 = 0 ∨ (a ^^^ b) / 2 ^ k % 2 = 1 := by omega
  rcases h1 with h1 | h1 <;> rcases h2 with h2 | h2 <;> rcases h3 with h3 | h3 <;> simp [h1, h2, h3] at e ⊢ <;> omega
section
variable {prog : Program} {w : World} {A : Around} {E : Value → Shared → Prop} {s : Shared} {t u : Tok} {Q : Value → Shared → Prop}
theorem ne_int_same {a b : Int} (e : a = b) (h : Q (.bool false) s) : wpAny (model prog w) A (compareOp .NotEq (.int a t) (.int b u)) Q E s :=
  ne_int (by subst e; simpa using h)
theorem ne_int_diff {a b : Int} (e : a ≠ b) (h : Q (.bool true) s) : wpAny (model prog w) A (compareOp .NotEq (.int a t) (.int b u)) Q E s :=
  ne_int (by rw [bne_iff_ne.mpr e]; exact h)
theorem xorI {a b : Int} (ha : 0 ≤ a) (hb : 0 ≤ b) (h : ∀ t' k', Q (.int ((a.toNat ^^^ b.toNat : Nat) : Int) t') { s with toks := k' }) : wpAny (model prog w) A (binaryOp .BitXor (.int a t) (.int b u)) Q E s := by
  obtain ⟨m, rfl⟩ := Int.eq_ofNat_of_zero_le ha
  obtain ⟨n, rfl⟩ := Int.eq_ofNat_of_zero_le hb
  refine xor_int ?_
  rw [xor_nat]
  exact h _ _
theorem andP {a : Nat} {x : Int} (h : ∀ t' k', Q (.int ((a &&& 2 ^ x.toNat : Nat) : Int) t') { s with toks := k' }) : wpAny (model prog w) A (binaryOp .BitAnd (.int (a : Int) t) (.int ((2 ^ x.toNat : Nat) : Int) u)) Q E s := by
  refine and_int ?_
  rw [bitAnd_two]
  exact h _ _
theorem shl1 {x : Int} (h0 : 0 ≤ x) (h1 : x ≤ 60) (h : ∀ t' k', Q (.int ((2 ^ x.toNat : Nat) : Int) t') { s with toks := k' }) : wpAny (model prog w) A (binaryOp .LShift (.int 1 t) (.int x u)) Q E s := by
  refine lshift_int_small h0 (by omega) (by decide) ?_
  have e : (1 : Int) * 2 ^ x.toNat = ((2 ^ x.toNat : Nat) : Int) := by rw [Int.one_mul]; norm_cast
  rw [e]
  exact h _ _
end
end Mine
namespace Mine
/-- the place where two ways part -/
def PartAt (a b p : Nat) : Prop := p ≤ 7 ∧ (∀ j, j < p → a / 2 ^ (7 - j) = b / 2 ^ (7 - j)) ∧ a / 2 ^ (7 - p) ≠ b / 2 ^ (7 - p)
section
variable {prog : Program} {w : World} {A : Around} {E : Value → Shared → Prop} {s : Shared} {h₀ : Heap} {L : Addr} {m : Str → Option Value} {news : List (Addr × Obj)}
theorem eq_diff {b c : Array UInt8} {t u : Tok} {Q : Value → Shared → Prop} (e : b.toList ≠ c.toList) (h : Q (.bool false) s) : wpAny (model prog w) A (compareOp .Eq (.bytes b t) (.bytes c u)) Q E s :=
  eq_bytes (by rw [beq_eq_false_iff_ne.mpr e]; exact h)
/-- one of a written list of bytes, whichever -/
theorem item_any {value slice : Expr} {l : Addr} {vs : List Value} {n : Nat} {x : Int} {tx : Tok} {Q : Value → Shared → Prop} (N : News h₀ L s.heap news) (hl : (l, W.listOf vs.toArray n) ∈ news) (hv : ∀ v ∈ vs, ∃ b t, v = .bytes b t) (h0 : 0 ≤ x) (h1 : x < (vs.length : Int)) (hz : vs.length < 1152921504606846976)
    (h : ∀ b t, Q (.bytes b t) s)
    (hs : subscripted slice false (.ref l) (.int x tx) = operate [.ref l, .int x tx] (getItem (.ref l) (.int x tx)) := by with_unfolding_all rfl) (hg : ∀ r, letTemporaryGo value (.ref l) r = pure () := by intro _; with_unfolding_all rfl) :
    wpAny (model prog w) A (subscriptTail value slice (.ref l) (.int x tx)) Q E s := by
  obtain ⟨i, rfl⟩ := Int.eq_ofNat_of_zero_le h0
  have hi : i < vs.length := Int.ofNat_lt.mp h1
  obtain ⟨b, t, e⟩ := hv _ (List.getElem_mem hi)
  exact item_L N hl rfl (v := .bytes b t) (by rw [List.getElem?_eq_getElem hi, e]) hz (h b t) hs hg
end
theorem heldVal_stored {kvh : List (By × Value)} {d : By} {u : UInt8} {vb : Array UInt8} {t : Tok} {a : Nat} (ha : a < 256) : heldVal (stored kvh [u] (.bytes vb t)) d a = if a = u.toNat then vb.toList else heldVal kvh d a := by
  unfold heldVal
  rw [valueAt_stored]
  by_cases e : a = u.toNat
  · subst e
    rw [if_pos (by rw [UInt8.ofNat_toNat]), if_pos rfl]
  · have h2 : ¬ ([UInt8.ofNat a] = [u]) := fun h => e (by
      have h3 : UInt8.ofNat a = u := by injection h
      rw [← h3]
      simp [UInt8.toNat_ofNat]
      omega)
    rw [if_neg h2, if_neg e]
theorem Nodes.congr {reg : List By} {val val' : Nat → By} {nd : Nat → Nat → By} (h : Nodes reg val nd) (e : ∀ a, a < 256 → val a = val' a) : Nodes reg val' nd := ⟨fun a ha => by rw [← e a ha]; exact h.leaf a ha, h.node⟩
theorem DbOk.congr {reg : List By} {kvs : List (By × Value)} {val val' : Nat → By} {nd : Nat → Nat → By} (h : DbOk reg kvs val nd) (e : ∀ a, a < 256 → val a = val' a) : DbOk reg kvs val' nd := ⟨h.nodes.congr e, h.sound, h.leaf, h.node⟩
theorem DbOk.mono {reg reg' : List By} {kvs : List (By × Value)} {val : Nat → By} {nd : Nat → Nat → By} (h : DbOk reg kvs val nd) (x : reg <+: reg') : DbOk reg' kvs val nd :=
  ⟨h.nodes.mono x, fun k v e => let ⟨b, t, e1, e2⟩ := h.sound k v e; ⟨b, t, e1, e2.mono x⟩, h.leaf, h.node⟩
theorem put_held {kvh : List (By × Value)} {d : By} {u : UInt8} {vb : Array UInt8} {t : Tok} : ∀ a, a < 256 → put (heldVal kvh d) u.toNat vb.toList a = heldVal (stored kvh [u] (.bytes vb t)) d a := fun a ha => (heldVal_stored ha).symm
theorem nodup_stored {K : Type} [DecidableEq K] {kvs : List (K × Value)} {k : K} {v : Value} (h : (kvs.map (·.1)).Nodup) : ((stored kvs k v).map (·.1)).Nodup := by
  unfold stored
  split
  · have e : (kvs.map fun kv => if kv.1 = k then (kv.1, v) else kv).map (·.1) = kvs.map (·.1) := by
      rw [List.map_map]
      refine List.map_congr_left fun q _ => ?_
      show (if q.1 = k then (q.1, v) else q).1 = q.1
      split <;> rfl
    rw [e]; exact h
  · rename_i hn
    rw [List.map_append, List.nodup_append]
    refine ⟨h, by simp, fun a ha b hb e => hn ?_⟩
    obtain ⟨q, hq, rfl⟩ := List.mem_map.mp ha
    refine List.any_eq_true.mpr ⟨q, hq, ?_⟩
    rw [List.map_singleton, List.mem_singleton] at hb
    simp [e, hb]
theorem HeldOk.set {kvh : List (By × Value)} {u : UInt8} {vb : Array UInt8} {t : Tok} (h : HeldOk kvh) : HeldOk (stored kvh [u] (.bytes vb t)) := by
  refine ⟨nodup_stored h.nodup, fun p hp => ?_⟩
  unfold stored at hp
  split at hp
  · obtain ⟨q, hq, rfl⟩ := List.mem_map.mp hp
    split
    · rename_i e
      exact ⟨u, vb, t, by rw [e]⟩
    · exact h.ok q hq
  · rcases List.mem_append.mp hp with hp | hp
    · exact h.ok p hp
    · exact ⟨u, vb, t, List.mem_singleton.mp hp⟩
theorem HeldOk.nil : HeldOk [] := ⟨List.nodup_nil, fun p hp => by simp at hp⟩
theorem heldVal_nil {d : By} {a : Nat} : heldVal [] d a = d := rfl
/-- what a set leaves beside the own way -/
theorem sib_even (q : Nat) : sib (2 * q) = 2 * q + 1 := by unfold sib; rw [if_pos (Nat.mul_mod_right 2 q)]
theorem sib_odd (q : Nat) : sib (2 * q + 1) = 2 * q := by
  unfold sib
  rw [if_neg (fun e => by rw [Nat.mul_add_mod] at e; cases e)]
  rfl
theorem sib_ne (a : Nat) : sib a ≠ a := by
  obtain ⟨q, rfl | rfl⟩ := two_cases a
  · rw [sib_even]; exact Nat.succ_ne_self _
  · rw [sib_odd]; exact (Nat.succ_ne_self _).symm
theorem beside_set_self {nd : Nat → Nat → By} {u : Nat} {hs : Nat → By} : beside (setNd nd u hs) u = beside nd u :=
  List.map_congr_left fun i _ => setNd_off (sib_ne _)
theorem sib_pair {a b : Nat} (h : a / 2 = b / 2) (hne : a ≠ b) : sib a = b := by
  obtain ⟨p, rfl | rfl⟩ := two_cases a <;> obtain ⟨q, rfl | rfl⟩ := two_cases b
  · rw [half_even, half_even] at h; exact absurd (by rw [h]) hne
  · rw [half_even, half_odd] at h; rw [sib_even, h]
  · rw [half_odd, half_even] at h; rw [sib_odd, h]
  · rw [half_odd, half_odd] at h; exact absurd (by rw [h]) hne
theorem sib_half (a : Nat) : sib a / 2 = a / 2 := by
  obtain ⟨q, rfl | rfl⟩ := two_cases a
  · rw [sib_even, half_odd, half_even]
  · rw [sib_odd, half_even, half_odd]
theorem PartAt.uniq {a b p q : Nat} (h : PartAt a b p) (h' : PartAt a b q) : p = q := by
  rcases Nat.lt_trichotomy p q with e | e | e
  · exact absurd (h'.2.1 p e) h.2.2
  · exact e
  · exact absurd (h.2.1 q e) h'.2.2
/-- what a set changes beside another way -/
theorem beside_set {nd : Nat → Nat → By} {m u p : Nat} {hs : Nat → By} (h : PartAt m u p) (hm : m < 256) (hu : u < 256) : beside (setNd nd u hs) m = (beside nd m).set p (setNd nd u hs (7 - p) (u / 2 ^ (7 - p))) := by
  obtain ⟨hp, hj, hne⟩ := h
  have hpar : m / 2 ^ (7 - p + 1) = u / 2 ^ (7 - p + 1) := by
    by_cases h0 : p = 0
    · subst h0; rw [show m / 2 ^ (7 - 0 + 1) = 0 from Nat.div_eq_of_lt hm, show u / 2 ^ (7 - 0 + 1) = 0 from Nat.div_eq_of_lt hu]
    · have := hj (p - 1) (by omega)
      rw [show 7 - (p - 1) = 7 - p + 1 from ixC (by omega) h0] at this
      exact this
  apply List.ext_getElem?
  intro i
  rcases Nat.lt_or_ge i 8 with hi | hi
  · rw [beside_get hi, List.getElem?_set]
    by_cases e : p = i
    · subst e
      rw [if_pos rfl, if_pos (by rw [beside_length]; exact hi)]
      rw [half_way, half_way] at hpar
      rw [sib_pair hpar hne]
    · rw [if_neg e, beside_get hi]
      congr 1
      refine setNd_off fun hs2 => ?_
      rcases Nat.lt_or_ge i p with h1 | h1
      · rw [hj i h1] at hs2
        exact sib_ne _ hs2
      · have h2 : m / 2 ^ (7 - i) / 2 = u / 2 ^ (7 - i) / 2 := by rw [← hs2, sib_half]
        rw [← half_way, ← half_way] at h2
        have h3 : ∀ k, m / 2 ^ (7 - i + 1 + k) = u / 2 ^ (7 - i + 1 + k) := fun k => by
          rw [Nat.pow_add, ← Nat.div_div_eq_div_mul, ← Nat.div_div_eq_div_mul, h2]
        have := h3 (i - 1 - p)
        rw [ixN hi (by omega)] at this
        exact hne this
  · rw [List.getElem?_eq_none (by rw [beside_length]; exact hi), List.getElem?_eq_none (by rw [List.length_set, beside_length]; exact hi)]
theorem BsAre.set : ∀ {vs : List Value} {bs : List By} {p : Nat} {b : Array UInt8} {t : Tok}, BsAre vs bs → BsAre (vs.set p (.bytes b t)) (bs.set p b.toList)
  | [], [], _, _, _, _ => trivial
  | _ :: _, _ :: _, 0, b, t, h => ⟨⟨b, t, rfl, rfl⟩, h.2⟩
  | _ :: _, _ :: _, p + 1, _, _, h => ⟨h.1, BsAre.set h.2⟩
  | [], _ :: _, _, _, _, h => h.elim
  | _ :: _, [], _, _, _, h => h.elim
/-- the law's places stand apart -/
structure Ap (td db r hl bl pd : Addr) (base : List (Addr × Obj)) : Prop where
  n1 : @Ne Nat td db
  n2 : @Ne Nat td r
  n3 : @Ne Nat td hl
  n4 : @Ne Nat td pd
  n5 : @Ne Nat db r
  n6 : @Ne Nat db hl
  n7 : @Ne Nat db pd
  n8 : @Ne Nat r hl
  n9 : @Ne Nat r pd
  n10 : @Ne Nat hl pd
  b1 : ∀ p ∈ base, p.1 ≠ td
  b2 : ∀ p ∈ base, p.1 ≠ db
  b3 : ∀ p ∈ base, p.1 ≠ r
  b4 : ∀ p ∈ base, p.1 ≠ hl
  b5 : ∀ p ∈ base, p.1 ≠ bl
  b6 : ∀ p ∈ base, p.1 ≠ pd
  lo : (r == sysModules) = false
  lo2 : (hl == sysModules) = false
end Mine
local macro_rules | `(tactic| k_lt $h:ident) => `(tactic| (have kraw := $h; replace $h := allLt_of $h; simp only [AllLt, and_true] at $h:ident))
local macro_rules | `(tactic| walk_at "mine tail") => `(tactic| first | assumption | (refine List.Mem.tail _ ?_; walk_at "mine tail"))
local macro_rules | `(tactic| walk_at "mine sub") => `(tactic| first | exact fun _ hp => hp | (refine List.forall_mem_cons.mpr (And.intro (by k_mem) ?_); walk_at "mine sub") | exact List.forall_mem_nil _ | (intro p hp; walk_at "mine tail"))
local macro_rules | `(tactic| k_all) => `(tactic| first | assumption | exact Mine.ne_of_raw (by assumption) (by walk_at "mine sub") | exact Mine.ne_of_off (by assumption) (by walk_at "mine sub") | exact Mine.ne_all_lt (by assumption) | exact List.forall_mem_nil _ | (refine List.forall_mem_cons.mpr (And.intro (by k_ne) ?_); k_all))
local macro_rules | `(tactic| walk_at "mine cls") => `(tactic| first
  | (with_unfolding_all show (Value.type _ : Value) ≠ Value.type _; exact (by decide))
  | (with_unfolding_all show (Value.ref _ : Value) ≠ Value.type _; exact (fun e => nomatch e))
  | (with_unfolding_all show (Value.type _ : Value) ≠ Value.ref _; exact (fun e => nomatch e))
  | (with_unfolding_all decide))
local macro_rules | `(tactic| k_ne) => `(tactic| first
  | kd_ltNe
  | (refine Ne.symm ?_; kd_ltNe)
  | exact Mine.ne_mem (l := _ :: _) (by assumption) (by k_mem)
  | exact Mine.ne_mem' (l := _ :: _) (by assumption) (by k_mem)
  | with_reducible exact Nat.ne_of_lt (by assumption)
  | with_reducible exact Nat.ne_of_gt (by assumption)
  | with_reducible exact Nat.ne_of_lt (Nat.lt_trans (by assumption) (by assumption))
  | with_reducible exact Nat.ne_of_gt (Nat.lt_trans (by assumption) (by assumption))
  | with_reducible assumption
  | with_reducible exact Ne.symm (by assumption)
  | (refine neN ?_; (try dsimp only); omega)
  | (refine' Mine.ne_cls (by assumption) ?k1 ?k2 ?k3; (case k1 => k_mem); (case k2 => k_mem); (case k3 => first | walk_at "mine cls" | exact Mine.ne_dict (by assumption) (by walk_at "mine cls") | exact Mine.ne_dict' (by assumption) (by walk_at "mine cls"))))
local macro_rules | `(tactic| walk_at "mine ap") => `(tactic| first | assumption | (refine List.forall_mem_cons.mpr (And.intro (by k_ne) ?_); walk_at "mine ap"))
namespace Mine
noncomputable def fdBody : Stmt → List Stmt
  | .FunctionDef _ _ b _ _ _ _ _ _ _ => b
  | _ => []
noncomputable def fdParams : Stmt → Arguments
  | .FunctionDef _ a _ _ _ _ _ _ _ _ => a
  | _ => default
noncomputable def fdScope : Stmt → Scope
  | .FunctionDef _ _ _ _ _ _ s _ _ _ => s
  | _ => default
noncomputable def fdNamed (n : Str) : List Stmt → Stmt
  | [] => default
  | s :: r => match s with
    | .FunctionDef m _ _ _ _ _ _ _ _ _ => if m == n then s else fdNamed n r
    | _ => fdNamed n r
noncomputable def hashStmt : Stmt := fdNamed (Str.ofString "hash_of") (fdBody (fdNamed (Str.ofString "_law_hash") PySem.Challenge.pw_iu0037_01.main.body))
@[reducible] noncomputable def hashBodyS : {b : List Stmt // b = fdBody hashStmt} := by
  refine ⟨?b, ?h⟩
  case h => conv => rhs; whnf
@[reducible] noncomputable def hashScopeS : {b : Scope // b = fdScope hashStmt} := by
  refine ⟨?b, ?h⟩
  case h => conv => rhs; whnf
@[reducible] noncomputable def hashParamsS : {b : Arguments // b = fdParams hashStmt} := by
  refine ⟨?b, ?h⟩
  case h => conv => rhs; whnf
@[reducible] noncomputable def hashBody : List Stmt := hashBodyS.1
@[reducible] noncomputable def hashScope : Scope := hashScopeS.1
@[reducible] noncomputable def hashParams : Arguments := hashParamsS.1

noncomputable abbrev PR : Program := PySem.Challenge.rw_iu0037_01.row.prog

/-- hash_of stands at f, its register at r -/
structure HashAt (rest : List (Addr × Obj)) (f r : Addr) : Prop where
  ex : ∃ (qual : Str) (doc pm ctv : Value) (c' cell : Addr) (oc ocell : Obj) (vs : Array Value) (t : Tok),
    (f, fnMade (Str.ofString "hash_of") qual hashParams hashBody hashScope [(Str.ofString "register", cell)] doc pm c' ctv) ∈ rest ∧ (c', oc) ∈ rest ∧ oc.data = .fields vs ∧ vs[1]? = some (.str qual t) ∧
    (cell, ocell) ∈ rest ∧ ocell.data = .cell (some (.ref r))
theorem HashAt.mono {rest rest' : List (Addr × Obj)} {f r : Addr} (H : HashAt rest f r) (h : ∀ p ∈ rest, p ∈ rest') : HashAt rest' f r := by
  obtain ⟨q, d, pm, ctv, c', cell, oc, ocell, vs, t, h1, h2, h3, h4, h5, h6⟩ := H.ex
  exact ⟨q, d, pm, ctv, c', cell, oc, ocell, vs, t, h _ h1, h _ h2, h3, h4, h _ h5, h6⟩

set_option maxHeartbeats 1000000 in
theorem c_hash (w : World) {gd : Option (List Code)} {cn : Str} {cs : Scope} {a : Addr} {ccd : Value} {cl : List (Str × Addr)} {outer : List Env} {A₀ : Around} {base h₀ : Heap} {L : Addr} {m mg mb : Str → Option Value}
    {p : Program} {loose : List Str} {mean : ExcName → Option Value} {s : Shared} {R : Result → Shared → Prop} {f r : Addr} {od : Obj} {rest : List (Addr × Obj)} {kvs : List (By × Value)} {reg : List By} {b : Array UInt8} {t : Tok}
    (B : Below A₀ base outer h₀) (F : Fr h₀ L s.heap m) (X : (Mine.z.heap_1_39 w.params).In h₀) (N : News h₀ L s.heap ((r, od) :: rest)) (T : Top p loose mean mg mb h₀) (hk : cs.kind = .function)
    (hoff : ∀ p ∈ rest, p.1 ≠ r) (hlo : (r == sysModules) = false) (H : HashAt rest f r) (hd : od.IsDictOf (bytesKind PySem.Challenge.rw_iu0037_01.row.prog w) kvs) (hr : RegIs kvs reg) (hz : reg.length ≤ 1048576)
    (ret : ∀ b' t' od' kvs' reg' h' tk', Fr h₀ L h' m → News h₀ L h' ((r, od') :: rest) → od'.IsDictOf (bytesKind PySem.Challenge.rw_iu0037_01.row.prog w) kvs' → RegIs kvs' reg' → reg <+: reg' → reg'.length ≤ reg.length + 1 → Hs reg' b.toList b'.toList →
      R (.ok (.ret (.bytes b' t'))) { s with heap := h', toks := tk' }) :
    codeAny (model PySem.Challenge.rw_iu0037_01.row.prog w) (ctop 900 9000 gd cn cs L a ccd cl outer) (.call (.ref f) ⟨[.bytes b t], []⟩) R s := by
  revert X; k_fill; w_top off; intro X
  have mkN := MarkN.mk
  have hl : kvs.length = reg.length := by rw [← hr.keys, List.length_map]
  obtain ⟨qual, doc, pm, ctv, c', cell, oc, ocell, vs, t', h1, h2, h3, h4, h5, h6⟩ := H.ex
  refine code_nest B F X N T rfl rfl hk (.tail _ h1) (codeRec_news N (.tail _ h2) h3 h4) (by show 900 < recursionLimit; decide) (BindsTo.of_eq rfl) (locs rfl) ?_ rfl rfl rfl (by decide)
  intro g' L' h' FG' F' N' B' X' T'
  cases hv : valueAt kvs b.toList with
  | none =>
    (repeat' (first | (k_unfold; (try dsimp only)) | (k_end; wrow_close) | ((with_reducible show wpAny _ _ (call (Value.builtin "int.to_bytes") _) _ _ _); k_here; (with_unfolding_all refine Mine.to_bytes32i (by omega) (by omega) ?_); intro _ _ _ _) | ((with_reducible show wpAny _ _ (call (Value.builtin "len") [Value.ref _]) _ _ _); k_here; k_dflt (refine kda_len (knd := PySem.W.bytesKind _ _) (by k_asm) (by k_mem) (by k_asm) (by k_asm) (by omega) ?_)) | ((with_reducible show wpAny _ _ (compareOp CmpOp.NotIn (Value.bytes _ _) (Value.ref _)) _ _ _); k_here; k_dflt (first | refine kdg_notin (knd := PySem.W.bytesKind _ _) (by k_asm) (by k_mem) (by k_asm) (by k_asm) (Mine.bytes_is _ _ _ _) false (Mine.vnone (by assumption)) ?_ | refine kdg_notin (knd := PySem.W.bytesKind _ _) (by k_asm) (by k_mem) (by k_asm) (by k_asm) (Mine.bytes_is _ _ _ _) true (Mine.vsome (by assumption)) ?_); (try dsimp only [Bool.not_true, Bool.not_false])) | ((with_reducible show wpAny _ _ (eval (Expr.Name _ _) _) _ _ _); k_here; (rename Mine.MarkN => stopMarkN); k_dflt (refine' nameX_F ?N ?c ?m ?d ?_ ?a ?b; (case b => rfl); (case a => rfl); (case N => k_asm); (case c => rfl); (case m => first | exact List.Mem.tail _ (by assumption) | k_mem); (case d => k_asm); k_whole)) | ((with_reducible show wpAny _ _ (setItem (Value.ref _) (Value.bytes _ _) _) _ _ _); k_here; k_dflt (refine' kda_set (knd := PySem.W.bytesKind _ _) ?F ?N ?U ?d (Mine.bytes_is _ _ _ _) ?z ?_; (case F => k_asm); (case N => k_asm); (case U => k_updF); (case d => k_asm); (case z => rw [sizeLine_eq]; omega)); intro _ _ _ N9' _; (try dsimp only at N9')) | ((with_reducible show wpAny _ _ (subscriptTail _ _ (Value.ref _) (Value.bytes _ _)) _ _ _); k_here; k_dflt (refine kda_item (knd := PySem.W.bytesKind _ _) (by k_asm) (by (first | k_mem | walk_at "mine tail")) (by k_asm) (Mine.bytes_is _ _ _ _) (by first | assumption | exact Mine.valueAt_self) ?_)) | walk1 | (dsimp only; walk1) | (leave1; walk_say "STEP leave1"; try dsimp only)))
    (rename Obj.IsDictOf _ _ _ => hd2)
    (rename Array.toList _ = enc _ => he)
    rw [stored_absent hv] at hd2
    have he2 := he.trans (congrArg enc (show _ = kvs.length + 1 by omega))
    obtain ⟨q1, q2⟩ := hr.new (tk := _) hv he2
    exact ret _ _ _ _ _ _ _ (by assumption) (by assumption) hd2 q1 ⟨_, rfl⟩ (by rw [List.length_append]; exact Nat.le_refl _) q2
  | some v =>
    (repeat' (first | (k_unfold; (try dsimp only)) | (k_end; wrow_close) | ((with_reducible show wpAny _ _ (call (Value.builtin "int.to_bytes") _) _ _ _); k_here; (with_unfolding_all refine Mine.to_bytes32i (by omega) (by omega) ?_); intro _ _ _ _) | ((with_reducible show wpAny _ _ (call (Value.builtin "len") [Value.ref _]) _ _ _); k_here; k_dflt (refine kda_len (knd := PySem.W.bytesKind _ _) (by k_asm) (by k_mem) (by k_asm) (by k_asm) (by omega) ?_)) | ((with_reducible show wpAny _ _ (compareOp CmpOp.NotIn (Value.bytes _ _) (Value.ref _)) _ _ _); k_here; k_dflt (first | refine kdg_notin (knd := PySem.W.bytesKind _ _) (by k_asm) (by k_mem) (by k_asm) (by k_asm) (Mine.bytes_is _ _ _ _) false (Mine.vnone (by assumption)) ?_ | refine kdg_notin (knd := PySem.W.bytesKind _ _) (by k_asm) (by k_mem) (by k_asm) (by k_asm) (Mine.bytes_is _ _ _ _) true (Mine.vsome (by assumption)) ?_); (try dsimp only [Bool.not_true, Bool.not_false])) | ((with_reducible show wpAny _ _ (eval (Expr.Name _ _) _) _ _ _); k_here; (rename Mine.MarkN => stopMarkN); k_dflt (refine' nameX_F ?N ?c ?m ?d ?_ ?a ?b; (case b => rfl); (case a => rfl); (case N => k_asm); (case c => rfl); (case m => first | exact List.Mem.tail _ (by assumption) | k_mem); (case d => k_asm); k_whole)) | ((with_reducible show wpAny _ _ (setItem (Value.ref _) (Value.bytes _ _) _) _ _ _); k_here; k_dflt (refine' kda_set (knd := PySem.W.bytesKind _ _) ?F ?N ?U ?d (Mine.bytes_is _ _ _ _) ?z ?_; (case F => k_asm); (case N => k_asm); (case U => k_updF); (case d => k_asm); (case z => rw [sizeLine_eq]; omega)); intro _ _ _ N9' _; (try dsimp only at N9')) | ((with_reducible show wpAny _ _ (subscriptTail _ _ (Value.ref _) (Value.bytes _ _)) _ _ _); k_here; k_dflt (refine kda_item (knd := PySem.W.bytesKind _ _) (by k_asm) (by (first | k_mem | walk_at "mine tail")) (by k_asm) (Mine.bytes_is _ _ _ _) (by first | assumption | exact Mine.valueAt_self) ?_)) | walk1 | (dsimp only; walk1) | (leave1; walk_say "STEP leave1"; try dsimp only)))
    obtain ⟨b', tk', rfl, hs⟩ := hr.hit hv
    exact ret _ _ _ _ _ _ _ (by assumption) (by assumption) hd hr (List.prefix_refl _) (by omega) hs

/-- hash_of called amid a walk -/
theorem hashU {w : World} {A' A₀ : Around} {base h₀ : Heap} {outer : List Env} {L a : Addr} {m mg mb : Str → Option Value} {p : Program} {loose : List Str} {mean : ExcName → Option Value} {s : Shared} {Q E : Value → Shared → Prop}
    {cn : Str} {cs : Scope} {ccd : Value} {cl : List (Str × Addr)} {f r : Addr} {od : Obj} {rest l : List (Addr × Obj)} {g : Obj → List (Addr × Obj)} {kvs : List (By × Value)} {reg : List By} {b : Array UInt8} {t : Tok}
    (B : Below A₀ base outer h₀) (F : Fr h₀ L s.heap m) (X : (Mine.z.heap_1_39 w.params).In h₀) (N : News h₀ L s.heap l) (T : Top p loose mean mg mb h₀)
    (hfr : A'.frames = some (envX cn cs L a ccd cl :: outer)) (hhd : A'.handled = none) (hdp : A'.depth ≤ 900) (hun : A'.units ≤ 9000) (hk : cs.kind = .function)
    (H : HashAt rest f r) (hoff : ∀ p ∈ rest, p.1 ≠ r) (hlo : (r == sysModules) = false) (U : UpdF r od l g) (hsub : ∀ p ∈ rest, p ∈ l)
    (hd : od.IsDictOf (bytesKind PySem.Challenge.rw_iu0037_01.row.prog w) kvs) (hr : RegIs kvs reg) (hz : reg.length ≤ 1048576)
    (ret : ∀ b' t' od' kvs' reg' h' tk', Fr h₀ L h' m → News h₀ L h' (g od') → od'.IsDictOf (bytesKind PySem.Challenge.rw_iu0037_01.row.prog w) kvs' → RegIs kvs' reg' → reg <+: reg' → reg'.length ≤ reg.length + 1 → Hs reg' b.toList b'.toList →
      Q (.bytes b' t') { s with heap := h', toks := tk' }) :
    wpAny (model PySem.Challenge.rw_iu0037_01.row.prog w) A' (call (.ref f) [.bytes b t]) Q E s := by
  obtain ⟨pre, post, rfl, hg, h1, h2⟩ := U.split
  have hall : ∀ p ∈ pre ++ post, p.1 ≠ r := fun p hp => (List.mem_append.mp hp).elim (h1 p) (h2 p)
  have hs2 : ∀ p ∈ rest, p ∈ pre ++ post := fun p hp => by
    rcases List.mem_append.mp (hsub p hp) with h | h
    · exact List.mem_append_left _ h
    · rcases List.mem_cons.mp h with rfl | h
      · exact absurd rfl (hoff _ hp)
      · exact List.mem_append_right _ h
  refine wpAny_call (code_deep (A := ctop 900 9000 A'.guards cn cs L a ccd cl outer) (c_hash w B F X (rest := pre ++ post) (fun p hp => N p ?_) T hk hall hlo (H.mono hs2) hd hr hz ?_) hhd hdp hfr.symm rfl hun)
  · rcases List.mem_cons.mp hp with rfl | hp
    · simp
    · rcases List.mem_append.mp hp with hp | hp <;> simp [hp]
  · intro b' t' od' kvs' reg' h' tk' F' N' hd' hr' hx hl hh
    refine ret b' t' od' kvs' reg' h' tk' F' (fun p hp => N' p ?_) hd' hr' hx hl hh
    rw [hg] at hp
    rcases List.mem_append.mp hp with hp | hp
    · simp [hp]
    · rcases List.mem_cons.mp hp with rfl | hp <;> simp [*]
theorem HashAt.fnAt {rest l : List (Addr × Obj)} {f r : Addr} {h₀ h : Heap} {L : Addr} (H : HashAt rest f r) (N : News h₀ L h l) (hsub : ∀ p ∈ rest, p ∈ l) : FnAt f h := by
  obtain ⟨q, d, pm, ctv, c', cell, oc, ocell, vs, t, h1, h2, h3, h4, h5, h6⟩ := H.ex
  exact FnAt.of N (hsub _ h1)
end Mine
namespace Mine
theorem menu4 (i : Nat) : 0 ≤ ([1, 0, 2, 40] : List Int).getD i 0 ∧ ([1, 0, 2, 40] : List Int).getD i 0 ≤ 40 := by
  match i with
  | 0 | 1 | 2 | 3 => decide
  | i + 4 => simp
set_option maxHeartbeats 1000000 in
theorem c_octet (w : World) {gd : Option (List Code)} {cn : Str} {cs : Scope} {a : Addr} {ccd : Value} {cl : List (Str × Addr)} {outer : List Env} {A₀ : Around} {base h₀ : Heap} {L : Addr} {m mg mb : Str → Option Value}
    {p : Program} {loose : List Str} {mean : ExcName → Option Value} {s : Shared} {R : Result → Shared → Prop} {news : List (Addr × Obj)} {x : Int} {tk : Tok}
    (B : Below A₀ base outer h₀) (F : Fr h₀ L s.heap m) (X : (Mine.z.heap_1_39 w.params).In h₀) (T : Top p loose mean mg mb h₀) (hk : cs.kind = .function) (N : News h₀ L s.heap news) (hx : 0 ≤ x)
    (ret : ∀ (u : UInt8) t h' tk', Fr h₀ L h' m → News h₀ L h' news → R (.ok (.ret (.bytes #[u] t))) { s with heap := h', toks := tk' }) :
    codeAny (model PySem.Challenge.rw_iu0037_01.row.prog w) (ctop 900 9000 gd cn cs L a ccd cl outer) (.call (.ref 267) ⟨[.int x tk], []⟩) R s := by
  revert X; k_fill; w_top off; intro X
  k_dflt cell_enter
  (repeat' (first | (k_unfold; (try dsimp only)) | (k_end; wrow_close) | walk1 | (dsimp only; walk1) | (leave1; walk_say "STEP leave1"; try dsimp only)))
  exact ret _ _ _ _ (by assumption) (by (first | assumption | exact cb_drop (by assumption) (by walk_at "mine sub")))

set_option maxHeartbeats 1000000 in
theorem c_value (w : World) {gd : Option (List Code)} {cn : Str} {cs : Scope} {a : Addr} {ccd : Value} {cl : List (Str × Addr)} {outer : List Env} {A₀ : Around} {base h₀ : Heap} {L : Addr} {m mg mb : Str → Option Value}
    {p : Program} {loose : List Str} {mean : ExcName → Option Value} {s : Shared} {R : Result → Shared → Prop} {news : List (Addr × Obj)} {x : Int} {tk : Tok}
    (B : Below A₀ base outer h₀) (F : Fr h₀ L s.heap m) (X : (Mine.z.heap_1_39 w.params).In h₀) (T : Top p loose mean mg mb h₀) (hk : cs.kind = .function) (N : News h₀ L s.heap news) (hx : 0 ≤ x)
    (ret : ∀ b t h' tk', Fr h₀ L h' m → News h₀ L h' news → R (.ok (.ret (.bytes b t))) { s with heap := h', toks := tk' }) :
    codeAny (model PySem.Challenge.rw_iu0037_01.row.prog w) (ctop 900 9000 gd cn cs L a ccd cl outer) (.call (.ref 260) ⟨[.int x tk], []⟩) R s := by
  revert X; k_fill; w_top off; intro X
  k_dflt cell_enter
  (repeat' (first | (k_unfold; (try dsimp only)) | (k_end; wrow_close) | walk1 | (dsimp only; walk1) | (leave1; walk_say "STEP leave1"; try dsimp only)))
  have hb := menu4 (x.fmod 4).toNat
  refine bytes_mul_any (b := [_]) (by simp) (by omega) (by omega) (by simp) ?_
  intro t2 k2
  (repeat' (first | (k_unfold; (try dsimp only)) | (k_end; wrow_close) | walk1 | (dsimp only; walk1) | (leave1; walk_say "STEP leave1"; try dsimp only)))
  exact ret _ _ _ _ (by assumption) (by (first | assumption | exact cb_drop (by assumption) (by walk_at "mine sub")))
end Mine
namespace Mine
set_option maxHeartbeats 2000000 in
theorem c_get (w : World) {gd : Option (List Code)} {cn : Str} {cs : Scope} {a : Addr} {ccd : Value} {cl : List (Str × Addr)} {outer : List Env} {A₀ : Around} {base h₀ : Heap} {L : Addr} {m mg mb : Str → Option Value}
    {p : Program} {loose : List Str} {mean : ExcName → Option Value} {s : Shared} {R : Result → Shared → Prop} {rest : List (Addr × Obj)} {t td db f : Addr} {x : TD} {dflt : Value} {root : Array UInt8} {tr : Tok} {odb : Obj} {kvs : List (By × Value)} {reg : List By} {val : Nat → By} {nd : Nat → Nat → By} {u : UInt8} {tk : Tok}
    (B : Below A₀ base outer h₀) (F : Fr h₀ L s.heap m) (X : (Mine.z.heap_1_39 w.params).In h₀) (T : Top p loose mean mg mb h₀) (hk : cs.kind = .function) (N : News h₀ L s.heap ((t, instObj 214 td) :: (td, tdOf x dflt f db (.bytes root tr)) :: (db, odb) :: rest))
    (hd : odb.IsDictOf (bytesKind PySem.Challenge.rw_iu0037_01.row.prog w) kvs) (D : DbOk reg kvs val nd) (hz : reg.length < 2 ^ 50) (hroot : root.toList = nd 8 0)
    (ret : ∀ (rt bt : Addr) (lv : Array UInt8) (tl : Tok) (bvs : List Value) h' tk', Fr h₀ L h' m → News h₀ L h' ((rt, tupOf [.bytes lv tl, .ref bt]) :: (bt, tupOf bvs) :: (t, instObj 214 td) :: (td, tdOf x dflt f db (.bytes root tr)) :: (db, odb) :: rest) → lv.toList = val u.toNat → BsAre bvs (beside nd u.toNat) → R (.ok (.ret (.ref rt))) { s with heap := h', toks := tk' }) :
    codeAny (model PySem.Challenge.rw_iu0037_01.row.prog w) (ctop 900 9000 gd cn cs L a ccd cl outer) (.call (.ref 162) ⟨[.ref t, .bytes #[u] tk], []⟩) R s := by
  revert X; k_fill; w_top off; intro X
  have mk9 := Mark.mk
  k_dflt cell_enter
  (repeat' (first | (k_unfold; (try dsimp only)) | (k_end; wrow_close) | ((with_reducible show wpAny _ _ (binaryOp Operator.LShift (Value.int _ _) (Value.int _ _)) _ _ _); k_here; (refine Mine.shl1 (by omega) (by omega) ?_); intro _ _) | ((with_reducible show wpAny _ _ (call (Value.builtin "list.append") [Value.ref _, _]) _ _ _); k_here; k_dflt (refine' Mine.append_L ?k1 ?k2 ?k3 ?_ ?z; (case k1 => k_asm); (case k2 => k_asm); (case k3 => k_upd); (case z => first | omega | (simp; done) | (simp; omega)); k_whole); intro _ _ _; (try k_sweep)) | ((with_reducible show wpAny _ _ (call (Value.type "tuple") [Value.ref _]) _ _ _); k_here; (refine' Mine.tuple_L ?F ?N ?l ?z ?_; (case F => k_asm); (case N => k_asm); (case l => k_dflt k_mem); (case z => omega)); intro _ _ _ _ l9'; (try k_lt l9'); (try k_sweep)) | ((with_reducible show wpAny _ _ (compareOp CmpOp.NotEq (Value.int _ _) (Value.int _ _)) _ _ _); k_here; (rename Mine.Mark => stopMark); (refine Mine.ne_int_same (by first | omega | k_dflt rfl) ?_)) | ((with_reducible show wpAny _ _ (getMethod (Value.type "int") _ _) _ _ _); k_here; (refine KFB.getm (by k_asm) (by k_asm) (by k_asm) (by k_is) ?_); intro _ _ _ _ l9'; (try k_lt l9'); (try k_sweep)) | ((with_reducible show wpAny _ _ (pyIter (Value.ref _)) _ _ _); k_here; (rename Mine.Mark => stopMark); refine Mine.stop_at ?_) | ((with_reducible show wpAny _ _ (subscriptTail _ (Expr.Slice _ _ none _) (Value.bytes _ _) (Value.ref _)) _ _ _); k_here; (with_reducible rename Fr _ _ _ _ => F9'); (with_reducible rename News _ _ _ _ => N9'); (refine KBc.slice_K (s := ⟨_, _, _, _, _⟩) F9' N9' rfl (by constructor) (by constructor) (by rw [KBw.ints_length]; omega) ?_); intro _ _ _ _ _ _) | ((with_reducible show wpAny _ _ (subscriptTail _ _ (Value.ref _) (Value.bytes _ _)) _ _ _); k_here; k_dflt (refine kda_item (knd := PySem.W.bytesKind _ _) (by k_asm) (by (first | k_mem | walk_at "mine tail")) (by k_asm) (Mine.bytes_is _ _ _ _) (by first | assumption | exact Mine.valueAt_self) ?_)) | walk1 | (dsimp only; walk1) | (leave1; walk_say "STEP leave1"; try dsimp only)))
  unfold Stop
  (rename Fr _ _ _ _ => lF); (rename News _ _ _ _ => lN); (rename IsRange _ _ _ _ _ _ _ _ => lR)
  refine' loop_range (n := 8) (fun i m₁ nx => IsR m₁ (Str.ofString "self") t ∧ IsI m₁ (Str.ofString "path") (u.toNat : Int) ∧ (i < 8 → IsI m₁ (Str.ofString "target_bit") ((2 ^ (7 - i) : Nat) : Int)) ∧
      IsB m₁ (Str.ofString "node_hash") (nd (8 - i) (u.toNat / 2 ^ (8 - i))) ∧ ∃ bl bvs nb, IsR m₁ (Str.ofString "branch") bl ∧ (∀ p ∈ ((t, instObj 214 td) :: (td, tdOf x dflt f db (Value.bytes root tr)) :: (db, odb) :: rest : List (Addr × Obj)), p.1 < bl) ∧ BsAre bvs ((beside nd u.toNat).take i) ∧
      nx = (bl, listOf bvs.toArray nb) :: (t, instObj 214 td) :: (td, tdOf x dflt f db (Value.bytes root tr)) :: (db, odb) :: rest) rfl lR (by decide) (by decide) lF (cb_drop lN ?sub) ?j0 ?turn ?done
  case j0 =>
    refine ⟨rfl, IsI.of rfl (by omega), fun _ => IsI.of rfl (by decide), IsB.of rfl ?_, _, [], 0, rfl, ?_, trivial, rfl⟩
    · rw [hroot, show u.toNat / 2 ^ (8 - 0) = 0 from Nat.div_eq_of_lt u.toNat_lt]
    · assumption
  case sub => walk_at "mine sub"
  case turn =>
    rintro i I tv m₁ nx it h1 tk1 hi ⟨e1, ⟨tp, e2⟩, e3, ⟨nh, tn, e4, e5⟩, bl, bvs, nb, e6, hlt, e7, rfl⟩ hof F1 N1
    obtain ⟨tb, e3⟩ := e3 hi
    have l1 := hlt
    k_lt l1
    have l2 := gnNe_of hof
    simp only [GnNe] at l2
    rw [see_all [(Str.ofString "self", .ref t), (Str.ofString "path", .int (u.toNat : Int) tp), (Str.ofString "target_bit", .int ((2 ^ (7 - i) : Nat) : Int) tb), (Str.ofString "node_hash", .bytes nh tn), (Str.ofString "branch", .ref bl)]
      (List.forall_mem_cons.mpr ⟨e1, List.forall_mem_cons.mpr ⟨e2, List.forall_mem_cons.mpr ⟨e3, List.forall_mem_cons.mpr ⟨e4, List.forall_mem_cons.mpr ⟨e6, List.forall_mem_nil _⟩⟩⟩⟩⟩)] at F1
    have hq : u.toNat / 2 ^ (8 - i) < 2 ^ (7 - (7 - i)) := by
      have := u.toNat_lt
      rw [Nat.div_lt_iff_lt_mul (Nat.pow_pos (by decide)), ← Nat.pow_add, ixG (i := i) (by omega)]
      exact this
    obtain ⟨tx, ttx, hv, htx⟩ := D.at_node hz (k := 7 - i) (by omega) hq
    rw [show 7 - i + 1 = 8 - i from (ixA (by omega)).symm, ← e5] at hv
    have hlen : ∀ c, c < 2 ^ (8 - (7 - i)) → (nd (7 - i) c).length = 32 := fun c hc => D.nodes.len _ _ (by omega) hc
    have hq2 : 2 ^ (8 - (7 - i)) = 2 * 2 ^ (7 - (7 - i)) := by rw [ixF (i := i) (by omega), Nat.pow_succ]; omega
    have hl1 := hlen (2 * (u.toNat / 2 ^ (8 - i))) (by omega)
    have hl2 := hlen (2 * (u.toNat / 2 ^ (8 - i)) + 1) (by omega)
    have hsz : tx.size ≤ 64 := by
      have e := congrArg List.length htx
      rw [Array.length_toList, List.length_append, hl1, hl2] at e
      omega
    have hlow : (KBy.picked tx none (some 32)).toList = nd (7 - i) (2 * (u.toNat / 2 ^ (8 - i))) := by rw [picked_low, htx, List.take_left' hl1]
    have hhigh : (KBy.picked tx (some 32) none).toList = nd (7 - i) (2 * (u.toNat / 2 ^ (8 - i)) + 1) := by rw [picked_high, htx, List.drop_left' hl1]
    have hbl : bvs.length = i := by rw [e7.length, List.length_take, beside_length]; exact Nat.min_eq_left (by omega)
    have hdiv : u.toNat / 2 ^ (8 - i) = u.toNat / 2 ^ (7 - i) / 2 := by rw [Nat.div_div_eq_div_mul, ← Nat.pow_succ]; rw [show (7 - i).succ = 8 - i from (ixA (by omega)).symm]
    have htake : (beside nd u.toNat).take (i + 1) = (beside nd u.toNat).take i ++ [nd (7 - i) (sib (u.toNat / 2 ^ (7 - i)))] := by
      rw [List.take_add_one, beside_get (by omega)]; rfl
    have htb : ∀ (_ : i + 1 < 8), (((2 ^ (7 - i) : Nat) : Int)).fdiv (2 ^ Int.toNat 1) = ((2 ^ (7 - (i + 1)) : Nat) : Int) := fun h => by
      rw [ixH (i := i) (by omega)]; exact shr_one _
    clear lF lN
    (repeat' (first | (k_unfold; (try dsimp only)) | (k_end; wrow_close) | ((with_reducible show wpAny _ _ (binaryOp Operator.LShift (Value.int _ _) (Value.int _ _)) _ _ _); k_here; (refine Mine.shl1 (by omega) (by omega) ?_); intro _ _) | ((with_reducible show wpAny _ _ (call (Value.builtin "list.append") [Value.ref _, _]) _ _ _); k_here; k_dflt (refine' Mine.append_L ?k1 ?k2 ?k3 ?_ ?z; (case k1 => k_asm); (case k2 => k_asm); (case k3 => k_upd); (case z => first | omega | (simp; done) | (simp; omega)); k_whole); intro _ _ _; (try k_sweep)) | ((with_reducible show wpAny _ _ (call (Value.type "tuple") [Value.ref _]) _ _ _); k_here; (refine' Mine.tuple_L ?F ?N ?l ?z ?_; (case F => k_asm); (case N => k_asm); (case l => k_dflt k_mem); (case z => omega)); intro _ _ _ _ l9'; (try k_lt l9'); (try k_sweep)) | ((with_reducible show wpAny _ _ (compareOp CmpOp.NotEq (Value.int _ _) (Value.int _ _)) _ _ _); k_here; (rename Mine.Mark => stopMark); (refine Mine.ne_int_same (by first | omega | k_dflt rfl) ?_)) | ((with_reducible show wpAny _ _ (getMethod (Value.type "int") _ _) _ _ _); k_here; (refine KFB.getm (by k_asm) (by k_asm) (by k_asm) (by k_is) ?_); intro _ _ _ _ l9'; (try k_lt l9'); (try k_sweep)) | ((with_reducible show wpAny _ _ (pyIter (Value.ref _)) _ _ _); k_here; (rename Mine.Mark => stopMark); refine Mine.stop_at ?_) | ((with_reducible show wpAny _ _ (subscriptTail _ (Expr.Slice _ _ none _) (Value.bytes _ _) (Value.ref _)) _ _ _); k_here; (with_reducible rename Fr _ _ _ _ => F9'); (with_reducible rename News _ _ _ _ => N9'); (refine KBc.slice_K (s := ⟨_, _, _, _, _⟩) F9' N9' rfl (by constructor) (by constructor) (by rw [KBw.ints_length]; omega) ?_); intro _ _ _ _ _ _) | ((with_reducible show wpAny _ _ (subscriptTail _ _ (Value.ref _) (Value.bytes _ _)) _ _ _); k_here; k_dflt (refine kda_item (knd := PySem.W.bytesKind _ _) (by k_asm) (by (first | k_mem | walk_at "mine tail")) (by k_asm) (Mine.bytes_is _ _ _ _) (by first | assumption | exact Mine.valueAt_self) ?_)) | walk1 | (dsimp only; walk1) | (leave1; walk_say "STEP leave1"; try dsimp only)))
    · (rename _ ≠ _ => hbit)
      have hb := bit_one hbit
      have hb0 : ¬ u.toNat / 2 ^ (7 - i) % 2 = 0 := fun e => by rw [hb] at e; cases e
      have hb3 := md3 hb0
      rw [← hdiv] at hb3
      (rename Fr _ _ _ _ => lF); (rename News _ _ _ _ => lN)
      refine UnrEnd.intro lF lN ((bl, W.listOf (bvs ++ [_]).toArray (nb + 1)) :: (t, instObj 214 td) :: (td, tdOf x dflt f db (Value.bytes root tr)) :: (db, odb) :: rest) (by walk_at "mine sub")
        (List.forall_mem_cons.mpr ⟨l2.1, fun p hp => hof p (.tail _ hp)⟩) ⟨rfl, IsI.of rfl rfl, fun hi' => IsI.of rfl (htb hi'), IsB.of rfl ?nh, bl, _, _, rfl, hlt, ?bs, rfl⟩
      case nh => rw [hhigh, ixD (i := i), hb3]
      case bs => rw [htake]; refine e7.append (BsAre.one ?_); rw [hlow]; congr 1; unfold sib; rw [if_neg hb0]; exact Nat.eq_sub_of_add_eq hb3
    · (rename _ = (0 : Int) => hbit)
      have hb := bit_zero hbit
      have hb3 := md2 hb
      rw [← hdiv] at hb3
      (rename Fr _ _ _ _ => lF); (rename News _ _ _ _ => lN)
      refine UnrEnd.intro lF lN ((bl, W.listOf (bvs ++ [_]).toArray (nb + 1)) :: (t, instObj 214 td) :: (td, tdOf x dflt f db (Value.bytes root tr)) :: (db, odb) :: rest) (by walk_at "mine sub")
        (List.forall_mem_cons.mpr ⟨l2.1, fun p hp => hof p (.tail _ hp)⟩) ⟨rfl, IsI.of rfl rfl, fun hi' => IsI.of rfl (htb hi'), IsB.of rfl ?nh, bl, _, _, rfl, hlt, ?bs, rfl⟩
      case nh => rw [hlow, ixD (i := i), hb3]
      case bs => rw [htake]; refine e7.append (BsAre.one ?_); rw [hhigh]; congr 1; unfold sib; rw [if_pos hb, hb3]
  case done =>
    rintro m₁ nx h1 tk1 ⟨e1, ⟨tp, e2⟩, e3, ⟨nh, tn, e4, e5⟩, bl, bvs, nb, e6, hlt, e7, rfl⟩ F1 N1
    rw [see_all [(Str.ofString "self", .ref t), (Str.ofString "node_hash", .bytes nh tn), (Str.ofString "branch", .ref bl)]
      (List.forall_mem_cons.mpr ⟨e1, List.forall_mem_cons.mpr ⟨e4, List.forall_mem_cons.mpr ⟨e6, List.forall_mem_nil _⟩⟩⟩)] at F1
    obtain ⟨lv, tl, hv, hlv⟩ := D.at_leaf hz (a := u.toNat) u.toNat_lt
    rw [show 8 - 8 = 0 by omega, Nat.pow_zero, Nat.div_one] at e5
    rw [← e5] at hv
    have hbl : bvs.length = 8 := by rw [e7.length, List.length_take, beside_length]; omega
    have l1 := hlt
    k_lt l1
    clear lF lN
    (repeat' (first | (k_unfold; (try dsimp only)) | (k_end; wrow_close) | ((with_reducible show wpAny _ _ (binaryOp Operator.LShift (Value.int _ _) (Value.int _ _)) _ _ _); k_here; (refine Mine.shl1 (by omega) (by omega) ?_); intro _ _) | ((with_reducible show wpAny _ _ (call (Value.builtin "list.append") [Value.ref _, _]) _ _ _); k_here; k_dflt (refine' Mine.append_L ?k1 ?k2 ?k3 ?_ ?z; (case k1 => k_asm); (case k2 => k_asm); (case k3 => k_upd); (case z => first | omega | (simp; done) | (simp; omega)); k_whole); intro _ _ _; (try k_sweep)) | ((with_reducible show wpAny _ _ (call (Value.type "tuple") [Value.ref _]) _ _ _); k_here; (refine' Mine.tuple_L ?F ?N ?l ?z ?_; (case F => k_asm); (case N => k_asm); (case l => k_dflt k_mem); (case z => omega)); intro _ _ _ _ l9'; (try k_lt l9'); (try k_sweep)) | ((with_reducible show wpAny _ _ (compareOp CmpOp.NotEq (Value.int _ _) (Value.int _ _)) _ _ _); k_here; (rename Mine.Mark => stopMark); (refine Mine.ne_int_same (by first | omega | k_dflt rfl) ?_)) | ((with_reducible show wpAny _ _ (getMethod (Value.type "int") _ _) _ _ _); k_here; (refine KFB.getm (by k_asm) (by k_asm) (by k_asm) (by k_is) ?_); intro _ _ _ _ l9'; (try k_lt l9'); (try k_sweep)) | ((with_reducible show wpAny _ _ (pyIter (Value.ref _)) _ _ _); k_here; (rename Mine.Mark => stopMark); refine Mine.stop_at ?_) | ((with_reducible show wpAny _ _ (subscriptTail _ (Expr.Slice _ _ none _) (Value.bytes _ _) (Value.ref _)) _ _ _); k_here; (with_reducible rename Fr _ _ _ _ => F9'); (with_reducible rename News _ _ _ _ => N9'); (refine KBc.slice_K (s := ⟨_, _, _, _, _⟩) F9' N9' rfl (by constructor) (by constructor) (by rw [KBw.ints_length]; omega) ?_); intro _ _ _ _ _ _) | ((with_reducible show wpAny _ _ (subscriptTail _ _ (Value.ref _) (Value.bytes _ _)) _ _ _); k_here; k_dflt (refine kda_item (knd := PySem.W.bytesKind _ _) (by k_asm) (by (first | k_mem | walk_at "mine tail")) (by k_asm) (Mine.bytes_is _ _ _ _) (by first | assumption | exact Mine.valueAt_self) ?_)) | walk1 | (dsimp only; walk1) | (leave1; walk_say "STEP leave1"; try dsimp only)))
    exact ret _ _ _ _ _ _ _ (by assumption) (by (first | assumption | exact cb_drop (by assumption) (by walk_at "mine sub"))) hlv (by rw [List.take_of_length_le (by rw [beside_length]; exact Nat.le_refl _)] at e7; exact e7)
end Mine
namespace Mine
set_option maxHeartbeats 2000000 in
theorem c_calc (w : World) {gd : Option (List Code)} {cn : Str} {cs : Scope} {a : Addr} {ccd : Value} {cl : List (Str × Addr)} {outer : List Env} {A₀ : Around} {base h₀ : Heap} {L : Addr} {m mg mb : Str → Option Value}
    {p : Program} {loose : List Str} {mean : ExcName → Option Value} {s : Shared} {R : Result → Shared → Prop} {rest : List (Addr × Obj)} {r f bt : Addr} {od : Obj} {kvs : List (By × Value)} {reg : List By} {u : UInt8} {tk tv : Tok} {vb : Array UInt8} {bvs : List Value} {bs : List By}
    (B : Below A₀ base outer h₀) (F : Fr h₀ L s.heap m) (X : (Mine.z.heap_1_39 w.params).In h₀) (T : Top p loose mean mg mb h₀) (hk : cs.kind = .function) (N : News h₀ L s.heap ((bt, tupOf bvs) :: (r, od) :: rest)) (hoff : ∀ p ∈ rest, p.1 ≠ r) (hlo : (r == sysModules) = false) (H : HashAt rest f r)
    (hd : od.IsDictOf (bytesKind PySem.Challenge.rw_iu0037_01.row.prog w) kvs) (hr : RegIs kvs reg) (hz : reg.length ≤ 1000000) (hb : BsAre bvs bs) (hb8 : bs.length = 8) (hbz : ∀ b ∈ bs, b.length ≤ 1000)
    (ret : ∀ (rb : Array UInt8) (t : Tok) od' kvs' reg' hs h' tk', Fr h₀ L h' m → News h₀ L h' ((bt, tupOf bvs) :: (r, od') :: rest) → od'.IsDictOf (bytesKind PySem.Challenge.rw_iu0037_01.row.prog w) kvs' → RegIs kvs' reg' → reg <+: reg' → reg'.length ≤ reg.length + 9 →
      Way reg' u.toNat vb.toList bs 9 hs → rb.toList = hs 8 → R (.ok (.ret (.bytes rb t))) { s with heap := h', toks := tk' }) :
    codeAny (model PySem.Challenge.rw_iu0037_01.row.prog w) (ctop 800 8000 gd cn cs L a ccd cl outer) (.call (.ref 55) ⟨[.bytes #[u] tk, .bytes vb tv, .ref bt, .ref f], []⟩) R s := by
  revert X; k_fill; w_top off; intro X
  have mk9 := Mark.mk
  have hbl : bvs.length = 8 := by rw [hb.length, hb8]
  k_dflt cell_enter
  (repeat' (first | (k_unfold; (try dsimp only)) | (k_end; wrow_close) | ((with_reducible show FnAt _ _); k_here; (rename Mine.HashAt _ _ _ => hHash9); k_dflt (exact Mine.HashAt.fnAt hHash9 (by k_asm) (by walk_at "mine sub"))) | ((with_reducible show wpAny _ _ (binaryOp Operator.Add (Value.bytes _ _) (Value.bytes _ _)) _ _ _); k_here; (refine Mine.cat_bytes (by omega) ?_); intro _ _ _ _) | ((with_reducible show wpAny _ _ (call (Value.builtin "len") [Value.ref _]) _ _ _); k_here; k_dflt (refine Mine.len_tup (by k_asm) (by k_mem) (by first | omega | (simp; omega)) ?_; intro _ _)) | ((with_reducible show wpAny _ _ (call (Value.ref _) [Value.bytes _ _]) _ _ _); k_here; (rename Mine.HashAt _ _ _ => hHash9); k_dflt (refine' Mine.hashU ?B ?F ?X ?N ?T ?fr ?h1 ?h2 ?h3 ?hk hHash9 ?off ?lo ?U ?sub ?d ?r ?z ?_; (case F => k_asm); (case B => k_asm); (case X => k_asm); (case N => k_asm); (case T => k_asm); (case fr => exact rfl); (case h1 => exact rfl); (case h2 => (first | exact Nat.le_of_ble_eq_true rfl | ((simp only [depth_under_make, depth_in1, depth_deeper, units_under_make, units_in1, units_deeper]); exact Nat.le_of_ble_eq_true rfl))); (case h3 => (first | exact Nat.le_of_ble_eq_true rfl | ((simp only [depth_under_make, depth_in1, depth_deeper, units_under_make, units_in1, units_deeper]); exact Nat.le_of_ble_eq_true rfl))); (case hk => exact rfl); (case off => assumption); (case lo => k_asm); (case U => k_updF); (case sub => walk_at "mine sub"); (case d => k_asm); (case r => k_asm); (case z => omega)); intro _ _ _ _ _ _ _ _ N9' _ _ _ _ h9'; (have _ := Mine.Hs.size h9'); (try dsimp only at N9'); (try k_sweep)) | ((with_reducible show wpAny _ _ (call (Value.type "reversed") [Value.ref _]) _ _ _); k_here; k_dflt (refine' Mine.reversed_tup ?F ?N ?l ?z ?_; (case F => k_asm); (case N => k_asm); (case l => k_mem); (case z => first | omega | (simp; omega))); intro _ _ _ _ _ l9'; (try k_lt l9'); (try k_sweep)) | ((with_reducible show wpAny _ _ (callWith _ (Value.ref _) _ _ _) _ _ _); k_here; (rename Mine.HashAt _ _ _ => hHash9); k_dflt (refine' callWith_F ?k1 ?_; (case k1 => exact Mine.HashAt.fnAt hHash9 (by k_asm) (by walk_at "mine sub")); k_whole)) | ((with_reducible show wpAny _ _ (getMethod (Value.type "int") _ _) _ _ _); k_here; (refine KFB.getm (by k_asm) (by k_asm) (by k_asm) (by k_is) ?_); intro _ _ _ _ l9'; (try k_lt l9'); (try k_sweep)) | ((with_reducible show wpAny _ _ (inplaceOp Operator.LShift (Value.int _ _) (Value.int _ _)) _ _ _); k_here; (refine Mine.ilsh (by omega) (by omega) ?_); intro _ _) | ((with_reducible show wpAny _ _ (pyIter (Value.ref _)) _ _ _); k_here; (rename Mine.Mark => stopMark); refine Mine.stop_at ?_) | walk1 | (dsimp only; walk1) | (leave1; walk_say "STEP leave1"; try dsimp only)))
  unfold Stop
  (rename Fr _ _ _ _ => lF); (rename News _ _ _ _ => lN); (rename RegIs _ _ => hr1); (rename Obj.IsDictOf _ _ _ => hd1); (rename Hs _ _ _ => hh1); (rename List.IsPrefix _ _ => hp1); (rename List.length _ ≤ List.length _ + 1 => hl1)
  refine' loop_rev (l := bt) (vs := bvs) (fun i m₁ nx => IsR m₁ (Str.ofString "hash_of") f ∧ IsI m₁ (Str.ofString "path") (u.toNat : Int) ∧ IsI m₁ (Str.ofString "target_bit") ((2 ^ i : Nat) : Int) ∧ ∃ hs od' kvs' reg', IsB m₁ (Str.ofString "node_hash") (hs i) ∧ Way reg' u.toNat vb.toList bs (i + 1) hs ∧
      od'.IsDictOf (bytesKind PySem.Challenge.rw_iu0037_01.row.prog w) kvs' ∧ RegIs kvs' reg' ∧ reg <+: reg' ∧ reg'.length ≤ reg.length + (i + 1) ∧ nx = (bt, tupOf bvs) :: (r, od') :: rest) rfl lF (cb_drop lN ?sub) (by omega) ?hof ?hm ?j0 ?turn ?done
  case j0 => exact ⟨rfl, IsI.of rfl (by omega), IsI.of rfl (by decide), put (fun _ => []) 0 _, _, _, _, IsB.of rfl put_self.symm, (Way.zero (u := u.toNat) (v := vb.toList) (bs := bs) (hs := fun _ => [])).snoc hh1, hd1, hr1, hp1, hl1, rfl⟩
  case sub => walk_at "mine sub"
  case hof => k_all
  case hm =>
    rintro i m₁ nx ⟨_, _, _, _, _, _, _, _, _, _, _, _, _, rfl⟩
    exact .head _
  case turn =>
    rintro i v m₁ nx it h1 tk1 hi hv ⟨e1, ⟨tp, e2⟩, ⟨tb, e3⟩, hs, od', kvs', reg', ⟨nh, tn, e4, e5⟩, hw, hd2, hr2, hp2, hl2, rfl⟩ hof F1 N1
    obtain ⟨sa, ts, rfl, hsb⟩ := hb.get hv
    rw [hbl] at hsb
    have l2 := gnNe_of hof
    simp only [GnNe] at l2
    rw [see_all [(Str.ofString "hash_of", .ref f), (Str.ofString "path", .int (u.toNat : Int) tp), (Str.ofString "target_bit", .int ((2 ^ i : Nat) : Int) tb), (Str.ofString "node_hash", .bytes nh tn)]
      (List.forall_mem_cons.mpr ⟨e1, List.forall_mem_cons.mpr ⟨e2, List.forall_mem_cons.mpr ⟨e3, List.forall_mem_cons.mpr ⟨e4, List.forall_mem_nil _⟩⟩⟩⟩)] at F1
    clear lF lN hr hd hr1 hd1 hh1 hp1 hl1
    have hz1 : nh.size = 32 := by
      have e := (hw i (by omega)).len
      rw [← e5, Array.length_toList] at e
      exact e
    have hz2 : sa.size ≤ 1000 := by
      have e := hbz _ (List.mem_of_getElem? hsb)
      rw [Array.length_toList] at e
      exact e
    have hp3 := pow_small (i := i) (by omega)
    (repeat' (first | (k_unfold; (try dsimp only)) | (k_end; wrow_close) | ((with_reducible show FnAt _ _); k_here; (rename Mine.HashAt _ _ _ => hHash9); k_dflt (exact Mine.HashAt.fnAt hHash9 (by k_asm) (by walk_at "mine sub"))) | ((with_reducible show wpAny _ _ (binaryOp Operator.Add (Value.bytes _ _) (Value.bytes _ _)) _ _ _); k_here; (refine Mine.cat_bytes (by omega) ?_); intro _ _ _ _) | ((with_reducible show wpAny _ _ (call (Value.builtin "len") [Value.ref _]) _ _ _); k_here; k_dflt (refine Mine.len_tup (by k_asm) (by k_mem) (by first | omega | (simp; omega)) ?_; intro _ _)) | ((with_reducible show wpAny _ _ (call (Value.ref _) [Value.bytes _ _]) _ _ _); k_here; (rename Mine.HashAt _ _ _ => hHash9); k_dflt (refine' Mine.hashU ?B ?F ?X ?N ?T ?fr ?h1 ?h2 ?h3 ?hk hHash9 ?off ?lo ?U ?sub ?d ?r ?z ?_; (case F => k_asm); (case B => k_asm); (case X => k_asm); (case N => k_asm); (case T => k_asm); (case fr => exact rfl); (case h1 => exact rfl); (case h2 => (first | exact Nat.le_of_ble_eq_true rfl | ((simp only [depth_under_make, depth_in1, depth_deeper, units_under_make, units_in1, units_deeper]); exact Nat.le_of_ble_eq_true rfl))); (case h3 => (first | exact Nat.le_of_ble_eq_true rfl | ((simp only [depth_under_make, depth_in1, depth_deeper, units_under_make, units_in1, units_deeper]); exact Nat.le_of_ble_eq_true rfl))); (case hk => exact rfl); (case off => assumption); (case lo => k_asm); (case U => k_updF); (case sub => walk_at "mine sub"); (case d => k_asm); (case r => k_asm); (case z => omega)); intro _ _ _ _ _ _ _ _ N9' _ _ _ _ h9'; (have _ := Mine.Hs.size h9'); (try dsimp only at N9'); (try k_sweep)) | ((with_reducible show wpAny _ _ (call (Value.type "reversed") [Value.ref _]) _ _ _); k_here; k_dflt (refine' Mine.reversed_tup ?F ?N ?l ?z ?_; (case F => k_asm); (case N => k_asm); (case l => k_mem); (case z => first | omega | (simp; omega))); intro _ _ _ _ _ l9'; (try k_lt l9'); (try k_sweep)) | ((with_reducible show wpAny _ _ (callWith _ (Value.ref _) _ _ _) _ _ _); k_here; (rename Mine.HashAt _ _ _ => hHash9); k_dflt (refine' callWith_F ?k1 ?_; (case k1 => exact Mine.HashAt.fnAt hHash9 (by k_asm) (by walk_at "mine sub")); k_whole)) | ((with_reducible show wpAny _ _ (getMethod (Value.type "int") _ _) _ _ _); k_here; (refine KFB.getm (by k_asm) (by k_asm) (by k_asm) (by k_is) ?_); intro _ _ _ _ l9'; (try k_lt l9'); (try k_sweep)) | ((with_reducible show wpAny _ _ (inplaceOp Operator.LShift (Value.int _ _) (Value.int _ _)) _ _ _); k_here; (refine Mine.ilsh (by omega) (by omega) ?_); intro _ _) | ((with_reducible show wpAny _ _ (pyIter (Value.ref _)) _ _ _); k_here; (rename Mine.Mark => stopMark); refine Mine.stop_at ?_) | walk1 | (dsimp only; walk1) | (leave1; walk_say "STEP leave1"; try dsimp only)))
    · (rename _ ≠ _ => hbit)
      have hq := bit_one hbit
      (rename Fr _ _ _ _ => lF); (rename News _ _ _ _ => lN); (rename RegIs _ _ => hr1); (rename Obj.IsDictOf _ _ _ => hd1); (rename Hs _ _ _ => hh1); (rename List.IsPrefix _ _ => hp1); (rename List.length _ ≤ List.length _ + 1 => hl1); (rename Array.toList _ = _ ++ _ => hcat)
      obtain ⟨od1, hod1, hd1⟩ := nameOd hd1
      subst hod1
      refine UnrEnd.intro lF lN ((bt, tupOf bvs) :: (r, od1) :: rest) (by walk_at "mine sub") (List.forall_mem_cons.mpr ⟨l2.1, List.forall_mem_cons.mpr ⟨l2.2.1, fun p hp => hof p (.tail _ (.tail _ hp))⟩⟩) ⟨rfl, IsI.of rfl rfl, IsI.of rfl (shl_one i), put hs (i + 1) _, _, _, _, IsB.of rfl put_self.symm, (hw.mono hp1).snoc ?w, hd1, hr1, hp2.trans hp1, by omega, rfl⟩
      case w => rw [Tn_one hq (s := sa.toList) (by rw [← hsb]), ← e5, ← hcat]; exact hh1
    · (rename _ = (0 : Int) => hbit)
      have hq := bit_zero hbit
      (rename Fr _ _ _ _ => lF); (rename News _ _ _ _ => lN); (rename RegIs _ _ => hr1); (rename Obj.IsDictOf _ _ _ => hd1); (rename Hs _ _ _ => hh1); (rename List.IsPrefix _ _ => hp1); (rename List.length _ ≤ List.length _ + 1 => hl1); (rename Array.toList _ = _ ++ _ => hcat)
      obtain ⟨od1, hod1, hd1⟩ := nameOd hd1
      subst hod1
      refine UnrEnd.intro lF lN ((bt, tupOf bvs) :: (r, od1) :: rest) (by walk_at "mine sub") (List.forall_mem_cons.mpr ⟨l2.1, List.forall_mem_cons.mpr ⟨l2.2.1, fun p hp => hof p (.tail _ (.tail _ hp))⟩⟩) ⟨rfl, IsI.of rfl rfl, IsI.of rfl (shl_one i), put hs (i + 1) _, _, _, _, IsB.of rfl put_self.symm, (hw.mono hp1).snoc ?w, hd1, hr1, hp2.trans hp1, by omega, rfl⟩
      case w => rw [Tn_zero hq (s := sa.toList) (by rw [← hsb]), ← e5, ← hcat]; exact hh1
  case done =>
    rintro m₁ nx h1 tk1 ⟨e1, ⟨tp, e2⟩, ⟨tb, e3⟩, hs, od', kvs', reg', ⟨nh, tn, e4, e5⟩, hw, hd2, hr2, hp2, hl2, rfl⟩ F1 N1
    rw [see_all [(Str.ofString "node_hash", .bytes nh tn)]
      (List.forall_mem_cons.mpr ⟨e4, List.forall_mem_nil _⟩)] at F1
    clear lF lN hr hd hr1 hd1 hh1 hp1 hl1
    (repeat' (first | (k_unfold; (try dsimp only)) | (k_end; wrow_close) | ((with_reducible show FnAt _ _); k_here; (rename Mine.HashAt _ _ _ => hHash9); k_dflt (exact Mine.HashAt.fnAt hHash9 (by k_asm) (by walk_at "mine sub"))) | ((with_reducible show wpAny _ _ (binaryOp Operator.Add (Value.bytes _ _) (Value.bytes _ _)) _ _ _); k_here; (refine Mine.cat_bytes (by omega) ?_); intro _ _ _ _) | ((with_reducible show wpAny _ _ (call (Value.builtin "len") [Value.ref _]) _ _ _); k_here; k_dflt (refine Mine.len_tup (by k_asm) (by k_mem) (by first | omega | (simp; omega)) ?_; intro _ _)) | ((with_reducible show wpAny _ _ (call (Value.ref _) [Value.bytes _ _]) _ _ _); k_here; (rename Mine.HashAt _ _ _ => hHash9); k_dflt (refine' Mine.hashU ?B ?F ?X ?N ?T ?fr ?h1 ?h2 ?h3 ?hk hHash9 ?off ?lo ?U ?sub ?d ?r ?z ?_; (case F => k_asm); (case B => k_asm); (case X => k_asm); (case N => k_asm); (case T => k_asm); (case fr => exact rfl); (case h1 => exact rfl); (case h2 => (first | exact Nat.le_of_ble_eq_true rfl | ((simp only [depth_under_make, depth_in1, depth_deeper, units_under_make, units_in1, units_deeper]); exact Nat.le_of_ble_eq_true rfl))); (case h3 => (first | exact Nat.le_of_ble_eq_true rfl | ((simp only [depth_under_make, depth_in1, depth_deeper, units_under_make, units_in1, units_deeper]); exact Nat.le_of_ble_eq_true rfl))); (case hk => exact rfl); (case off => assumption); (case lo => k_asm); (case U => k_updF); (case sub => walk_at "mine sub"); (case d => k_asm); (case r => k_asm); (case z => omega)); intro _ _ _ _ _ _ _ _ N9' _ _ _ _ h9'; (have _ := Mine.Hs.size h9'); (try dsimp only at N9'); (try k_sweep)) | ((with_reducible show wpAny _ _ (call (Value.type "reversed") [Value.ref _]) _ _ _); k_here; k_dflt (refine' Mine.reversed_tup ?F ?N ?l ?z ?_; (case F => k_asm); (case N => k_asm); (case l => k_mem); (case z => first | omega | (simp; omega))); intro _ _ _ _ _ l9'; (try k_lt l9'); (try k_sweep)) | ((with_reducible show wpAny _ _ (callWith _ (Value.ref _) _ _ _) _ _ _); k_here; (rename Mine.HashAt _ _ _ => hHash9); k_dflt (refine' callWith_F ?k1 ?_; (case k1 => exact Mine.HashAt.fnAt hHash9 (by k_asm) (by walk_at "mine sub")); k_whole)) | ((with_reducible show wpAny _ _ (getMethod (Value.type "int") _ _) _ _ _); k_here; (refine KFB.getm (by k_asm) (by k_asm) (by k_asm) (by k_is) ?_); intro _ _ _ _ l9'; (try k_lt l9'); (try k_sweep)) | ((with_reducible show wpAny _ _ (inplaceOp Operator.LShift (Value.int _ _) (Value.int _ _)) _ _ _); k_here; (refine Mine.ilsh (by omega) (by omega) ?_); intro _ _) | ((with_reducible show wpAny _ _ (pyIter (Value.ref _)) _ _ _); k_here; (rename Mine.Mark => stopMark); refine Mine.stop_at ?_) | walk1 | (dsimp only; walk1) | (leave1; walk_say "STEP leave1"; try dsimp only)))
    rw [hbl] at *
    exact ret _ _ _ _ _ _ _ _ (by assumption) (by (first | assumption | exact cb_drop (by assumption) (by walk_at "mine sub"))) hd2 hr2 hp2 hl2 hw e5
end Mine
namespace Mine
/-- the loop of set -/
inductive SetJ (w : World) (t td db r f bt : Addr) (x : TD) (dflt : Value) (root : Array UInt8) (tr : Tok) (od odb : Obj) (kvd : List (By × Value)) (reg : List By) (u : Nat) (v : By) (bs : List By) (bvs : List Value) (rest : List (Addr × Obj)) (i : Nat) (m : Str → Option Value) (nx : List (Addr × Obj)) : Prop where
  | mk (tp tb : Tok) (hs : Nat → By) (od' : Obj) (kvs' : List (By × Value)) (reg' : List By) (odb' : Obj) (kvd' : List (By × Value)) (pl : Addr) (pvs : List Value) (np : Nat) (nh : Array UInt8) (tn : Tok)
    (e0 : m (Str.ofString "self") = some (.ref t)) (e1 : m (Str.ofString "hash_of") = some (.ref f)) (e2 : m (Str.ofString "path") = some (.int (u : Int) tp)) (e3 : m (Str.ofString "target_bit") = some (.int ((2 ^ i : Nat) : Int) tb))
    (e4 : m (Str.ofString "node") = some (.bytes nh tn)) (e5 : nh.toList = Tn u v bs hs i) (e6 : m (Str.ofString "proof_update") = some (.ref pl))
    (hlt : ∀ p ∈ ((bt, tupOf bvs) :: (t, instObj 214 td) :: (td, tdOf x dflt f db (.bytes root tr)) :: (db, odb) :: (r, od) :: rest : List (Addr × Obj)), p.1 < pl) (hw : Way reg' u v bs i hs)
    (hd : od'.IsDictOf (bytesKind PySem.Challenge.rw_iu0037_01.row.prog w) kvs') (hr : RegIs kvs' reg') (hp : reg <+: reg') (hl : reg'.length ≤ reg.length + i)
    (hdb : odb'.IsDictOf (bytesKind PySem.Challenge.rw_iu0037_01.row.prog w) kvd') (hld : kvd'.length ≤ kvd.length + i) (am : Amid reg' kvd kvd' i hs) (hpv : BsAre pvs ((List.range i).map hs))
    (hnx : nx = (pl, W.listOf pvs.toArray np) :: (bt, tupOf bvs) :: (t, instObj 214 td) :: (td, tdOf x dflt f db (.bytes root tr)) :: (db, odb') :: (r, od') :: rest) : SetJ w t td db r f bt x dflt root tr od odb kvd reg u v bs bvs rest i m nx
set_option maxHeartbeats 2000000 in
theorem c_set (w : World) {gd : Option (List Code)} {cn : Str} {cs : Scope} {a : Addr} {ccd : Value} {cl : List (Str × Addr)} {outer : List Env} {A₀ : Around} {base h₀ : Heap} {L : Addr} {m mg mb : Str → Option Value}
    {p : Program} {loose : List Str} {mean : ExcName → Option Value} {s : Shared} {R : Result → Shared → Prop} {rest : List (Addr × Obj)} {t td db r f : Addr} {x : TD} {dflt : Value} {root : Array UInt8} {tr : Tok} {od odb : Obj} {kvs kvd : List (By × Value)} {reg : List By} {val : Nat → By} {nd : Nat → Nat → By} {u : UInt8} {tk tv : Tok} {vb : Array UInt8}
    (B : Below A₀ base outer h₀) (F : Fr h₀ L s.heap m) (X : (Mine.z.heap_1_39 w.params).In h₀) (T : Top p loose mean mg mb h₀) (hk : cs.kind = .function) (N : News h₀ L s.heap ((t, instObj 214 td) :: (td, tdOf x dflt f db (.bytes root tr)) :: (db, odb) :: (r, od) :: rest)) (ap : Apart td db r rest) (H : HashAt rest f r)
    (hd : od.IsDictOf (bytesKind PySem.Challenge.rw_iu0037_01.row.prog w) kvs) (hr : RegIs kvs reg) (hz : reg.length ≤ 1000000)
    (hdb : odb.IsDictOf (bytesKind PySem.Challenge.rw_iu0037_01.row.prog w) kvd) (hzd : kvd.length ≤ 1000000) (D : DbOk reg kvd val nd) (hroot : root.toList = nd 8 0)
    (ret : ∀ (X : Addr) (avs : List Value) (root' : Array UInt8) tr' od' odb' kvs' kvd' reg' hs h' tk', Fr h₀ L h' m →
      News h₀ L h' ((X, tupOf avs) :: (t, instObj 214 td) :: (td, tdOf x dflt f db (.bytes root' tr')) :: (db, odb') :: (r, od') :: rest) →
      od'.IsDictOf (bytesKind PySem.Challenge.rw_iu0037_01.row.prog w) kvs' → RegIs kvs' reg' → reg <+: reg' → reg'.length ≤ reg.length + 9 →
      odb'.IsDictOf (bytesKind PySem.Challenge.rw_iu0037_01.row.prog w) kvd' → kvd'.length ≤ kvd.length + 9 → DbOk reg' kvd' (put val u.toNat vb.toList) (setNd nd u.toNat hs) → root'.toList = setNd nd u.toNat hs 8 0 → BsAre avs (along (setNd nd u.toNat hs) u.toNat) →
      R (.ok (.ret (.ref X))) { s with heap := h', toks := tk' }) :
    codeAny (model PySem.Challenge.rw_iu0037_01.row.prog w) (ctop 800 8000 gd cn cs L a ccd cl outer) (.call (.ref 169) ⟨[.ref t, .bytes #[u] tk, .bytes vb tv], []⟩) R s := by
  obtain ⟨a1, a2, a3, b1, b2, b3, c1⟩ := ap
  revert X; k_fill; w_top off; intro X
  have mk9 := Mark.mk
  k_dflt cell_enter
  (repeat' (first | (k_unfold; (try dsimp only)) | (k_end; wrow_close) | ((with_reducible show FnAt _ _); k_here; (rename Mine.HashAt _ _ _ => hHash9); k_dflt (exact Mine.HashAt.fnAt hHash9 (by k_asm) (by walk_at "mine sub"))) | ((with_reducible show wpAny _ _ (binaryOp Operator.Add (Value.bytes _ _) (Value.bytes _ _)) _ _ _); k_here; (refine Mine.cat_bytes (by omega) ?_); intro _ _ _ _) | ((with_reducible show wpAny _ _ (call (Value.builtin "list.append") [Value.ref _, _]) _ _ _); k_here; k_dflt (refine' Mine.append_L ?k1 ?k2 ?k3 ?_ ?z; (case k1 => k_asm); (case k2 => k_asm); (case k3 => k_upd); (case z => first | omega | (simp; done) | (simp; omega)); k_whole); intro _ _ _; (try k_sweep)) | ((with_reducible show wpAny _ _ (call (Value.ref _) [Value.bytes _ _]) _ _ _); k_here; (rename Mine.HashAt _ _ _ => hHash9); k_dflt (refine' Mine.hashU ?B ?F ?X ?N ?T ?fr ?h1 ?h2 ?h3 ?hk hHash9 ?off ?lo ?U ?sub ?d ?r ?z ?_; (case F => k_asm); (case B => k_asm); (case X => k_asm); (case N => k_asm); (case T => k_asm); (case fr => exact rfl); (case h1 => exact rfl); (case h2 => (first | exact Nat.le_of_ble_eq_true rfl | ((simp only [depth_under_make, depth_in1, depth_deeper, units_under_make, units_in1, units_deeper]); exact Nat.le_of_ble_eq_true rfl))); (case h3 => (first | exact Nat.le_of_ble_eq_true rfl | ((simp only [depth_under_make, depth_in1, depth_deeper, units_under_make, units_in1, units_deeper]); exact Nat.le_of_ble_eq_true rfl))); (case hk => exact rfl); (case off => assumption); (case lo => k_asm); (case U => k_updF); (case sub => walk_at "mine sub"); (case d => k_asm); (case r => k_asm); (case z => omega)); intro _ _ _ _ _ _ _ _ N9' _ _ _ _ h9'; (have _ := Mine.Hs.size h9'); (try dsimp only at N9'); (try k_sweep)) | ((with_reducible show wpAny _ _ (call (Value.ref _) _) _ _ _); k_here; (rename Mine.Mark => stopMark); (first | refine Mine.stop_call (by decide) ?_ | ((rename Mine.MarkU => stopMarkU); refine Mine.stop_callU (by decide) ?_))) | ((with_reducible show wpAny _ _ (call (Value.type "reversed") [Value.ref _]) _ _ _); k_here; k_dflt (refine' Mine.reversed_tup ?F ?N ?l ?z ?_; (case F => k_asm); (case N => k_asm); (case l => k_mem); (case z => first | omega | (simp; omega))); intro _ _ _ _ _ l9'; (try k_lt l9'); (try k_sweep)) | ((with_reducible show wpAny _ _ (call (Value.type "tuple") [Value.ref _]) _ _ _); k_here; k_dflt (refine' Mine.tuple_rev ?F ?N ?h ?l ?o ?z ?_; (case F => k_asm); (case N => k_asm); (case h => exact rfl); (case l => k_mem); (case o => k_all); (case z => omega)); intro _ _ _ _ _ l9'; (try k_lt l9'); (try k_sweep)) | ((with_reducible show wpAny _ _ (callWith _ (Value.ref _) _ _ _) _ _ _); k_here; (rename Mine.HashAt _ _ _ => hHash9); k_dflt (refine' callWith_F ?k1 ?_; (case k1 => exact Mine.HashAt.fnAt hHash9 (by k_asm) (by walk_at "mine sub")); k_whole)) | ((with_reducible show wpAny _ _ (compareOp CmpOp.NotEq (Value.int _ _) (Value.int _ _)) _ _ _); k_here; (rename Mine.Mark => stopMark); (refine Mine.ne_int_same (by first | omega | k_dflt rfl) ?_)) | ((with_reducible show wpAny _ _ (getMethod (Value.type "int") _ _) _ _ _); k_here; (refine KFB.getm (by k_asm) (by k_asm) (by k_asm) (by k_is) ?_); intro _ _ _ _ l9'; (try k_lt l9'); (try k_sweep)) | ((with_reducible show wpAny _ _ (inplaceOp Operator.LShift (Value.int _ _) (Value.int _ _)) _ _ _); k_here; (refine Mine.ilsh (by omega) (by omega) ?_); intro _ _) | ((with_reducible show wpAny _ _ (pyIter (Value.ref _)) _ _ _); k_here; (rename Mine.Mark => stopMark); refine Mine.stop_at ?_) | ((with_reducible show wpAny _ _ (setItem (Value.ref _) (Value.bytes _ _) _) _ _ _); k_here; k_dflt (refine' kda_set (knd := PySem.W.bytesKind _ _) ?F ?N ?U ?d (Mine.bytes_is _ _ _ _) ?z ?_; (case F => k_asm); (case N => k_asm); (case U => k_updF); (case d => k_asm); (case z => rw [sizeLine_eq]; omega)); intro _ _ _ N9' _; (try dsimp only at N9')) | walk1 | (dsimp only; walk1) | (leave1; walk_say "STEP leave1"; try dsimp only)))
  unfold Stop
  refine' useC ?fr ?h1 ?h2 ?h3 (c_get w ?B ?F ?X ?T ?hk (cb_drop ?N ?sub) hdb D ?hz hroot ?ret)
  case F => k_asm
  case B => k_asm
  case X => k_asm
  case T => k_asm
  case N => k_asm
  case sub => walk_at "mine sub"
  case fr => exact rfl
  case h1 => exact rfl
  case h2 => exact Nat.le_of_ble_eq_true rfl
  case h3 => exact Nat.le_of_ble_eq_true rfl
  case hk => exact rfl
  case hz => omega
  case ret =>
    intro rt bt lv tl bvs h2 tk2 F2 N2 hlv hbv
    show wpAny _ _ _ _ _ _
    have hbl : bvs.length = 8 := by rw [hbv.length, beside_length]
    (repeat' (first | (k_unfold; (try dsimp only)) | (k_end; wrow_close) | ((with_reducible show FnAt _ _); k_here; (rename Mine.HashAt _ _ _ => hHash9); k_dflt (exact Mine.HashAt.fnAt hHash9 (by k_asm) (by walk_at "mine sub"))) | ((with_reducible show wpAny _ _ (binaryOp Operator.Add (Value.bytes _ _) (Value.bytes _ _)) _ _ _); k_here; (refine Mine.cat_bytes (by omega) ?_); intro _ _ _ _) | ((with_reducible show wpAny _ _ (call (Value.builtin "list.append") [Value.ref _, _]) _ _ _); k_here; k_dflt (refine' Mine.append_L ?k1 ?k2 ?k3 ?_ ?z; (case k1 => k_asm); (case k2 => k_asm); (case k3 => k_upd); (case z => first | omega | (simp; done) | (simp; omega)); k_whole); intro _ _ _; (try k_sweep)) | ((with_reducible show wpAny _ _ (call (Value.ref _) [Value.bytes _ _]) _ _ _); k_here; (rename Mine.HashAt _ _ _ => hHash9); k_dflt (refine' Mine.hashU ?B ?F ?X ?N ?T ?fr ?h1 ?h2 ?h3 ?hk hHash9 ?off ?lo ?U ?sub ?d ?r ?z ?_; (case F => k_asm); (case B => k_asm); (case X => k_asm); (case N => k_asm); (case T => k_asm); (case fr => exact rfl); (case h1 => exact rfl); (case h2 => (first | exact Nat.le_of_ble_eq_true rfl | ((simp only [depth_under_make, depth_in1, depth_deeper, units_under_make, units_in1, units_deeper]); exact Nat.le_of_ble_eq_true rfl))); (case h3 => (first | exact Nat.le_of_ble_eq_true rfl | ((simp only [depth_under_make, depth_in1, depth_deeper, units_under_make, units_in1, units_deeper]); exact Nat.le_of_ble_eq_true rfl))); (case hk => exact rfl); (case off => assumption); (case lo => k_asm); (case U => k_updF); (case sub => walk_at "mine sub"); (case d => k_asm); (case r => k_asm); (case z => omega)); intro _ _ _ _ _ _ _ _ N9' _ _ _ _ h9'; (have _ := Mine.Hs.size h9'); (try dsimp only at N9'); (try k_sweep)) | ((with_reducible show wpAny _ _ (call (Value.ref _) _) _ _ _); k_here; (rename Mine.Mark => stopMark); (first | refine Mine.stop_call (by decide) ?_ | ((rename Mine.MarkU => stopMarkU); refine Mine.stop_callU (by decide) ?_))) | ((with_reducible show wpAny _ _ (call (Value.type "reversed") [Value.ref _]) _ _ _); k_here; k_dflt (refine' Mine.reversed_tup ?F ?N ?l ?z ?_; (case F => k_asm); (case N => k_asm); (case l => k_mem); (case z => first | omega | (simp; omega))); intro _ _ _ _ _ l9'; (try k_lt l9'); (try k_sweep)) | ((with_reducible show wpAny _ _ (call (Value.type "tuple") [Value.ref _]) _ _ _); k_here; k_dflt (refine' Mine.tuple_rev ?F ?N ?h ?l ?o ?z ?_; (case F => k_asm); (case N => k_asm); (case h => exact rfl); (case l => k_mem); (case o => k_all); (case z => omega)); intro _ _ _ _ _ l9'; (try k_lt l9'); (try k_sweep)) | ((with_reducible show wpAny _ _ (callWith _ (Value.ref _) _ _ _) _ _ _); k_here; (rename Mine.HashAt _ _ _ => hHash9); k_dflt (refine' callWith_F ?k1 ?_; (case k1 => exact Mine.HashAt.fnAt hHash9 (by k_asm) (by walk_at "mine sub")); k_whole)) | ((with_reducible show wpAny _ _ (compareOp CmpOp.NotEq (Value.int _ _) (Value.int _ _)) _ _ _); k_here; (rename Mine.Mark => stopMark); (refine Mine.ne_int_same (by first | omega | k_dflt rfl) ?_)) | ((with_reducible show wpAny _ _ (getMethod (Value.type "int") _ _) _ _ _); k_here; (refine KFB.getm (by k_asm) (by k_asm) (by k_asm) (by k_is) ?_); intro _ _ _ _ l9'; (try k_lt l9'); (try k_sweep)) | ((with_reducible show wpAny _ _ (inplaceOp Operator.LShift (Value.int _ _) (Value.int _ _)) _ _ _); k_here; (refine Mine.ilsh (by omega) (by omega) ?_); intro _ _) | ((with_reducible show wpAny _ _ (pyIter (Value.ref _)) _ _ _); k_here; (rename Mine.Mark => stopMark); refine Mine.stop_at ?_) | ((with_reducible show wpAny _ _ (setItem (Value.ref _) (Value.bytes _ _) _) _ _ _); k_here; k_dflt (refine' kda_set (knd := PySem.W.bytesKind _ _) ?F ?N ?U ?d (Mine.bytes_is _ _ _ _) ?z ?_; (case F => k_asm); (case N => k_asm); (case U => k_updF); (case d => k_asm); (case z => rw [sizeLine_eq]; omega)); intro _ _ _ N9' _; (try dsimp only at N9')) | walk1 | (dsimp only; walk1) | (leave1; walk_say "STEP leave1"; try dsimp only)))
    unfold Stop
    have hu := u.toNat_lt
    have hbb := hbv
    generalize hbs : beside nd u.toNat = bs at hbb
    (rename Fr _ _ _ _ => lF); (rename News _ _ _ _ => lN)
    refine' loop_rev (l := bt) (vs := bvs) (SetJ w t td db r f bt x dflt root tr od odb kvd reg u.toNat vb.toList bs bvs rest) rfl lF (cb_drop lN ?sub) (by omega) ?hof ?hm ?j0 ?turn ?done
    case j0 => exact ⟨_, _, fun _ => [], od, kvs, reg, odb, kvd, _, [], 0, _, _, rfl, rfl, some_int rfl (by omega), some_int rfl (by decide), rfl, rfl, rfl, fun p hp => ‹∀ p ∈ (_ :: _ : List (Addr × Obj)), p.1 < _› p (.tail _ hp), Way.zero, hd, hr, List.prefix_refl _, by omega, hdb, by omega, Amid.zero D.sound, trivial, rfl⟩
    case sub => walk_at "mine sub"
    case hof => k_all
    case hm =>
      rintro i m₁ nx ⟨⟩
      subst_vars
      exact .tail _ (.head _)
    case turn =>
      rintro i v m₁ nx it h1 tk1 hi hv ⟨tp, tb, hs, od', kvs', reg', odb', kvd', pl, pvs, np, nh, tn, e0, e1, e2, e3, e4, e5, e6, hlt, hw, hd2, hr2, hp2, hl2, hdb2, hld2, am, hpv, rfl⟩ hof F1 N1
      obtain ⟨sa, ts, rfl, hsb⟩ := hbb.get hv
      rw [hbl] at hsb
      have hz2 : sa.size = 32 := beside_len D.nodes hu (i := i) (by omega) (by rw [hbs]; exact hsb)
      have l3 := gnNe_of hof
      simp only [GnNe] at l3
      have l4 : ∀ p ∈ rest, p.1 < pl := fun p hp => hlt p (.tail _ (.tail _ (.tail _ (.tail _ (.tail _ hp)))))
      have l5 : ∀ p ∈ rest, p.1 ≠ _ := fun p hp => hof p (.tail _ (.tail _ (.tail _ (.tail _ (.tail _ (.tail _ hp))))))
      have l2 := hlt
      k_lt l2
      rw [see_all [(Str.ofString "self", .ref t), (Str.ofString "hash_of", .ref f), (Str.ofString "path", .int (u.toNat : Int) tp), (Str.ofString "target_bit", .int ((2 ^ i : Nat) : Int) tb), (Str.ofString "node", .bytes nh tn), (Str.ofString "proof_update", .ref pl)]
        (List.forall_mem_cons.mpr ⟨e0, List.forall_mem_cons.mpr ⟨e1, List.forall_mem_cons.mpr ⟨e2, List.forall_mem_cons.mpr ⟨e3, List.forall_mem_cons.mpr ⟨e4, List.forall_mem_cons.mpr ⟨e6, List.forall_mem_nil _⟩⟩⟩⟩⟩⟩)] at F1
      clear lF lN hr hd hdb
      have hp3 := pow_small (i := i) (by omega)
      have hpl : pvs.length = i := by rw [hpv.length, List.length_map, List.length_range]
      (repeat' (first | (k_unfold; (try dsimp only)) | (k_end; wrow_close) | ((with_reducible show FnAt _ _); k_here; (rename Mine.HashAt _ _ _ => hHash9); k_dflt (exact Mine.HashAt.fnAt hHash9 (by k_asm) (by walk_at "mine sub"))) | ((with_reducible show wpAny _ _ (binaryOp Operator.Add (Value.bytes _ _) (Value.bytes _ _)) _ _ _); k_here; (refine Mine.cat_bytes (by omega) ?_); intro _ _ _ _) | ((with_reducible show wpAny _ _ (call (Value.builtin "list.append") [Value.ref _, _]) _ _ _); k_here; k_dflt (refine' Mine.append_L ?k1 ?k2 ?k3 ?_ ?z; (case k1 => k_asm); (case k2 => k_asm); (case k3 => k_upd); (case z => first | omega | (simp; done) | (simp; omega)); k_whole); intro _ _ _; (try k_sweep)) | ((with_reducible show wpAny _ _ (call (Value.ref _) [Value.bytes _ _]) _ _ _); k_here; (rename Mine.HashAt _ _ _ => hHash9); k_dflt (refine' Mine.hashU ?B ?F ?X ?N ?T ?fr ?h1 ?h2 ?h3 ?hk hHash9 ?off ?lo ?U ?sub ?d ?r ?z ?_; (case F => k_asm); (case B => k_asm); (case X => k_asm); (case N => k_asm); (case T => k_asm); (case fr => exact rfl); (case h1 => exact rfl); (case h2 => (first | exact Nat.le_of_ble_eq_true rfl | ((simp only [depth_under_make, depth_in1, depth_deeper, units_under_make, units_in1, units_deeper]); exact Nat.le_of_ble_eq_true rfl))); (case h3 => (first | exact Nat.le_of_ble_eq_true rfl | ((simp only [depth_under_make, depth_in1, depth_deeper, units_under_make, units_in1, units_deeper]); exact Nat.le_of_ble_eq_true rfl))); (case hk => exact rfl); (case off => assumption); (case lo => k_asm); (case U => k_updF); (case sub => walk_at "mine sub"); (case d => k_asm); (case r => k_asm); (case z => omega)); intro _ _ _ _ _ _ _ _ N9' _ _ _ _ h9'; (have _ := Mine.Hs.size h9'); (try dsimp only at N9'); (try k_sweep)) | ((with_reducible show wpAny _ _ (call (Value.ref _) _) _ _ _); k_here; (rename Mine.Mark => stopMark); (first | refine Mine.stop_call (by decide) ?_ | ((rename Mine.MarkU => stopMarkU); refine Mine.stop_callU (by decide) ?_))) | ((with_reducible show wpAny _ _ (call (Value.type "reversed") [Value.ref _]) _ _ _); k_here; k_dflt (refine' Mine.reversed_tup ?F ?N ?l ?z ?_; (case F => k_asm); (case N => k_asm); (case l => k_mem); (case z => first | omega | (simp; omega))); intro _ _ _ _ _ l9'; (try k_lt l9'); (try k_sweep)) | ((with_reducible show wpAny _ _ (call (Value.type "tuple") [Value.ref _]) _ _ _); k_here; k_dflt (refine' Mine.tuple_rev ?F ?N ?h ?l ?o ?z ?_; (case F => k_asm); (case N => k_asm); (case h => exact rfl); (case l => k_mem); (case o => k_all); (case z => omega)); intro _ _ _ _ _ l9'; (try k_lt l9'); (try k_sweep)) | ((with_reducible show wpAny _ _ (callWith _ (Value.ref _) _ _ _) _ _ _); k_here; (rename Mine.HashAt _ _ _ => hHash9); k_dflt (refine' callWith_F ?k1 ?_; (case k1 => exact Mine.HashAt.fnAt hHash9 (by k_asm) (by walk_at "mine sub")); k_whole)) | ((with_reducible show wpAny _ _ (compareOp CmpOp.NotEq (Value.int _ _) (Value.int _ _)) _ _ _); k_here; (rename Mine.Mark => stopMark); (refine Mine.ne_int_same (by first | omega | k_dflt rfl) ?_)) | ((with_reducible show wpAny _ _ (getMethod (Value.type "int") _ _) _ _ _); k_here; (refine KFB.getm (by k_asm) (by k_asm) (by k_asm) (by k_is) ?_); intro _ _ _ _ l9'; (try k_lt l9'); (try k_sweep)) | ((with_reducible show wpAny _ _ (inplaceOp Operator.LShift (Value.int _ _) (Value.int _ _)) _ _ _); k_here; (refine Mine.ilsh (by omega) (by omega) ?_); intro _ _) | ((with_reducible show wpAny _ _ (pyIter (Value.ref _)) _ _ _); k_here; (rename Mine.Mark => stopMark); refine Mine.stop_at ?_) | ((with_reducible show wpAny _ _ (setItem (Value.ref _) (Value.bytes _ _) _) _ _ _); k_here; k_dflt (refine' kda_set (knd := PySem.W.bytesKind _ _) ?F ?N ?U ?d (Mine.bytes_is _ _ _ _) ?z ?_; (case F => k_asm); (case N => k_asm); (case U => k_updF); (case d => k_asm); (case z => rw [sizeLine_eq]; omega)); intro _ _ _ N9' _; (try dsimp only at N9')) | walk1 | (dsimp only; walk1) | (leave1; walk_say "STEP leave1"; try dsimp only)))
      · (rename _ ≠ _ => hbit)
        have hq := bit_one hbit
        (rename Fr _ _ _ _ => lF); (rename News _ _ _ _ => lN); (rename RegIs _ _ => hr1); (rename Obj.IsDictOf _ _ (stored _ _ _) => hdbX); (rename Hs _ _ _ => hh1); (rename List.IsPrefix _ _ => hp1); (rename List.length _ ≤ List.length _ + 1 => hl1); (rename Array.toList _ = _ ++ _ => hcat)
        obtain ⟨odb1, hod, hdb1⟩ := nameOd hdbX
        clear hdbX
        subst hod
        revert hdb1
        (rename Obj.IsDictOf _ _ _ => hdX)
        obtain ⟨od1, hod, hd1⟩ := nameOd hdX
        clear hdX
        subst hod
        intro hdb1
        refine UnrEnd.intro lF lN ((pl, W.listOf (pvs ++ [_]).toArray (np + 1)) :: (bt, tupOf bvs) :: (t, instObj 214 td) :: (td, tdOf x dflt f db (.bytes root tr)) :: (db, odb1) :: (r, od1) :: rest) (by walk_at "mine sub")
          (by k_all) ⟨_, _, put hs i _, od1, _, _, odb1, _, pl, _, _, _, _, rfl, rfl, rfl, some_int rfl (shl_one i), rfl, ?g1, rfl, hlt, (hw.mono hp1).snoc ?g2, hd1, hr1, hp2.trans hp1, by omega, hdb1, Nat.le_trans (stored_length_le _ _ _) (by omega), am.step hp1 hh1, ?g3, rfl⟩
        case g1 => rw [Tn_one hq (s := sa.toList) (by rw [← hsb]), put_self]; exact hcat
        case g2 => rw [← e5]; exact hh1
        case g3 => rw [range_put]; exact hpv.append (BsAre.one rfl)
      · (rename _ = (0 : Int) => hbit)
        have hq := bit_zero hbit
        (rename Fr _ _ _ _ => lF); (rename News _ _ _ _ => lN); (rename RegIs _ _ => hr1); (rename Obj.IsDictOf _ _ (stored _ _ _) => hdbX); (rename Hs _ _ _ => hh1); (rename List.IsPrefix _ _ => hp1); (rename List.length _ ≤ List.length _ + 1 => hl1); (rename Array.toList _ = _ ++ _ => hcat)
        obtain ⟨odb1, hod, hdb1⟩ := nameOd hdbX
        clear hdbX
        subst hod
        revert hdb1
        (rename Obj.IsDictOf _ _ _ => hdX)
        obtain ⟨od1, hod, hd1⟩ := nameOd hdX
        clear hdX
        subst hod
        intro hdb1
        refine UnrEnd.intro lF lN ((pl, W.listOf (pvs ++ [_]).toArray (np + 1)) :: (bt, tupOf bvs) :: (t, instObj 214 td) :: (td, tdOf x dflt f db (.bytes root tr)) :: (db, odb1) :: (r, od1) :: rest) (by walk_at "mine sub")
          (by k_all) ⟨_, _, put hs i _, od1, _, _, odb1, _, pl, _, _, _, _, rfl, rfl, rfl, some_int rfl (shl_one i), rfl, ?g1, rfl, hlt, (hw.mono hp1).snoc ?g2, hd1, hr1, hp2.trans hp1, by omega, hdb1, Nat.le_trans (stored_length_le _ _ _) (by omega), am.step hp1 hh1, ?g3, rfl⟩
        case g1 => rw [Tn_zero hq (s := sa.toList) (by rw [← hsb]), put_self]; exact hcat
        case g2 => rw [← e5]; exact hh1
        case g3 => rw [range_put]; exact hpv.append (BsAre.one rfl)
    case done =>
      rintro m₁ nx h1 tk1 ⟨tp, tb, hs, od', kvs', reg', odb', kvd', pl, pvs, np, nh, tn, e0, e1, e2, e3, e4, e5, e6, hlt, hw, hd2, hr2, hp2, hl2, hdb2, hld2, am, hpv, rfl⟩ F1 N1
      rw [hbl] at *
      have l4 : ∀ p ∈ rest, p.1 < pl := fun p hp => hlt p (.tail _ (.tail _ (.tail _ (.tail _ (.tail _ hp)))))
      have l2 := hlt
      k_lt l2
      rw [see_all [(Str.ofString "self", .ref t), (Str.ofString "hash_of", .ref f), (Str.ofString "node", .bytes nh tn), (Str.ofString "proof_update", .ref pl)]
        (List.forall_mem_cons.mpr ⟨e0, List.forall_mem_cons.mpr ⟨e1, List.forall_mem_cons.mpr ⟨e4, List.forall_mem_cons.mpr ⟨e6, List.forall_mem_nil _⟩⟩⟩⟩)] at F1
      clear lF lN hr hd hdb
      have hpl : pvs.length = 8 := by rw [hpv.length, List.length_map, List.length_range]
      (repeat' (first | (k_unfold; (try dsimp only)) | (k_end; wrow_close) | ((with_reducible show FnAt _ _); k_here; (rename Mine.HashAt _ _ _ => hHash9); k_dflt (exact Mine.HashAt.fnAt hHash9 (by k_asm) (by walk_at "mine sub"))) | ((with_reducible show wpAny _ _ (binaryOp Operator.Add (Value.bytes _ _) (Value.bytes _ _)) _ _ _); k_here; (refine Mine.cat_bytes (by omega) ?_); intro _ _ _ _) | ((with_reducible show wpAny _ _ (call (Value.builtin "list.append") [Value.ref _, _]) _ _ _); k_here; k_dflt (refine' Mine.append_L ?k1 ?k2 ?k3 ?_ ?z; (case k1 => k_asm); (case k2 => k_asm); (case k3 => k_upd); (case z => first | omega | (simp; done) | (simp; omega)); k_whole); intro _ _ _; (try k_sweep)) | ((with_reducible show wpAny _ _ (call (Value.ref _) [Value.bytes _ _]) _ _ _); k_here; (rename Mine.HashAt _ _ _ => hHash9); k_dflt (refine' Mine.hashU ?B ?F ?X ?N ?T ?fr ?h1 ?h2 ?h3 ?hk hHash9 ?off ?lo ?U ?sub ?d ?r ?z ?_; (case F => k_asm); (case B => k_asm); (case X => k_asm); (case N => k_asm); (case T => k_asm); (case fr => exact rfl); (case h1 => exact rfl); (case h2 => (first | exact Nat.le_of_ble_eq_true rfl | ((simp only [depth_under_make, depth_in1, depth_deeper, units_under_make, units_in1, units_deeper]); exact Nat.le_of_ble_eq_true rfl))); (case h3 => (first | exact Nat.le_of_ble_eq_true rfl | ((simp only [depth_under_make, depth_in1, depth_deeper, units_under_make, units_in1, units_deeper]); exact Nat.le_of_ble_eq_true rfl))); (case hk => exact rfl); (case off => assumption); (case lo => k_asm); (case U => k_updF); (case sub => walk_at "mine sub"); (case d => k_asm); (case r => k_asm); (case z => omega)); intro _ _ _ _ _ _ _ _ N9' _ _ _ _ h9'; (have _ := Mine.Hs.size h9'); (try dsimp only at N9'); (try k_sweep)) | ((with_reducible show wpAny _ _ (call (Value.ref _) _) _ _ _); k_here; (rename Mine.Mark => stopMark); (first | refine Mine.stop_call (by decide) ?_ | ((rename Mine.MarkU => stopMarkU); refine Mine.stop_callU (by decide) ?_))) | ((with_reducible show wpAny _ _ (call (Value.type "reversed") [Value.ref _]) _ _ _); k_here; k_dflt (refine' Mine.reversed_tup ?F ?N ?l ?z ?_; (case F => k_asm); (case N => k_asm); (case l => k_mem); (case z => first | omega | (simp; omega))); intro _ _ _ _ _ l9'; (try k_lt l9'); (try k_sweep)) | ((with_reducible show wpAny _ _ (call (Value.type "tuple") [Value.ref _]) _ _ _); k_here; k_dflt (refine' Mine.tuple_rev ?F ?N ?h ?l ?o ?z ?_; (case F => k_asm); (case N => k_asm); (case h => exact rfl); (case l => k_mem); (case o => k_all); (case z => omega)); intro _ _ _ _ _ l9'; (try k_lt l9'); (try k_sweep)) | ((with_reducible show wpAny _ _ (callWith _ (Value.ref _) _ _ _) _ _ _); k_here; (rename Mine.HashAt _ _ _ => hHash9); k_dflt (refine' callWith_F ?k1 ?_; (case k1 => exact Mine.HashAt.fnAt hHash9 (by k_asm) (by walk_at "mine sub")); k_whole)) | ((with_reducible show wpAny _ _ (compareOp CmpOp.NotEq (Value.int _ _) (Value.int _ _)) _ _ _); k_here; (rename Mine.Mark => stopMark); (refine Mine.ne_int_same (by first | omega | k_dflt rfl) ?_)) | ((with_reducible show wpAny _ _ (getMethod (Value.type "int") _ _) _ _ _); k_here; (refine KFB.getm (by k_asm) (by k_asm) (by k_asm) (by k_is) ?_); intro _ _ _ _ l9'; (try k_lt l9'); (try k_sweep)) | ((with_reducible show wpAny _ _ (inplaceOp Operator.LShift (Value.int _ _) (Value.int _ _)) _ _ _); k_here; (refine Mine.ilsh (by omega) (by omega) ?_); intro _ _) | ((with_reducible show wpAny _ _ (pyIter (Value.ref _)) _ _ _); k_here; (rename Mine.Mark => stopMark); refine Mine.stop_at ?_) | ((with_reducible show wpAny _ _ (setItem (Value.ref _) (Value.bytes _ _) _) _ _ _); k_here; k_dflt (refine' kda_set (knd := PySem.W.bytesKind _ _) ?F ?N ?U ?d (Mine.bytes_is _ _ _ _) ?z ?_; (case F => k_asm); (case N => k_asm); (case U => k_updF); (case d => k_asm); (case z => rw [sizeLine_eq]; omega)); intro _ _ _ N9' _; (try dsimp only at N9')) | walk1 | (dsimp only; walk1) | (leave1; walk_say "STEP leave1"; try dsimp only)))
      (rename RegIs _ _ => hr1); (rename Obj.IsDictOf _ _ (stored _ _ _) => hdb1); (rename Hs _ _ _ => hh1); (rename List.IsPrefix _ _ => hp1); (rename List.length _ ≤ List.length _ + 1 => hl1)
      revert hdb1
      (rename Obj.IsDictOf _ _ _ => hd1)
      intro hdb1
      have hw9 := (hw.mono hp1).snoc (n := 8) (by rw [← e5]; exact hh1)
      have am9 := am.step (t := tn) hp1 hh1
      refine ret _ _ _ _ _ _ _ _ _ (put hs 8 _) _ _ (by assumption) (by (first | assumption | exact cb_drop (by assumption) (by walk_at "mine sub"))) hd1 hr1 (hp2.trans hp1) (by omega) hdb1 (Nat.le_trans (stored_length_le _ _ _) (by omega)) (D.set (hp2.trans hp1) (by rw [hbs]; exact hw9) am9.sound am9.old am9.new) ?rt ?av
      case rt => rw [setNd_top hu, put_self]
      case av => rw [along_set, range_put']; exact hpv.reverse
end Mine
namespace Mine
/-- the loop of the tree's making -/
inductive TreeJ (w : World) (t td db r f : Addr) (y : TD) (dflt : Value) (d : By) (reg : List By) (rest : List (Addr × Obj)) (i : Nat) (m : Str → Option Value) (nx : List (Addr × Obj)) : Prop where
  | mk (es : Nat → By) (od' : Obj) (kvs' : List (By × Value)) (reg' : List By) (odb' : Obj) (kvd' : List (By × Value)) (nh : Array UInt8) (tn : Tok)
    (e0 : m (Str.ofString "self") = some (.ref t)) (e1 : m (Str.ofString "hash_of") = some (.ref f)) (e4 : m (Str.ofString "node") = some (.bytes nh tn)) (e5 : nh.toList = Te d es i) (hw : Emp reg' d i es)
    (hd : od'.IsDictOf (bytesKind PySem.Challenge.rw_iu0037_01.row.prog w) kvs') (hr : RegIs kvs' reg') (hp : reg <+: reg') (hl : reg'.length ≤ reg.length + i)
    (hdb : odb'.IsDictOf (bytesKind PySem.Challenge.rw_iu0037_01.row.prog w) kvd') (hld : kvd'.length ≤ i) (am : Amid reg' [] kvd' i es)
    (hnx : nx = (db, odb') :: (t, instObj 214 td) :: (td, td5Of y dflt f db) :: (r, od') :: rest) : TreeJ w t td db r f y dflt d reg rest i m nx
set_option maxHeartbeats 2000000 in
theorem c_tree (w : World) {gd : Option (List Code)} {cn : Str} {cs : Scope} {a : Addr} {ccd : Value} {cl : List (Str × Addr)} {outer : List Env} {A₀ : Around} {base h₀ : Heap} {L : Addr} {m mg mb : Str → Option Value}
    {p : Program} {loose : List Str} {mean : ExcName → Option Value} {s : Shared} {R : Result → Shared → Prop} {rest : List (Addr × Obj)} {r f : Addr} {da : Array UInt8} {dt t1 : Tok} {od : Obj} {kvs : List (By × Value)} {reg : List By} {Q E : Value → Shared → Prop}
    (B : Below A₀ base outer h₀) (F : Fr h₀ L s.heap m) (X : (Mine.z.heap_1_39 w.params).In h₀) (T : Top p loose mean mg mb h₀) (hk : cs.kind = .function) (N : News h₀ L s.heap ((r, od) :: rest)) (hoff : ∀ p ∈ rest, p.1 ≠ r) (hlo : (r == sysModules) = false) (H : HashAt rest f r)
    (hd : od.IsDictOf (bytesKind PySem.Challenge.rw_iu0037_01.row.prog w) kvs) (hr : RegIs kvs reg) (hz : reg.length ≤ 1000000)
    (ret : ∀ (t td db : Addr) (x : TD) (root : Array UInt8) tr od' odb kvs' kvd reg' (es : Nat → By) h' tk', Fr h₀ L h' m →
      News h₀ L h' ((t, instObj 214 td) :: (td, tdOf x (.bytes da dt) f db (.bytes root tr)) :: (db, odb) :: (r, od') :: rest) → Apart td db r rest →
      od'.IsDictOf (bytesKind PySem.Challenge.rw_iu0037_01.row.prog w) kvs' → RegIs kvs' reg' → reg <+: reg' → reg'.length ≤ reg.length + 9 →
      odb.IsDictOf (bytesKind PySem.Challenge.rw_iu0037_01.row.prog w) kvd → kvd.length ≤ 9 → DbOk reg' kvd (fun _ => da.toList) (fun k _ => es k) → root.toList = es 8 →
      Q (.ref t) { s with heap := h', toks := tk' }) :
    wpAny (model PySem.Challenge.rw_iu0037_01.row.prog w) (ctop 800 8000 gd cn cs L a ccd cl outer) (call (.ref 214) [.ref f, .int 1 t1, .bytes da dt]) Q E s := by
  revert X; k_fill; w_top off; intro X
  have mk9 := Mark.mk
  k_dflt (refine' call_cls ?k1 ?k2 ?k3 ?k4 ?k5 ?k6 ?_; (case k1 => k_asm); (case k2 => k_asm); (case k3 => k_asm); (case k4 => k_is); (case k5 => k_is); (case k6 => k_is); k_whole; intro x' d' h' F' N' l1 l2; (try k_lt l1); (try k_lt2 l2); (refine' code_def ?k1 ?k2 ?k3 ?k4 ?k5 ?kA ?kF ?kK ?k6 ?k7 ?k8 ?k9 ?kB ?_ ?c2 ?c3 ?c4 ?c5; (case kA => exact rfl); (case kF => exact rfl); (case kK => assumption); (case k1 => k_asm); (case k2 => k_asm); (case k3 => k_asm); (case k4 => k_asm); (case k5 => k_asm); (case k6 => k_is); (case k7 => k_is); (case k8 => ktr_room); (case k9 => first | exact BindsTo.of_eq rfl | exact binds_K (by k_in) rfl (by k_is) rfl rfl rfl); (case c5 => decide); (case kB => exact locs rfl); (case c2 => exact rfl); (case c3 => exact rfl); (case c4 => exact rfl); k_whole; intro g9' _ _ _ _ _ B9' _ _; (try dsimp only); (try k_lift B9'); (try k_fold)))
  (repeat' (first | (k_unfold; (try dsimp only)) | (k_end; wrow_close) | ((with_reducible show FnAt _ _); k_here; (rename Mine.HashAt _ _ _ => hHash9); k_dflt (exact Mine.HashAt.fnAt hHash9 (by k_asm) (by walk_at "mine sub"))) | ((with_reducible show wpAny _ _ (binaryOp Operator.Add (Value.bytes _ _) (Value.bytes _ _)) _ _ _); k_here; (refine Mine.cat_bytes (by omega) ?_); intro _ _ _ _) | ((with_reducible show wpAny _ _ (call (Value.ref _) [Value.bytes _ _]) _ _ _); k_here; (rename Mine.HashAt _ _ _ => hHash9); k_dflt (refine' Mine.hashU ?B ?F ?X ?N ?T ?fr ?h1 ?h2 ?h3 ?hk hHash9 ?off ?lo ?U ?sub ?d ?r ?z ?_; (case F => k_asm); (case B => k_asm); (case X => k_asm); (case N => k_asm); (case T => k_asm); (case fr => exact rfl); (case h1 => exact rfl); (case h2 => (first | exact Nat.le_of_ble_eq_true rfl | ((simp only [depth_under_make, depth_in1, depth_deeper, units_under_make, units_in1, units_deeper]); exact Nat.le_of_ble_eq_true rfl))); (case h3 => (first | exact Nat.le_of_ble_eq_true rfl | ((simp only [depth_under_make, depth_in1, depth_deeper, units_under_make, units_in1, units_deeper]); exact Nat.le_of_ble_eq_true rfl))); (case hk => exact rfl); (case off => assumption); (case lo => k_asm); (case U => k_updF); (case sub => walk_at "mine sub"); (case d => k_asm); (case r => k_asm); (case z => omega)); intro _ _ _ _ _ _ _ _ N9' _ _ _ _ h9'; (have _ := Mine.Hs.size h9'); (try dsimp only at N9'); (try k_sweep)) | ((with_reducible show wpAny _ _ (callWith _ (Value.ref _) _ _ _) _ _ _); k_here; (rename Mine.HashAt _ _ _ => hHash9); k_dflt (refine' callWith_F ?k1 ?_; (case k1 => exact Mine.HashAt.fnAt hHash9 (by k_asm) (by walk_at "mine sub")); k_whole)) | ((with_reducible show wpAny _ _ (pyIter (Value.ref _)) _ _ _); k_here; (rename Mine.Mark => stopMark); refine Mine.stop_at ?_) | ((with_reducible show wpAny _ _ (setItem (Value.ref _) (Value.bytes _ _) _) _ _ _); k_here; k_dflt (refine' kda_set (knd := PySem.W.bytesKind _ _) ?F ?N ?U ?d (Mine.bytes_is _ _ _ _) ?z ?_; (case F => k_asm); (case N => k_asm); (case U => k_updF); (case d => k_asm); (case z => rw [sizeLine_eq]; omega)); intro _ _ _ N9' _; (try dsimp only at N9')) | walk1 | (dsimp only; walk1) | (leave1; walk_say "STEP leave1"; try dsimp only)))
  unfold Stop
  (rename Fr _ _ _ _ => lF); (rename News _ _ _ _ => lN); (rename IsRange _ _ _ _ _ _ _ _ => lR)
  (rename Obj.IsDictOf (PySem.strKind _ _) _ _ => hs0)
  have hb0 := empty_dict (knd' := bytesKind PySem.Challenge.rw_iu0037_01.row.prog w) hs0
  obtain ⟨y, db, N5, F5, F6⟩ : ∃ (y : TD) (db : Addr), News _ _ _ ((db, _) :: (x', instObj 214 d') :: (d', td5Of y (.bytes da dt) f db) :: (r, od) :: rest) ∧ @LT.lt Nat _ x' db ∧ (∀ p ∈ rest, p.1 < db) := ⟨⟨_, _, _, _, _, 0, _, _, _, _, _, 0, _, _⟩, _, lN, (‹x' < _ ∧ _ ∧ _ ∧ AllLt _ rest›).1, all_of_allLt (‹x' < _ ∧ _ ∧ _ ∧ AllLt _ rest›).2.2.2⟩
  refine' loop_range (n := 8) (TreeJ w x' d' db r f y (.bytes da dt) da.toList reg rest) rfl lR (by decide) (by decide) lF N5 ?j0 ?turn ?done
  case j0 => exact ⟨fun _ => [], od, kvs, reg, _, [], _, _, rfl, rfl, rfl, rfl, Emp.zero, hd, hr, List.prefix_refl _, by omega, hb0, by simp, Amid.zero (fun k x h => by cases h), rfl⟩
  case turn =>
    rintro i I tv m₁ nx it h1 tk1 hi ⟨es, od', kvs', reg', odb', kvd', nh, tn, e0, e1, e4, e5, hw, hd2, hr2, hp2, hl2, hdb2, hld2, am, rfl⟩ hof F1 N1
    have l3 := gnNe_of hof
    simp only [GnNe] at l3
    have l5 : ∀ p ∈ rest, p.1 ≠ _ := fun p hp => hof p (.tail _ (.tail _ (.tail _ (.tail _ hp))))
    rw [see_all [(Str.ofString "self", .ref x'), (Str.ofString "hash_of", .ref f), (Str.ofString "node", .bytes nh tn)]
      (List.forall_mem_cons.mpr ⟨e0, List.forall_mem_cons.mpr ⟨e1, List.forall_mem_cons.mpr ⟨e4, List.forall_mem_nil _⟩⟩⟩)] at F1
    clear lF lN N5 hr hd hs0 hb0 lR
    (repeat' (first | (k_unfold; (try dsimp only)) | (k_end; wrow_close) | ((with_reducible show FnAt _ _); k_here; (rename Mine.HashAt _ _ _ => hHash9); k_dflt (exact Mine.HashAt.fnAt hHash9 (by k_asm) (by walk_at "mine sub"))) | ((with_reducible show wpAny _ _ (binaryOp Operator.Add (Value.bytes _ _) (Value.bytes _ _)) _ _ _); k_here; (refine Mine.cat_bytes (by omega) ?_); intro _ _ _ _) | ((with_reducible show wpAny _ _ (call (Value.ref _) [Value.bytes _ _]) _ _ _); k_here; (rename Mine.HashAt _ _ _ => hHash9); k_dflt (refine' Mine.hashU ?B ?F ?X ?N ?T ?fr ?h1 ?h2 ?h3 ?hk hHash9 ?off ?lo ?U ?sub ?d ?r ?z ?_; (case F => k_asm); (case B => k_asm); (case X => k_asm); (case N => k_asm); (case T => k_asm); (case fr => exact rfl); (case h1 => exact rfl); (case h2 => (first | exact Nat.le_of_ble_eq_true rfl | ((simp only [depth_under_make, depth_in1, depth_deeper, units_under_make, units_in1, units_deeper]); exact Nat.le_of_ble_eq_true rfl))); (case h3 => (first | exact Nat.le_of_ble_eq_true rfl | ((simp only [depth_under_make, depth_in1, depth_deeper, units_under_make, units_in1, units_deeper]); exact Nat.le_of_ble_eq_true rfl))); (case hk => exact rfl); (case off => assumption); (case lo => k_asm); (case U => k_updF); (case sub => walk_at "mine sub"); (case d => k_asm); (case r => k_asm); (case z => omega)); intro _ _ _ _ _ _ _ _ N9' _ _ _ _ h9'; (have _ := Mine.Hs.size h9'); (try dsimp only at N9'); (try k_sweep)) | ((with_reducible show wpAny _ _ (callWith _ (Value.ref _) _ _ _) _ _ _); k_here; (rename Mine.HashAt _ _ _ => hHash9); k_dflt (refine' callWith_F ?k1 ?_; (case k1 => exact Mine.HashAt.fnAt hHash9 (by k_asm) (by walk_at "mine sub")); k_whole)) | ((with_reducible show wpAny _ _ (pyIter (Value.ref _)) _ _ _); k_here; (rename Mine.Mark => stopMark); refine Mine.stop_at ?_) | ((with_reducible show wpAny _ _ (setItem (Value.ref _) (Value.bytes _ _) _) _ _ _); k_here; k_dflt (refine' kda_set (knd := PySem.W.bytesKind _ _) ?F ?N ?U ?d (Mine.bytes_is _ _ _ _) ?z ?_; (case F => k_asm); (case N => k_asm); (case U => k_updF); (case d => k_asm); (case z => rw [sizeLine_eq]; omega)); intro _ _ _ N9' _; (try dsimp only at N9')) | walk1 | (dsimp only; walk1) | (leave1; walk_say "STEP leave1"; try dsimp only)))
    (rename Fr _ _ _ _ => lF); (rename News _ _ _ _ => lN); (rename RegIs _ _ => hr1); (rename Obj.IsDictOf _ _ (stored _ _ _) => hdbX); (rename Hs _ _ _ => hh1); (rename List.IsPrefix _ _ => hp1); (rename List.length _ ≤ List.length _ + 1 => hl1); (rename Array.toList _ = _ ++ _ => hcat)
    obtain ⟨odb1, hod, hdb1⟩ := nameOd hdbX
    clear hdbX
    subst hod
    revert hdb1
    (rename Obj.IsDictOf _ _ _ => hdX)
    obtain ⟨od1, hod, hd1⟩ := nameOd hdX
    clear hdX
    subst hod
    intro hdb1
    refine UnrEnd.intro lF lN ((db, odb1) :: (x', instObj 214 d') :: (d', td5Of y (.bytes da dt) f db) :: (r, od1) :: rest) (by walk_at "mine sub") (by k_all)
      ⟨put es i _, od1, _, _, odb1, _, _, _, rfl, rfl, rfl, ?g1, (hw.mono hp1).snoc ?g2, hd1, hr1, hp2.trans hp1, by omega, hdb1, Nat.le_trans (stored_length_le _ _ _) (by omega), am.step hp1 hh1, rfl⟩
    case g1 => rw [Te_succ]; exact hcat
    case g2 => rw [← e5]; exact hh1
  case done =>
    rintro m₁ nx h1 tk1 ⟨es, od', kvs', reg', odb', kvd', nh, tn, e0, e1, e4, e5, hw, hd2, hr2, hp2, hl2, hdb2, hld2, am, rfl⟩ F1 N1
    rw [see_all [(Str.ofString "self", .ref x'), (Str.ofString "hash_of", .ref f), (Str.ofString "node", .bytes nh tn)]
      (List.forall_mem_cons.mpr ⟨e0, List.forall_mem_cons.mpr ⟨e1, List.forall_mem_cons.mpr ⟨e4, List.forall_mem_nil _⟩⟩⟩)] at F1
    clear lF lN N5 hr hd hs0 hb0 lR
    (repeat' (first | (k_unfold; (try dsimp only)) | (k_end; wrow_close) | ((with_reducible show FnAt _ _); k_here; (rename Mine.HashAt _ _ _ => hHash9); k_dflt (exact Mine.HashAt.fnAt hHash9 (by k_asm) (by walk_at "mine sub"))) | ((with_reducible show wpAny _ _ (binaryOp Operator.Add (Value.bytes _ _) (Value.bytes _ _)) _ _ _); k_here; (refine Mine.cat_bytes (by omega) ?_); intro _ _ _ _) | ((with_reducible show wpAny _ _ (call (Value.ref _) [Value.bytes _ _]) _ _ _); k_here; (rename Mine.HashAt _ _ _ => hHash9); k_dflt (refine' Mine.hashU ?B ?F ?X ?N ?T ?fr ?h1 ?h2 ?h3 ?hk hHash9 ?off ?lo ?U ?sub ?d ?r ?z ?_; (case F => k_asm); (case B => k_asm); (case X => k_asm); (case N => k_asm); (case T => k_asm); (case fr => exact rfl); (case h1 => exact rfl); (case h2 => (first | exact Nat.le_of_ble_eq_true rfl | ((simp only [depth_under_make, depth_in1, depth_deeper, units_under_make, units_in1, units_deeper]); exact Nat.le_of_ble_eq_true rfl))); (case h3 => (first | exact Nat.le_of_ble_eq_true rfl | ((simp only [depth_under_make, depth_in1, depth_deeper, units_under_make, units_in1, units_deeper]); exact Nat.le_of_ble_eq_true rfl))); (case hk => exact rfl); (case off => assumption); (case lo => k_asm); (case U => k_updF); (case sub => walk_at "mine sub"); (case d => k_asm); (case r => k_asm); (case z => omega)); intro _ _ _ _ _ _ _ _ N9' _ _ _ _ h9'; (have _ := Mine.Hs.size h9'); (try dsimp only at N9'); (try k_sweep)) | ((with_reducible show wpAny _ _ (callWith _ (Value.ref _) _ _ _) _ _ _); k_here; (rename Mine.HashAt _ _ _ => hHash9); k_dflt (refine' callWith_F ?k1 ?_; (case k1 => exact Mine.HashAt.fnAt hHash9 (by k_asm) (by walk_at "mine sub")); k_whole)) | ((with_reducible show wpAny _ _ (pyIter (Value.ref _)) _ _ _); k_here; (rename Mine.Mark => stopMark); refine Mine.stop_at ?_) | ((with_reducible show wpAny _ _ (setItem (Value.ref _) (Value.bytes _ _) _) _ _ _); k_here; k_dflt (refine' kda_set (knd := PySem.W.bytesKind _ _) ?F ?N ?U ?d (Mine.bytes_is _ _ _ _) ?z ?_; (case F => k_asm); (case N => k_asm); (case U => k_updF); (case d => k_asm); (case z => rw [sizeLine_eq]; omega)); intro _ _ _ N9' _; (try dsimp only at N9')) | walk1 | (dsimp only; walk1) | (leave1; walk_say "STEP leave1"; try dsimp only)))
    (rename News _ _ _ _ => lN); (rename RegIs _ _ => hr1); (rename Obj.IsDictOf _ _ (stored _ _ _) => hdb1); (rename Hs _ _ _ => hh1); (rename List.IsPrefix _ _ => hp1); (rename List.length _ ≤ List.length _ + 1 => hl1)
    revert hdb1
    (rename Obj.IsDictOf _ _ _ => hd1)
    intro hdb1
    have hw9 := (hw.mono hp1).snoc (n := 8) (by rw [← e5]; exact hh1)
    have am9 := am.step (t := tn) hp1 hh1
    refine ret x' d' db ⟨y.h1, y.h2, y.h3, y.h4, y.h5, PyData.keyHash w.params (Str.ofString "root_hash"), y.k1, y.k2, y.k3, y.k4, y.k5, _, y.v1, y.v2⟩ _ _ _ _ _ _ _ (put es 8 _) _ _ (by assumption) (by with_unfolding_all exact rot3 lN) ⟨?b1, ?b2, ?b3, hoff, ?b4, ?b5, hlo⟩ hd1 hr1 (hp2.trans hp1) (by omega) hdb1 (Nat.le_trans (stored_length_le _ _ _) (by omega)) (hw9.db am9) ?rt
    case rt => rw [put_self]
    case b1 => omega
    case b2 => omega
    case b3 => omega
    case b4 => k_all
    case b5 => k_all
end Mine
namespace Mine
/-- the loop of the empty names -/
inductive Lv1J (w : World) (f r hl el : Addr) (d : By) (reg : List By) (rest : List (Addr × Obj)) (i : Nat) (m : Str → Option Value) (nx : List (Addr × Obj)) : Prop where
  | mk (es : Nat → By) (evs : List Value) (ne : Nat) (od' : Obj) (kvs' : List (By × Value)) (reg' : List By) (t8 : Tok)
    (e0 : m (Str.ofString "hash_of") = some (.ref f)) (e1 : m (Str.ofString "held") = some (.ref hl)) (e2 : m (Str.ofString "depth") = some (.int 8 t8)) (e3 : m (Str.ofString "empty") = some (.ref el))
    (hw : Emp reg' d (i + 1) es) (hev : BsAre evs ((List.range (i + 1)).map es)) (hd : od'.IsDictOf (bytesKind PySem.Challenge.rw_iu0037_01.row.prog w) kvs') (hr : RegIs kvs' reg') (hp : reg <+: reg') (hle : reg'.length ≤ reg.length + (i + 1))
    (hnx : nx = (el, W.listOf evs.toArray ne) :: (r, od') :: rest) : Lv1J w f r hl el d reg rest i m nx
/-- the loop of the lowest level -/
inductive Lv2J (w : World) (f r hl el lv : Addr) (d : By) (kvh : List (By × Value)) (reg : List By) (evs : List Value) (ne : Nat) (rest : List (Addr × Obj)) (i : Nat) (m : Str → Option Value) (nx : List (Addr × Obj)) : Prop where
  | mk (od' : Obj) (kvs' : List (By × Value)) (reg' : List By) (ol : Obj) (kl : IKV) (t8 : Tok)
    (e0 : m (Str.ofString "hash_of") = some (.ref f)) (e1 : m (Str.ofString "held") = some (.ref hl)) (e2 : m (Str.ofString "depth") = some (.int 8 t8)) (e3 : m (Str.ofString "empty") = some (.ref el)) (e4 : m (Str.ofString "level") = some (.ref lv))
    (hd : od'.IsDictOf (bytesKind PySem.Challenge.rw_iu0037_01.row.prog w) kvs') (hr : RegIs kvs' reg') (hp : reg <+: reg') (hle : reg'.length ≤ reg.length + i)
    (ho : ol.IsDictOf (intKind PySem.Challenge.rw_iu0037_01.row.prog w) kl) (hkl : kl.length ≤ i) (h0 : Lv0 reg' kvh d i kl)
    (hnx : nx = (lv, ol) :: (el, W.listOf evs.toArray ne) :: (r, od') :: rest) : Lv2J w f r hl el lv d kvh reg evs ne rest i m nx
/-- the loop of the levels -/
inductive Lv3J (w : World) (f r el ll : Addr) (kvh : List (By × Value)) (d : By) (es : Nat → By) (evs : List Value) (ne : Nat) (reg : List By) (rest : List (Addr × Obj)) (i : Nat) (m : Str → Option Value) (nx : List (Addr × Obj)) : Prop where
  | mk (cur : Addr) (oc : Obj) (kk : Nat → IKV) (ds : List Addr) (nl : Nat) (old : List (Addr × Obj)) (od' : Obj) (kvs' : List (By × Value)) (reg' : List By)
    (e0 : m (Str.ofString "hash_of") = some (.ref f)) (e1 : m (Str.ofString "empty") = some (.ref el)) (e2 : m (Str.ofString "level") = some (.ref cur)) (e3 : m (Str.ofString "levels") = some (.ref ll))
    (g1 : @LT.lt Nat _ el cur) (g2 : ∀ p ∈ old, @LT.lt Nat _ el p.1) (g3 : ∀ p ∈ old ++ rest, p.1 ≠ ll)
    (hd : od'.IsDictOf (bytesKind PySem.Challenge.rw_iu0037_01.row.prog w) kvs') (hr : RegIs kvs' reg') (hp : reg <+: reg') (hle : reg'.length ≤ reg.length + 20 * i)
    (LV : Lvs w reg' kvh d es old i cur oc kk ds) (hkz : (kk i).length ≤ 20) (lo : (cur == sysModules) = false) (hcd : oc.IsDictOf (intKind PySem.Challenge.rw_iu0037_01.row.prog w) (kk i)) (hck : LvOk (kk i) (2 ^ (8 - i)))
    (hnx : nx = (ll, W.listOf (ds.map Value.ref).toArray nl) :: (cur, oc) :: (el, W.listOf evs.toArray ne) :: (r, od') :: (old ++ rest)) : Lv3J w f r el ll kvh d es evs ne reg rest i m nx
/-- the loop of one level -/
inductive Lv4J (w : World) (f r el ll cur ab : Addr) (oc : Obj) (kc : IKV) (i : Nat) (e : By) (lvs evs : List Value) (nl ne : Nat) (reg : List By) (tl : List (Addr × Obj)) (j : Nat) (m : Str → Option Value) (nx : List (Addr × Obj)) : Prop where
  | mk (od' : Obj) (kvs' : List (By × Value)) (reg' : List By) (oa : Obj) (ka : IKV) (tk : Tok)
    (e0 : m (Str.ofString "hash_of") = some (.ref f)) (e1 : m (Str.ofString "empty") = some (.ref el)) (e2 : m (Str.ofString "level") = some (.ref cur)) (e3 : m (Str.ofString "levels") = some (.ref ll)) (e4 : m (Str.ofString "above") = some (.ref ab)) (e5 : m (Str.ofString "k") = some (.int (i : Int) tk))
    (hd : od'.IsDictOf (bytesKind PySem.Challenge.rw_iu0037_01.row.prog w) kvs') (hr : RegIs kvs' reg') (hp : reg <+: reg') (hle : reg'.length ≤ reg.length + j)
    (hoa : oa.IsDictOf (intKind PySem.Challenge.rw_iu0037_01.row.prog w) ka) (hka : ka.length ≤ j) (h0 : Abv reg' kc e (2 ^ (7 - i)) j ka)
    (hnx : nx = (ab, oa) :: (ll, W.listOf lvs.toArray nl) :: (cur, oc) :: (el, W.listOf evs.toArray ne) :: (r, od') :: tl) : Lv4J w f r el ll cur ab oc kc i e lvs evs nl ne reg tl j m nx
set_option maxHeartbeats 4000000 in
theorem c_levels (w : World) {gd : Option (List Code)} {cn : Str} {cs : Scope} {a : Addr} {ccd : Value} {cl : List (Str × Addr)} {outer : List Env} {A₀ : Around} {base h₀ : Heap} {L : Addr} {m mg mb : Str → Option Value}
    {p : Program} {loose : List Str} {mean : ExcName → Option Value} {s : Shared} {R : Result → Shared → Prop} {rest : List (Addr × Obj)} {r f hl : Addr} {da : Array UInt8} {dt t8 : Tok} {od oh : Obj} {kvs kvh : List (By × Value)} {reg : List By}
    (B : Below A₀ base outer h₀) (F : Fr h₀ L s.heap m) (X : (Mine.z.heap_1_39 w.params).In h₀) (T : Top p loose mean mg mb h₀) (hk : cs.kind = .function) (N : News h₀ L s.heap ((r, od) :: rest)) (hoff : ∀ p ∈ rest, p.1 ≠ r) (hlo : (r == sysModules) = false) (H : HashAt rest f r)
    (hd : od.IsDictOf (bytesKind PySem.Challenge.rw_iu0037_01.row.prog w) kvs) (hr : RegIs kvs reg) (hz : reg.length ≤ 900000)
    (hmem : (hl, oh) ∈ rest) (hh : oh.IsDictOf (bytesKind PySem.Challenge.rw_iu0037_01.row.prog w) kvh) (hhlo : (hl == sysModules) = false) (hok : HeldOk kvh) (hhz : kvh.length ≤ 20)
    (ret : ∀ (kt : Addr) (kn : List (Addr × Obj)) nd od' kvs' reg' h' tk', Fr h₀ L h' m → News h₀ L h' ((r, od') :: (kn ++ rest)) → (∀ p ∈ kn, ∀ q ∈ (r, od) :: rest, q.1 < p.1) → KnownAt w kn kt nd →
      od'.IsDictOf (bytesKind PySem.Challenge.rw_iu0037_01.row.prog w) kvs' → RegIs kvs' reg' → reg <+: reg' → reg'.length ≤ reg.length + 5000 → Nodes reg' (heldVal kvh da.toList) nd →
      R (.ok (.ret (.ref kt))) { s with heap := h', toks := tk' }) :
    codeAny (model PySem.Challenge.rw_iu0037_01.row.prog w) (ctop 700 7000 gd cn cs L a ccd cl outer) (.call (.ref 232) ⟨[.ref hl, .int 8 t8, .bytes da dt, .ref f], []⟩) R s := by
  revert X; k_fill; w_top off; intro X
  have mk9 := Mark.mk
  k_dflt cell_enter
  (repeat' (first | (k_unfold; (try dsimp only)) | (k_end; wrow_close) | ((with_reducible show FnAt _ _); k_here; (rename Mine.HashAt _ _ _ => hHash9); k_dflt (exact Mine.HashAt.fnAt hHash9 (by k_asm) (by walk_at "mine sub"))) | ((with_reducible show wpAny _ _ (binaryOp Operator.Add (Value.bytes _ _) (Value.bytes _ _)) _ _ _); k_here; (refine Mine.cat_bytes (by omega) ?_); intro _ _ _ _) | ((with_reducible show wpAny _ _ (call (Value.builtin "dict.get") [Value.ref _, Value.int _ _, Value.bytes _ _]) _ _ _); k_here; k_dflt (refine' Mine.lvl_get ?N ?m ?d ?lo ?ok ?e ?x ?_; (case N => k_asm); (case m => (first | k_mem | walk_at "mine tail")); (case d => k_asm); (case lo => k_asm); (case ok => k_asm); (case e => assumption); (case x => omega)); intro _ _ _ _ _) | ((with_reducible show wpAny _ _ (call (Value.builtin "list.append") [Value.ref _, _]) _ _ _); k_here; k_dflt (refine' Mine.append_L ?k1 ?k2 ?k3 ?_ ?z; (case k1 => k_asm); (case k2 => k_asm); (case k3 => k_upd); (case z => first | omega | (simp; done) | (simp; omega)); k_whole); intro _ _ _; (try k_sweep)) | ((with_reducible show wpAny _ _ (call (Value.ref _) [Value.bytes _ _]) _ _ _); k_here; (rename Mine.HashAt _ _ _ => hHash9); k_dflt (refine' Mine.hashU ?B ?F ?X ?N ?T ?fr ?h1 ?h2 ?h3 ?hk hHash9 ?off ?lo ?U ?sub ?d ?r ?z ?_; (case F => k_asm); (case B => k_asm); (case X => k_asm); (case N => k_asm); (case T => k_asm); (case fr => exact rfl); (case h1 => exact rfl); (case h2 => (first | exact Nat.le_of_ble_eq_true rfl | ((simp only [depth_under_make, depth_in1, depth_deeper, units_under_make, units_in1, units_deeper]); exact Nat.le_of_ble_eq_true rfl))); (case h3 => (first | exact Nat.le_of_ble_eq_true rfl | ((simp only [depth_under_make, depth_in1, depth_deeper, units_under_make, units_in1, units_deeper]); exact Nat.le_of_ble_eq_true rfl))); (case hk => exact rfl); (case off => assumption); (case lo => k_asm); (case U => k_updF); (case sub => walk_at "mine sub"); (case d => k_asm); (case r => k_asm); (case z => omega)); intro _ _ _ _ _ _ _ _ N9' _ _ _ _ h9'; (have _ := Mine.Hs.size h9'); (try dsimp only at N9'); (try k_sweep)) | ((with_reducible show wpAny _ _ (callWith _ (Value.ref _) _ _ _) _ _ _); k_here; (rename Mine.HashAt _ _ _ => hHash9); k_dflt (refine' callWith_F ?k1 ?_; (case k1 => exact Mine.HashAt.fnAt hHash9 (by k_asm) (by walk_at "mine sub")); k_whole)) | ((with_reducible show wpAny _ _ (compareOp CmpOp.NotIn (Value.int _ _) (Value.ref _)) _ _ _); k_here; k_dflt (refine' Mine.lvl_notin ?N ?m ?d ?lo ?_ ?_; (case N => k_asm); (case m => (first | k_mem | walk_at "mine tail")); (case d => k_asm); (case lo => k_asm)) <;> intro _ _) | ((with_reducible show wpAny _ _ (exec (Stmt.For (Expr.Name _ _) (Expr.Name _ _) _ [] _) _) _ _ _); k_here; (rename Mine.Mark => stopMark); (rename Fr _ _ _ _ => lF'); (with_unfolding_all refine' For_invVF lF' ?k1 ?k2 ?_; (case k1 => exact rfl); (case k2 => exact rfl); k_whole)) | ((with_reducible show wpAny _ _ (getMethod (Value.type "int") _ _) _ _ _); k_here; (refine KFB.getm (by k_asm) (by k_asm) (by k_asm) (by k_is) ?_); intro _ _ _ _ l9'; (try k_lt l9'); (try k_sweep)) | ((with_reducible show wpAny _ _ (pyIter (Value.ref _)) _ _ _); k_here; (rename Mine.Mark => stopMark); refine Mine.stop_at ?_) | ((with_reducible show wpAny _ _ (setItem (Value.ref _) (Value.int _ _) _) _ _ _); k_here; k_dflt (refine' kda_set (knd := PySem.intKind _ _) ?F ?N ?U ?d (PySem.intKind_is _ _ _ _) ?z ?_; (case F => k_asm); (case N => k_asm); (case U => k_updF); (case d => k_asm); (case z => rw [sizeLine_eq]; omega)); intro _ _ _ N9' _; (try dsimp only at N9')) | ((with_reducible show wpAny _ _ (subscriptTail _ _ (Value.ref _) (Value.bytes _ _)) _ _ _); k_here; k_dflt (refine kda_item (knd := PySem.W.bytesKind _ _) (by k_asm) (by (first | k_mem | walk_at "mine tail")) (by k_asm) (Mine.bytes_is _ _ _ _) (by first | assumption | exact Mine.valueAt_self) ?_)) | ((with_reducible show wpAny _ _ (subscriptTail (Expr.Name _ _) (Expr.Name _ _) (Value.ref _) (Value.int _ _)) _ _ _); k_here; k_dflt (first | (refine' Mine.item_L ?N ?l ?x ?v ?z ?_; (case N => k_asm); (case l => k_mem); (case v => assumption); (case x => first | rfl | omega); (case z => omega)) | (refine' Mine.item_T ?N ?l ?x ?v ?z ?_; (case N => k_asm); (case l => k_mem); (case v => assumption); (case x => first | rfl | omega); (case z => omega)))) | walk1 | (dsimp only; walk1) | (leave1; walk_say "STEP leave1"; try dsimp only)))
  unfold Stop
  (rename Fr _ _ _ _ => lF); (rename News _ _ _ _ => lN); (rename IsRange _ _ _ _ _ _ _ _ => lR); (rename RegIs _ _ => hr1); (rename Obj.IsDictOf _ _ _ => hd1); (rename Hs _ _ _ => hh1); (rename List.IsPrefix _ _ => hp1); (rename List.length _ ≤ List.length _ + 1 => hl1)
  obtain ⟨el, hel, F5, F6⟩ : ∃ el : Nat, el = _ ∧ @LT.lt Nat _ r el ∧ (∀ p ∈ rest, p.1 < el) := ⟨_, rfl, (‹r < _ ∧ AllLt _ rest›).1, all_of_allLt (‹r < _ ∧ AllLt _ rest›).2⟩
  subst hel
  refine' loop_range (n := 8) (Lv1J w f r hl el da.toList reg rest) rfl lR (by decide) (by decide) lF lN ?j0 ?turn ?done
  case j0 => exact ⟨put (fun _ => []) 0 _, [_], 0, _, _, _, _, rfl, rfl, rfl, rfl, (Emp.zero (es := fun _ => [])).snoc hh1, show BsAre [_] [put _ 0 _ 0] from ⟨⟨_, _, rfl, put_self.symm⟩, trivial⟩, hd1, hr1, hp1, hl1, rfl⟩
  case turn =>
    rintro i I tv m₁ nx it h1 tk1 hi ⟨es, evs, ne, od', kvs', reg', t8, e0, e1, e2, e3, hw, hev, hd2, hr2, hp2, hl2, rfl⟩ hof F1 N1
    have l3 := gnNe_of hof
    simp only [GnNe] at l3
    have l5 : ∀ p ∈ rest, p.1 ≠ _ := fun p hp => hof p (.tail _ (.tail _ hp))
    have hle8 : evs.length = i + 1 := by rw [hev.length, List.length_map, List.length_range]
    obtain ⟨ea, et, hv, hea⟩ := hev.at (i := i) (b := es i) (by simp)
    have hs32 : ea.size = 32 := by
      have e := (hw i (by omega)).len
      rw [← hea, Array.length_toList] at e
      exact e
    rw [see_all [(Str.ofString "hash_of", .ref f), (Str.ofString "held", .ref hl), (Str.ofString "depth", .int 8 t8), (Str.ofString "empty", .ref el)]
      (List.forall_mem_cons.mpr ⟨e0, List.forall_mem_cons.mpr ⟨e1, List.forall_mem_cons.mpr ⟨e2, List.forall_mem_cons.mpr ⟨e3, List.forall_mem_nil _⟩⟩⟩⟩)] at F1
    clear lF lN hr hd lR hr1 hd1 hh1 hp1 hl1
    try (show wpAny _ _ _ _ _ _; k_fold)
    (repeat' (first | (k_unfold; (try dsimp only)) | (k_end; wrow_close) | ((with_reducible show FnAt _ _); k_here; (rename Mine.HashAt _ _ _ => hHash9); k_dflt (exact Mine.HashAt.fnAt hHash9 (by k_asm) (by walk_at "mine sub"))) | ((with_reducible show wpAny _ _ (binaryOp Operator.Add (Value.bytes _ _) (Value.bytes _ _)) _ _ _); k_here; (refine Mine.cat_bytes (by omega) ?_); intro _ _ _ _) | ((with_reducible show wpAny _ _ (call (Value.builtin "dict.get") [Value.ref _, Value.int _ _, Value.bytes _ _]) _ _ _); k_here; k_dflt (refine' Mine.lvl_get ?N ?m ?d ?lo ?ok ?e ?x ?_; (case N => k_asm); (case m => (first | k_mem | walk_at "mine tail")); (case d => k_asm); (case lo => k_asm); (case ok => k_asm); (case e => assumption); (case x => omega)); intro _ _ _ _ _) | ((with_reducible show wpAny _ _ (call (Value.builtin "list.append") [Value.ref _, _]) _ _ _); k_here; k_dflt (refine' Mine.append_L ?k1 ?k2 ?k3 ?_ ?z; (case k1 => k_asm); (case k2 => k_asm); (case k3 => k_upd); (case z => first | omega | (simp; done) | (simp; omega)); k_whole); intro _ _ _; (try k_sweep)) | ((with_reducible show wpAny _ _ (call (Value.ref _) [Value.bytes _ _]) _ _ _); k_here; (rename Mine.HashAt _ _ _ => hHash9); k_dflt (refine' Mine.hashU ?B ?F ?X ?N ?T ?fr ?h1 ?h2 ?h3 ?hk hHash9 ?off ?lo ?U ?sub ?d ?r ?z ?_; (case F => k_asm); (case B => k_asm); (case X => k_asm); (case N => k_asm); (case T => k_asm); (case fr => exact rfl); (case h1 => exact rfl); (case h2 => (first | exact Nat.le_of_ble_eq_true rfl | ((simp only [depth_under_make, depth_in1, depth_deeper, units_under_make, units_in1, units_deeper]); exact Nat.le_of_ble_eq_true rfl))); (case h3 => (first | exact Nat.le_of_ble_eq_true rfl | ((simp only [depth_under_make, depth_in1, depth_deeper, units_under_make, units_in1, units_deeper]); exact Nat.le_of_ble_eq_true rfl))); (case hk => exact rfl); (case off => assumption); (case lo => k_asm); (case U => k_updF); (case sub => walk_at "mine sub"); (case d => k_asm); (case r => k_asm); (case z => omega)); intro _ _ _ _ _ _ _ _ N9' _ _ _ _ h9'; (have _ := Mine.Hs.size h9'); (try dsimp only at N9'); (try k_sweep)) | ((with_reducible show wpAny _ _ (callWith _ (Value.ref _) _ _ _) _ _ _); k_here; (rename Mine.HashAt _ _ _ => hHash9); k_dflt (refine' callWith_F ?k1 ?_; (case k1 => exact Mine.HashAt.fnAt hHash9 (by k_asm) (by walk_at "mine sub")); k_whole)) | ((with_reducible show wpAny _ _ (compareOp CmpOp.NotIn (Value.int _ _) (Value.ref _)) _ _ _); k_here; k_dflt (refine' Mine.lvl_notin ?N ?m ?d ?lo ?_ ?_; (case N => k_asm); (case m => (first | k_mem | walk_at "mine tail")); (case d => k_asm); (case lo => k_asm)) <;> intro _ _) | ((with_reducible show wpAny _ _ (exec (Stmt.For (Expr.Name _ _) (Expr.Name _ _) _ [] _) _) _ _ _); k_here; (rename Mine.Mark => stopMark); (rename Fr _ _ _ _ => lF'); (with_unfolding_all refine' For_invVF lF' ?k1 ?k2 ?_; (case k1 => exact rfl); (case k2 => exact rfl); k_whole)) | ((with_reducible show wpAny _ _ (getMethod (Value.type "int") _ _) _ _ _); k_here; (refine KFB.getm (by k_asm) (by k_asm) (by k_asm) (by k_is) ?_); intro _ _ _ _ l9'; (try k_lt l9'); (try k_sweep)) | ((with_reducible show wpAny _ _ (pyIter (Value.ref _)) _ _ _); k_here; (rename Mine.Mark => stopMark); refine Mine.stop_at ?_) | ((with_reducible show wpAny _ _ (setItem (Value.ref _) (Value.int _ _) _) _ _ _); k_here; k_dflt (refine' kda_set (knd := PySem.intKind _ _) ?F ?N ?U ?d (PySem.intKind_is _ _ _ _) ?z ?_; (case F => k_asm); (case N => k_asm); (case U => k_updF); (case d => k_asm); (case z => rw [sizeLine_eq]; omega)); intro _ _ _ N9' _; (try dsimp only at N9')) | ((with_reducible show wpAny _ _ (subscriptTail _ _ (Value.ref _) (Value.bytes _ _)) _ _ _); k_here; k_dflt (refine kda_item (knd := PySem.W.bytesKind _ _) (by k_asm) (by (first | k_mem | walk_at "mine tail")) (by k_asm) (Mine.bytes_is _ _ _ _) (by first | assumption | exact Mine.valueAt_self) ?_)) | ((with_reducible show wpAny _ _ (subscriptTail (Expr.Name _ _) (Expr.Name _ _) (Value.ref _) (Value.int _ _)) _ _ _); k_here; k_dflt (first | (refine' Mine.item_L ?N ?l ?x ?v ?z ?_; (case N => k_asm); (case l => k_mem); (case v => assumption); (case x => first | rfl | omega); (case z => omega)) | (refine' Mine.item_T ?N ?l ?x ?v ?z ?_; (case N => k_asm); (case l => k_mem); (case v => assumption); (case x => first | rfl | omega); (case z => omega)))) | walk1 | (dsimp only; walk1) | (leave1; walk_say "STEP leave1"; try dsimp only)))
    (rename Fr _ _ _ _ => lF); (rename News _ _ _ _ => lN); (rename RegIs _ _ => hr1); (rename Obj.IsDictOf _ _ _ => hd1); (rename Hs _ _ _ => hh1); (rename List.IsPrefix _ _ => hp1); (rename List.length _ ≤ List.length _ + 1 => hl1); (rename Array.toList _ = _ ++ _ => hcat)
    obtain ⟨od1, hod, hd2⟩ := nameOd hd1
    clear hd1
    subst hod
    have hh2 := hh1
    rw [hcat, hea] at hh2
    refine UnrEnd.intro lF lN ((el, W.listOf (evs ++ [_]).toArray (ne + 1)) :: (r, od1) :: rest) (by walk_at "mine sub") (by k_all) ⟨put es (i + 1) _, _, _, od1, _, _, _, rfl, rfl, rfl, rfl, (hw.mono hp1).snoc hh2, ?g2, hd2, hr1, hp2.trans hp1, by omega, rfl⟩
    case g2 => rw [range_put]; exact hev.append (BsAre.one rfl)
  case done =>
    rintro m₁ nx h1 tk1 ⟨es, evs, ne, od', kvs', reg', t8, e0, e1, e2, e3, hw, hev, hd2, hr2, hp2, hl2, rfl⟩ F1 N1
    have hle8 : evs.length = 9 := by rw [hev.length, List.length_map, List.length_range]
    rw [see_all [(Str.ofString "hash_of", .ref f), (Str.ofString "held", .ref hl), (Str.ofString "depth", .int 8 t8), (Str.ofString "empty", .ref el)]
      (List.forall_mem_cons.mpr ⟨e0, List.forall_mem_cons.mpr ⟨e1, List.forall_mem_cons.mpr ⟨e2, List.forall_mem_cons.mpr ⟨e3, List.forall_mem_nil _⟩⟩⟩⟩)] at F1
    clear lF lN hr hd lR hr1 hd1 hh1 hp1 hl1
    try (show wpAny _ _ _ _ _ _; k_fold)
    (repeat' (first | (k_unfold; (try dsimp only)) | (k_end; wrow_close) | ((with_reducible show FnAt _ _); k_here; (rename Mine.HashAt _ _ _ => hHash9); k_dflt (exact Mine.HashAt.fnAt hHash9 (by k_asm) (by walk_at "mine sub"))) | ((with_reducible show wpAny _ _ (binaryOp Operator.Add (Value.bytes _ _) (Value.bytes _ _)) _ _ _); k_here; (refine Mine.cat_bytes (by omega) ?_); intro _ _ _ _) | ((with_reducible show wpAny _ _ (call (Value.builtin "dict.get") [Value.ref _, Value.int _ _, Value.bytes _ _]) _ _ _); k_here; k_dflt (refine' Mine.lvl_get ?N ?m ?d ?lo ?ok ?e ?x ?_; (case N => k_asm); (case m => (first | k_mem | walk_at "mine tail")); (case d => k_asm); (case lo => k_asm); (case ok => k_asm); (case e => assumption); (case x => omega)); intro _ _ _ _ _) | ((with_reducible show wpAny _ _ (call (Value.builtin "list.append") [Value.ref _, _]) _ _ _); k_here; k_dflt (refine' Mine.append_L ?k1 ?k2 ?k3 ?_ ?z; (case k1 => k_asm); (case k2 => k_asm); (case k3 => k_upd); (case z => first | omega | (simp; done) | (simp; omega)); k_whole); intro _ _ _; (try k_sweep)) | ((with_reducible show wpAny _ _ (call (Value.ref _) [Value.bytes _ _]) _ _ _); k_here; (rename Mine.HashAt _ _ _ => hHash9); k_dflt (refine' Mine.hashU ?B ?F ?X ?N ?T ?fr ?h1 ?h2 ?h3 ?hk hHash9 ?off ?lo ?U ?sub ?d ?r ?z ?_; (case F => k_asm); (case B => k_asm); (case X => k_asm); (case N => k_asm); (case T => k_asm); (case fr => exact rfl); (case h1 => exact rfl); (case h2 => (first | exact Nat.le_of_ble_eq_true rfl | ((simp only [depth_under_make, depth_in1, depth_deeper, units_under_make, units_in1, units_deeper]); exact Nat.le_of_ble_eq_true rfl))); (case h3 => (first | exact Nat.le_of_ble_eq_true rfl | ((simp only [depth_under_make, depth_in1, depth_deeper, units_under_make, units_in1, units_deeper]); exact Nat.le_of_ble_eq_true rfl))); (case hk => exact rfl); (case off => assumption); (case lo => k_asm); (case U => k_updF); (case sub => walk_at "mine sub"); (case d => k_asm); (case r => k_asm); (case z => omega)); intro _ _ _ _ _ _ _ _ N9' _ _ _ _ h9'; (have _ := Mine.Hs.size h9'); (try dsimp only at N9'); (try k_sweep)) | ((with_reducible show wpAny _ _ (callWith _ (Value.ref _) _ _ _) _ _ _); k_here; (rename Mine.HashAt _ _ _ => hHash9); k_dflt (refine' callWith_F ?k1 ?_; (case k1 => exact Mine.HashAt.fnAt hHash9 (by k_asm) (by walk_at "mine sub")); k_whole)) | ((with_reducible show wpAny _ _ (compareOp CmpOp.NotIn (Value.int _ _) (Value.ref _)) _ _ _); k_here; k_dflt (refine' Mine.lvl_notin ?N ?m ?d ?lo ?_ ?_; (case N => k_asm); (case m => (first | k_mem | walk_at "mine tail")); (case d => k_asm); (case lo => k_asm)) <;> intro _ _) | ((with_reducible show wpAny _ _ (exec (Stmt.For (Expr.Name _ _) (Expr.Name _ _) _ [] _) _) _ _ _); k_here; (rename Mine.Mark => stopMark); (rename Fr _ _ _ _ => lF'); (with_unfolding_all refine' For_invVF lF' ?k1 ?k2 ?_; (case k1 => exact rfl); (case k2 => exact rfl); k_whole)) | ((with_reducible show wpAny _ _ (getMethod (Value.type "int") _ _) _ _ _); k_here; (refine KFB.getm (by k_asm) (by k_asm) (by k_asm) (by k_is) ?_); intro _ _ _ _ l9'; (try k_lt l9'); (try k_sweep)) | ((with_reducible show wpAny _ _ (pyIter (Value.ref _)) _ _ _); k_here; (rename Mine.Mark => stopMark); refine Mine.stop_at ?_) | ((with_reducible show wpAny _ _ (setItem (Value.ref _) (Value.int _ _) _) _ _ _); k_here; k_dflt (refine' kda_set (knd := PySem.intKind _ _) ?F ?N ?U ?d (PySem.intKind_is _ _ _ _) ?z ?_; (case F => k_asm); (case N => k_asm); (case U => k_updF); (case d => k_asm); (case z => rw [sizeLine_eq]; omega)); intro _ _ _ N9' _; (try dsimp only at N9')) | ((with_reducible show wpAny _ _ (subscriptTail _ _ (Value.ref _) (Value.bytes _ _)) _ _ _); k_here; k_dflt (refine kda_item (knd := PySem.W.bytesKind _ _) (by k_asm) (by (first | k_mem | walk_at "mine tail")) (by k_asm) (Mine.bytes_is _ _ _ _) (by first | assumption | exact Mine.valueAt_self) ?_)) | ((with_reducible show wpAny _ _ (subscriptTail (Expr.Name _ _) (Expr.Name _ _) (Value.ref _) (Value.int _ _)) _ _ _); k_here; k_dflt (first | (refine' Mine.item_L ?N ?l ?x ?v ?z ?_; (case N => k_asm); (case l => k_mem); (case v => assumption); (case x => first | rfl | omega); (case z => omega)) | (refine' Mine.item_T ?N ?l ?x ?v ?z ?_; (case N => k_asm); (case l => k_mem); (case v => assumption); (case x => first | rfl | omega); (case z => omega)))) | walk1 | (dsimp only; walk1) | (leave1; walk_say "STEP leave1"; try dsimp only)))
    unfold Stop
    (rename Fr _ _ _ _ => lF); (rename News _ _ _ _ => lN); (rename Obj.IsDictOf (PySem.intKind _ _) _ [] => hi0)
    obtain ⟨oi0, hoi, hi1⟩ := nameOd hi0
    clear hi0
    subst hoi
    (rename (_ == sysModules) = false => lo0)
    obtain ⟨lv, hlv, G5, G6⟩ : ∃ lv : Nat, lv = _ ∧ (@LT.lt Nat _ el lv ∧ @LT.lt Nat _ r lv ∧ (∀ p ∈ rest, p.1 < lv)) ∧ (lv == sysModules) = false := ⟨_, rfl, ⟨(‹el < _ ∧ r < _ ∧ AllLt _ rest›).1, (‹el < _ ∧ r < _ ∧ AllLt _ rest›).2.1, all_of_allLt (‹el < _ ∧ r < _ ∧ AllLt _ rest›).2.2⟩, lo0⟩
    subst hlv
    have hee : Emp reg' da.toList 9 es := hw
    refine' loop_keys (od := oh) (kvs := kvh) (knd := bytesKind PySem.Challenge.rw_iu0037_01.row.prog w) (Lv2J w f r hl el lv da.toList kvh reg' evs ne rest) rfl lF lN hh hhlo ?hm ?j0 ?turn ?done
    case hm =>
      rintro i m₁ nx ⟨⟩
      subst_vars
      exact .tail _ (.tail _ (.tail _ hmem))
    case j0 => exact ⟨_, _, _, oi0, [], _, rfl, rfl, rfl, rfl, rfl, hd2, hr2, List.prefix_refl _, by omega, hi1, by simp, Lv0.zero, rfl⟩
    case turn =>
      rintro i I k v kv m₁ nx it h1 tk1 hk hkv ⟨od', kvs', reg'', ol, kl, t8, e0, e1, e2, e3, e4, hd3, hr3, hp3, hl3, hol, hkl, h0, rfl⟩ hof F1 N1
      obtain ⟨u, vb, tv, ek⟩ := hok.ok _ (List.mem_of_getElem? hk)
      obtain ⟨rfl, rfl⟩ := Prod.mk.inj ek
      obtain ⟨kb, tkb, rfl, hkb⟩ := isBytes_of hkv
      obtain rfl : kb = #[u] := Array.toList_inj.mp hkb
      have hval : valueAt kvh [u] = some (.bytes vb tv) := valueAt_of_get hok.nodup hk
      have hi20 := (List.getElem?_eq_some_iff.mp hk).1
      have l3 := gnNe_of hof
      simp only [GnNe] at l3
      have l5 : ∀ p ∈ rest, p.1 ≠ _ := fun p hp => hof p (.tail _ (.tail _ (.tail _ hp)))
      rw [see_all [(Str.ofString "hash_of", .ref f), (Str.ofString "held", .ref hl), (Str.ofString "depth", .int 8 t8), (Str.ofString "empty", .ref el), (Str.ofString "level", .ref lv)]
        (List.forall_mem_cons.mpr ⟨e0, List.forall_mem_cons.mpr ⟨e1, List.forall_mem_cons.mpr ⟨e2, List.forall_mem_cons.mpr ⟨e3, List.forall_mem_cons.mpr ⟨e4, List.forall_mem_nil _⟩⟩⟩⟩⟩)] at F1
      clear lF lN hd2 hr2 hi1
      try (show wpAny _ _ _ _ _ _; k_fold)
      (repeat' (first | (k_unfold; (try dsimp only)) | (k_end; wrow_close) | ((with_reducible show FnAt _ _); k_here; (rename Mine.HashAt _ _ _ => hHash9); k_dflt (exact Mine.HashAt.fnAt hHash9 (by k_asm) (by walk_at "mine sub"))) | ((with_reducible show wpAny _ _ (binaryOp Operator.Add (Value.bytes _ _) (Value.bytes _ _)) _ _ _); k_here; (refine Mine.cat_bytes (by omega) ?_); intro _ _ _ _) | ((with_reducible show wpAny _ _ (call (Value.builtin "dict.get") [Value.ref _, Value.int _ _, Value.bytes _ _]) _ _ _); k_here; k_dflt (refine' Mine.lvl_get ?N ?m ?d ?lo ?ok ?e ?x ?_; (case N => k_asm); (case m => (first | k_mem | walk_at "mine tail")); (case d => k_asm); (case lo => k_asm); (case ok => k_asm); (case e => assumption); (case x => omega)); intro _ _ _ _ _) | ((with_reducible show wpAny _ _ (call (Value.builtin "list.append") [Value.ref _, _]) _ _ _); k_here; k_dflt (refine' Mine.append_L ?k1 ?k2 ?k3 ?_ ?z; (case k1 => k_asm); (case k2 => k_asm); (case k3 => k_upd); (case z => first | omega | (simp; done) | (simp; omega)); k_whole); intro _ _ _; (try k_sweep)) | ((with_reducible show wpAny _ _ (call (Value.ref _) [Value.bytes _ _]) _ _ _); k_here; (rename Mine.HashAt _ _ _ => hHash9); k_dflt (refine' Mine.hashU ?B ?F ?X ?N ?T ?fr ?h1 ?h2 ?h3 ?hk hHash9 ?off ?lo ?U ?sub ?d ?r ?z ?_; (case F => k_asm); (case B => k_asm); (case X => k_asm); (case N => k_asm); (case T => k_asm); (case fr => exact rfl); (case h1 => exact rfl); (case h2 => (first | exact Nat.le_of_ble_eq_true rfl | ((simp only [depth_under_make, depth_in1, depth_deeper, units_under_make, units_in1, units_deeper]); exact Nat.le_of_ble_eq_true rfl))); (case h3 => (first | exact Nat.le_of_ble_eq_true rfl | ((simp only [depth_under_make, depth_in1, depth_deeper, units_under_make, units_in1, units_deeper]); exact Nat.le_of_ble_eq_true rfl))); (case hk => exact rfl); (case off => assumption); (case lo => k_asm); (case U => k_updF); (case sub => walk_at "mine sub"); (case d => k_asm); (case r => k_asm); (case z => omega)); intro _ _ _ _ _ _ _ _ N9' _ _ _ _ h9'; (have _ := Mine.Hs.size h9'); (try dsimp only at N9'); (try k_sweep)) | ((with_reducible show wpAny _ _ (callWith _ (Value.ref _) _ _ _) _ _ _); k_here; (rename Mine.HashAt _ _ _ => hHash9); k_dflt (refine' callWith_F ?k1 ?_; (case k1 => exact Mine.HashAt.fnAt hHash9 (by k_asm) (by walk_at "mine sub")); k_whole)) | ((with_reducible show wpAny _ _ (compareOp CmpOp.NotIn (Value.int _ _) (Value.ref _)) _ _ _); k_here; k_dflt (refine' Mine.lvl_notin ?N ?m ?d ?lo ?_ ?_; (case N => k_asm); (case m => (first | k_mem | walk_at "mine tail")); (case d => k_asm); (case lo => k_asm)) <;> intro _ _) | ((with_reducible show wpAny _ _ (exec (Stmt.For (Expr.Name _ _) (Expr.Name _ _) _ [] _) _) _ _ _); k_here; (rename Mine.Mark => stopMark); (rename Fr _ _ _ _ => lF'); (with_unfolding_all refine' For_invVF lF' ?k1 ?k2 ?_; (case k1 => exact rfl); (case k2 => exact rfl); k_whole)) | ((with_reducible show wpAny _ _ (getMethod (Value.type "int") _ _) _ _ _); k_here; (refine KFB.getm (by k_asm) (by k_asm) (by k_asm) (by k_is) ?_); intro _ _ _ _ l9'; (try k_lt l9'); (try k_sweep)) | ((with_reducible show wpAny _ _ (pyIter (Value.ref _)) _ _ _); k_here; (rename Mine.Mark => stopMark); refine Mine.stop_at ?_) | ((with_reducible show wpAny _ _ (setItem (Value.ref _) (Value.int _ _) _) _ _ _); k_here; k_dflt (refine' kda_set (knd := PySem.intKind _ _) ?F ?N ?U ?d (PySem.intKind_is _ _ _ _) ?z ?_; (case F => k_asm); (case N => k_asm); (case U => k_updF); (case d => k_asm); (case z => rw [sizeLine_eq]; omega)); intro _ _ _ N9' _; (try dsimp only at N9')) | ((with_reducible show wpAny _ _ (subscriptTail _ _ (Value.ref _) (Value.bytes _ _)) _ _ _); k_here; k_dflt (refine kda_item (knd := PySem.W.bytesKind _ _) (by k_asm) (by (first | k_mem | walk_at "mine tail")) (by k_asm) (Mine.bytes_is _ _ _ _) (by first | assumption | exact Mine.valueAt_self) ?_)) | ((with_reducible show wpAny _ _ (subscriptTail (Expr.Name _ _) (Expr.Name _ _) (Value.ref _) (Value.int _ _)) _ _ _); k_here; k_dflt (first | (refine' Mine.item_L ?N ?l ?x ?v ?z ?_; (case N => k_asm); (case l => k_mem); (case v => assumption); (case x => first | rfl | omega); (case z => omega)) | (refine' Mine.item_T ?N ?l ?x ?v ?z ?_; (case N => k_asm); (case l => k_mem); (case v => assumption); (case x => first | rfl | omega); (case z => omega)))) | walk1 | (dsimp only; walk1) | (leave1; walk_say "STEP leave1"; try dsimp only)))
      (rename Fr _ _ _ _ => lF); (rename News _ _ _ _ => lN); (rename RegIs _ _ => hr1); (rename Obj.IsDictOf _ _ (stored _ _ _) => hiX); (rename Hs _ _ _ => hh1); (rename List.IsPrefix _ _ => hp1); (rename List.length _ ≤ List.length _ + 1 => hl1)
      obtain ⟨oi1, hoi, hi1⟩ := nameOd hiX
      clear hiX
      subst hoi
      revert hi1
      (rename Obj.IsDictOf (bytesKind _ _) _ _ => hdX)
      obtain ⟨od1, hod, hd1⟩ := nameOd hdX
      clear hdX
      subst hod
      intro hi1
      rw [show (0 * 256 + (u.toNat : Int)) = (u.toNat : Int) by omega] at hi1
      refine UnrEnd.intro lF lN ((lv, oi1) :: (el, W.listOf evs.toArray ne) :: (r, od1) :: rest) (by walk_at "mine sub") (by k_all)
        ⟨od1, _, _, oi1, _, _, rfl, rfl, rfl, rfl, rfl, hd1, hr1, hp3.trans hp1, by omega, hi1, Nat.le_trans (stored_length_le _ _ _) (by omega), h0.step hok hp1 hk hh1, rfl⟩
    case done =>
      rintro m₁ nx h1 tk1 ⟨od', kvs', reg'', ol, kl, t8, e0, e1, e2, e3, e4, hd3, hr3, hp3, hl3, hol, hkl, h0, rfl⟩ F1 N1
      rw [see_all [(Str.ofString "hash_of", .ref f), (Str.ofString "depth", .int 8 t8), (Str.ofString "empty", .ref el), (Str.ofString "level", .ref lv)]
        (List.forall_mem_cons.mpr ⟨e0, List.forall_mem_cons.mpr ⟨e2, List.forall_mem_cons.mpr ⟨e3, List.forall_mem_cons.mpr ⟨e4, List.forall_mem_nil _⟩⟩⟩⟩)] at F1
      clear lF lN hd2 hr2 hi1
      try (show wpAny _ _ _ _ _ _; k_fold)
      (repeat' (first | (k_unfold; (try dsimp only)) | (k_end; wrow_close) | ((with_reducible show FnAt _ _); k_here; (rename Mine.HashAt _ _ _ => hHash9); k_dflt (exact Mine.HashAt.fnAt hHash9 (by k_asm) (by walk_at "mine sub"))) | ((with_reducible show wpAny _ _ (binaryOp Operator.Add (Value.bytes _ _) (Value.bytes _ _)) _ _ _); k_here; (refine Mine.cat_bytes (by omega) ?_); intro _ _ _ _) | ((with_reducible show wpAny _ _ (call (Value.builtin "dict.get") [Value.ref _, Value.int _ _, Value.bytes _ _]) _ _ _); k_here; k_dflt (refine' Mine.lvl_get ?N ?m ?d ?lo ?ok ?e ?x ?_; (case N => k_asm); (case m => (first | k_mem | walk_at "mine tail")); (case d => k_asm); (case lo => k_asm); (case ok => k_asm); (case e => assumption); (case x => omega)); intro _ _ _ _ _) | ((with_reducible show wpAny _ _ (call (Value.builtin "list.append") [Value.ref _, _]) _ _ _); k_here; k_dflt (refine' Mine.append_L ?k1 ?k2 ?k3 ?_ ?z; (case k1 => k_asm); (case k2 => k_asm); (case k3 => k_upd); (case z => first | omega | (simp; done) | (simp; omega)); k_whole); intro _ _ _; (try k_sweep)) | ((with_reducible show wpAny _ _ (call (Value.ref _) [Value.bytes _ _]) _ _ _); k_here; (rename Mine.HashAt _ _ _ => hHash9); k_dflt (refine' Mine.hashU ?B ?F ?X ?N ?T ?fr ?h1 ?h2 ?h3 ?hk hHash9 ?off ?lo ?U ?sub ?d ?r ?z ?_; (case F => k_asm); (case B => k_asm); (case X => k_asm); (case N => k_asm); (case T => k_asm); (case fr => exact rfl); (case h1 => exact rfl); (case h2 => (first | exact Nat.le_of_ble_eq_true rfl | ((simp only [depth_under_make, depth_in1, depth_deeper, units_under_make, units_in1, units_deeper]); exact Nat.le_of_ble_eq_true rfl))); (case h3 => (first | exact Nat.le_of_ble_eq_true rfl | ((simp only [depth_under_make, depth_in1, depth_deeper, units_under_make, units_in1, units_deeper]); exact Nat.le_of_ble_eq_true rfl))); (case hk => exact rfl); (case off => assumption); (case lo => k_asm); (case U => k_updF); (case sub => walk_at "mine sub"); (case d => k_asm); (case r => k_asm); (case z => omega)); intro _ _ _ _ _ _ _ _ N9' _ _ _ _ h9'; (have _ := Mine.Hs.size h9'); (try dsimp only at N9'); (try k_sweep)) | ((with_reducible show wpAny _ _ (callWith _ (Value.ref _) _ _ _) _ _ _); k_here; (rename Mine.HashAt _ _ _ => hHash9); k_dflt (refine' callWith_F ?k1 ?_; (case k1 => exact Mine.HashAt.fnAt hHash9 (by k_asm) (by walk_at "mine sub")); k_whole)) | ((with_reducible show wpAny _ _ (compareOp CmpOp.NotIn (Value.int _ _) (Value.ref _)) _ _ _); k_here; k_dflt (refine' Mine.lvl_notin ?N ?m ?d ?lo ?_ ?_; (case N => k_asm); (case m => (first | k_mem | walk_at "mine tail")); (case d => k_asm); (case lo => k_asm)) <;> intro _ _) | ((with_reducible show wpAny _ _ (exec (Stmt.For (Expr.Name _ _) (Expr.Name _ _) _ [] _) _) _ _ _); k_here; (rename Mine.Mark => stopMark); (rename Fr _ _ _ _ => lF'); (with_unfolding_all refine' For_invVF lF' ?k1 ?k2 ?_; (case k1 => exact rfl); (case k2 => exact rfl); k_whole)) | ((with_reducible show wpAny _ _ (getMethod (Value.type "int") _ _) _ _ _); k_here; (refine KFB.getm (by k_asm) (by k_asm) (by k_asm) (by k_is) ?_); intro _ _ _ _ l9'; (try k_lt l9'); (try k_sweep)) | ((with_reducible show wpAny _ _ (pyIter (Value.ref _)) _ _ _); k_here; (rename Mine.Mark => stopMark); refine Mine.stop_at ?_) | ((with_reducible show wpAny _ _ (setItem (Value.ref _) (Value.int _ _) _) _ _ _); k_here; k_dflt (refine' kda_set (knd := PySem.intKind _ _) ?F ?N ?U ?d (PySem.intKind_is _ _ _ _) ?z ?_; (case F => k_asm); (case N => k_asm); (case U => k_updF); (case d => k_asm); (case z => rw [sizeLine_eq]; omega)); intro _ _ _ N9' _; (try dsimp only at N9')) | ((with_reducible show wpAny _ _ (subscriptTail _ _ (Value.ref _) (Value.bytes _ _)) _ _ _); k_here; k_dflt (refine kda_item (knd := PySem.W.bytesKind _ _) (by k_asm) (by (first | k_mem | walk_at "mine tail")) (by k_asm) (Mine.bytes_is _ _ _ _) (by first | assumption | exact Mine.valueAt_self) ?_)) | ((with_reducible show wpAny _ _ (subscriptTail (Expr.Name _ _) (Expr.Name _ _) (Value.ref _) (Value.int _ _)) _ _ _); k_here; k_dflt (first | (refine' Mine.item_L ?N ?l ?x ?v ?z ?_; (case N => k_asm); (case l => k_mem); (case v => assumption); (case x => first | rfl | omega); (case z => omega)) | (refine' Mine.item_T ?N ?l ?x ?v ?z ?_; (case N => k_asm); (case l => k_mem); (case v => assumption); (case x => first | rfl | omega); (case z => omega)))) | walk1 | (dsimp only; walk1) | (leave1; walk_say "STEP leave1"; try dsimp only)))
      unfold Stop
      (rename Fr _ _ _ _ => lF); (rename News _ _ _ _ => lN); (rename IsRange _ _ _ _ _ _ _ _ => lR)
      obtain ⟨ll, hll, K5, K6⟩ : ∃ ll : Nat, ll = _ ∧ @LT.lt Nat _ el ll ∧ (∀ p ∈ rest, p.1 < ll) := ⟨_, rfl, (‹lv < _ ∧ el < _ ∧ r < _ ∧ AllLt _ rest›).2.1, all_of_allLt (‹lv < _ ∧ el < _ ∧ r < _ ∧ AllLt _ rest›).2.2.2⟩
      subst hll
      refine' loop_range (n := 8) (Lv3J w f r el ll kvh da.toList es evs ne reg'' rest) rfl lR (by decide) (by decide) lF lN ?j0 ?turn ?done
      case j0 => exact ⟨lv, ol, fun _ => kl, [lv], 0, [], _, _, _, rfl, rfl, rfl, rfl, G5.1, List.forall_mem_nil _, fun p hp => Nat.ne_of_lt (K6 p hp), hd3, hr3, List.prefix_refl _, by omega, .zero G6 hol h0 hok ((hee 0 (by omega)).mono hp3), by omega, G6, hol, h0.ok, rfl⟩
      case turn =>
        rintro i I tv m₁ nx it h1 tk1 hi ⟨cur, oc, kk, ds, nl, old, od', kvs', reg4, e0, e1, e2, e3, g1, g2, g3, hd4, hr4, hp4, hl4, LV, hkz, lo4, hcd, hck, rfl⟩ hof F1 N1
        have hoffT : ∀ p ∈ old ++ rest, p.1 ≠ r := forall_app (fun p hp => Nat.ne_of_gt (Nat.lt_trans F5 (g2 p hp))) hoff
        have hT2 : HashAt (old ++ rest) f r := HashAt.mono ‹HashAt rest f r› fun p hp => List.mem_append_right _ hp
        generalize htl : old ++ rest = tl at g3 hof N1 hoffT hT2
        have l3 := gnNe_of hof
        simp only [GnNe] at l3
        have l5 : ∀ p ∈ tl, p.1 ≠ _ := fun p hp => hof p (.tail _ (.tail _ (.tail _ (.tail _ hp))))
        obtain ⟨ea, et, hv, hea⟩ := hev.at (i := i) (b := es i) (by rw [List.getElem?_map, List.getElem?_range (by omega)]; rfl)
        have hs32 : ea.size = 32 := by
          have e := (hee i (by omega)).len
          rw [← hea, Array.length_toList] at e
          exact e
        have hdl : ds.length = i + 1 := LV.dl
        rw [see_all [(Str.ofString "hash_of", .ref f), (Str.ofString "empty", .ref el), (Str.ofString "level", .ref cur), (Str.ofString "levels", .ref ll)]
          (List.forall_mem_cons.mpr ⟨e0, List.forall_mem_cons.mpr ⟨e1, List.forall_mem_cons.mpr ⟨e2, List.forall_mem_cons.mpr ⟨e3, List.forall_mem_nil _⟩⟩⟩⟩)] at F1
        clear lF lN hd3 hr3 hol lR
        try (show wpAny _ _ _ _ _ _; k_fold)
        (repeat' (first | (k_unfold; (try dsimp only)) | (k_end; wrow_close) | ((with_reducible show FnAt _ _); k_here; (rename Mine.HashAt _ _ _ => hHash9); k_dflt (exact Mine.HashAt.fnAt hHash9 (by k_asm) (by walk_at "mine sub"))) | ((with_reducible show wpAny _ _ (binaryOp Operator.Add (Value.bytes _ _) (Value.bytes _ _)) _ _ _); k_here; (refine Mine.cat_bytes (by omega) ?_); intro _ _ _ _) | ((with_reducible show wpAny _ _ (call (Value.builtin "dict.get") [Value.ref _, Value.int _ _, Value.bytes _ _]) _ _ _); k_here; k_dflt (refine' Mine.lvl_get ?N ?m ?d ?lo ?ok ?e ?x ?_; (case N => k_asm); (case m => (first | k_mem | walk_at "mine tail")); (case d => k_asm); (case lo => k_asm); (case ok => k_asm); (case e => assumption); (case x => omega)); intro _ _ _ _ _) | ((with_reducible show wpAny _ _ (call (Value.builtin "list.append") [Value.ref _, _]) _ _ _); k_here; k_dflt (refine' Mine.append_L ?k1 ?k2 ?k3 ?_ ?z; (case k1 => k_asm); (case k2 => k_asm); (case k3 => k_upd); (case z => first | omega | (simp; done) | (simp; omega)); k_whole); intro _ _ _; (try k_sweep)) | ((with_reducible show wpAny _ _ (call (Value.ref _) [Value.bytes _ _]) _ _ _); k_here; (rename Mine.HashAt _ _ _ => hHash9); k_dflt (refine' Mine.hashU ?B ?F ?X ?N ?T ?fr ?h1 ?h2 ?h3 ?hk hHash9 ?off ?lo ?U ?sub ?d ?r ?z ?_; (case F => k_asm); (case B => k_asm); (case X => k_asm); (case N => k_asm); (case T => k_asm); (case fr => exact rfl); (case h1 => exact rfl); (case h2 => (first | exact Nat.le_of_ble_eq_true rfl | ((simp only [depth_under_make, depth_in1, depth_deeper, units_under_make, units_in1, units_deeper]); exact Nat.le_of_ble_eq_true rfl))); (case h3 => (first | exact Nat.le_of_ble_eq_true rfl | ((simp only [depth_under_make, depth_in1, depth_deeper, units_under_make, units_in1, units_deeper]); exact Nat.le_of_ble_eq_true rfl))); (case hk => exact rfl); (case off => assumption); (case lo => k_asm); (case U => k_updF); (case sub => walk_at "mine sub"); (case d => k_asm); (case r => k_asm); (case z => omega)); intro _ _ _ _ _ _ _ _ N9' _ _ _ _ h9'; (have _ := Mine.Hs.size h9'); (try dsimp only at N9'); (try k_sweep)) | ((with_reducible show wpAny _ _ (callWith _ (Value.ref _) _ _ _) _ _ _); k_here; (rename Mine.HashAt _ _ _ => hHash9); k_dflt (refine' callWith_F ?k1 ?_; (case k1 => exact Mine.HashAt.fnAt hHash9 (by k_asm) (by walk_at "mine sub")); k_whole)) | ((with_reducible show wpAny _ _ (compareOp CmpOp.NotIn (Value.int _ _) (Value.ref _)) _ _ _); k_here; k_dflt (refine' Mine.lvl_notin ?N ?m ?d ?lo ?_ ?_; (case N => k_asm); (case m => (first | k_mem | walk_at "mine tail")); (case d => k_asm); (case lo => k_asm)) <;> intro _ _) | ((with_reducible show wpAny _ _ (exec (Stmt.For (Expr.Name _ _) (Expr.Name _ _) _ [] _) _) _ _ _); k_here; (rename Mine.Mark => stopMark); (rename Fr _ _ _ _ => lF'); (with_unfolding_all refine' For_invVF lF' ?k1 ?k2 ?_; (case k1 => exact rfl); (case k2 => exact rfl); k_whole)) | ((with_reducible show wpAny _ _ (getMethod (Value.type "int") _ _) _ _ _); k_here; (refine KFB.getm (by k_asm) (by k_asm) (by k_asm) (by k_is) ?_); intro _ _ _ _ l9'; (try k_lt l9'); (try k_sweep)) | ((with_reducible show wpAny _ _ (pyIter (Value.ref _)) _ _ _); k_here; (rename Mine.Mark => stopMark); refine Mine.stop_at ?_) | ((with_reducible show wpAny _ _ (setItem (Value.ref _) (Value.int _ _) _) _ _ _); k_here; k_dflt (refine' kda_set (knd := PySem.intKind _ _) ?F ?N ?U ?d (PySem.intKind_is _ _ _ _) ?z ?_; (case F => k_asm); (case N => k_asm); (case U => k_updF); (case d => k_asm); (case z => rw [sizeLine_eq]; omega)); intro _ _ _ N9' _; (try dsimp only at N9')) | ((with_reducible show wpAny _ _ (subscriptTail _ _ (Value.ref _) (Value.bytes _ _)) _ _ _); k_here; k_dflt (refine kda_item (knd := PySem.W.bytesKind _ _) (by k_asm) (by (first | k_mem | walk_at "mine tail")) (by k_asm) (Mine.bytes_is _ _ _ _) (by first | assumption | exact Mine.valueAt_self) ?_)) | ((with_reducible show wpAny _ _ (subscriptTail (Expr.Name _ _) (Expr.Name _ _) (Value.ref _) (Value.int _ _)) _ _ _); k_here; k_dflt (first | (refine' Mine.item_L ?N ?l ?x ?v ?z ?_; (case N => k_asm); (case l => k_mem); (case v => assumption); (case x => first | rfl | omega); (case z => omega)) | (refine' Mine.item_T ?N ?l ?x ?v ?z ?_; (case N => k_asm); (case l => k_mem); (case v => assumption); (case x => first | rfl | omega); (case z => omega)))) | walk1 | (dsimp only; walk1) | (leave1; walk_say "STEP leave1"; try dsimp only)))
        unfold Stop
        (rename Fr _ _ _ _ => lF); (rename News _ _ _ _ => lN); (rename Obj.IsDictOf (PySem.intKind _ _) _ [] => hi0); (rename (_ == sysModules) = false => lo5)
        obtain ⟨oi0, hoi, hi1⟩ := nameOd hi0
        clear hi0
        subst hoi
        obtain ⟨ab, hab, K7⟩ : ∃ ab : Nat, ab = _ ∧ (@LT.lt Nat _ ll ab ∧ @LT.lt Nat _ cur ab ∧ @LT.lt Nat _ el ab ∧ @LT.lt Nat _ r ab ∧ (∀ p ∈ tl, p.1 < ab)) := ⟨_, rfl, (‹I < _ ∧ ll < _ ∧ cur < _ ∧ el < _ ∧ r < _ ∧ AllLt _ tl›).2.1, (‹I < _ ∧ ll < _ ∧ cur < _ ∧ el < _ ∧ r < _ ∧ AllLt _ tl›).2.2.1, (‹I < _ ∧ ll < _ ∧ cur < _ ∧ el < _ ∧ r < _ ∧ AllLt _ tl›).2.2.2.1, (‹I < _ ∧ ll < _ ∧ cur < _ ∧ el < _ ∧ r < _ ∧ AllLt _ tl›).2.2.2.2.1, all_of_allLt (‹I < _ ∧ ll < _ ∧ cur < _ ∧ el < _ ∧ r < _ ∧ AllLt _ tl›).2.2.2.2.2⟩
        subst hab
        refine' loop_keys (od := oc) (kvs := kk i) (knd := intKind PySem.Challenge.rw_iu0037_01.row.prog w) (Lv4J w f r el ll cur ab oc (kk i) i (es i) (ds.map Value.ref) evs nl ne reg4 ((I, it) :: tl)) rfl lF (cb_drop lN ?subA) hcd lo4 ?hmA ?j0A ?turnA ?doneA
        case hmA =>
          rintro i m₁ nx ⟨⟩
          subst_vars
          exact .tail _ (.tail _ (.head _))
        case j0A => exact ⟨_, _, _, oi0, [], _, rfl, rfl, rfl, rfl, rfl, some_int rfl (by omega), hd4, hr4, List.prefix_refl _, by omega, hi1, by simp, Abv.zero, rfl⟩
        case subA => walk_at "mine sub"
        case turnA =>
          rintro j J x v kv m₁ nx it h1 tk1 hk hkv ⟨od', kvs', reg5, oa, ka, t5, e0, e1, e2, e3, e4, e5, hd5, hr5, hp5, hl5, hoa, hka, h0, rfl⟩ hof F1 N1
          obtain ⟨tx, rfl⟩ := isInt_of hkv
          have hkey := hck.key _ (List.mem_of_getElem? hk)
          obtain ⟨c, rfl⟩ := Int.eq_ofNat_of_zero_le hkey.1
          have hc2 : c < 2 ^ (8 - i) := Int.ofNat_lt.mp hkey.2
          have hj20 := (List.getElem?_eq_some_iff.mp hk).1
          have hfm := fmod_two c
          have hfd := fdiv_two c
          have hx0 : 0 ≤ (c : Int) - ((c : Int)).fmod 2 := fmod_le c
          have hx1 : 0 ≤ (c : Int) - ((c : Int)).fmod 2 + 1 := Int.le_add_one hx0
          have l3 := gnNe_of hof
          simp only [GnNe] at l3
          have l5 : ∀ p ∈ tl, p.1 ≠ _ := fun p hp => hof p (.tail _ (.tail _ (.tail _ (.tail _ (.tail _ (.tail _ hp))))))
          obtain ⟨K8, K9, K10, K11, K12⟩ := K7
          rw [see_all [(Str.ofString "hash_of", .ref f), (Str.ofString "empty", .ref el), (Str.ofString "level", .ref cur), (Str.ofString "levels", .ref ll), (Str.ofString "above", .ref ab), (Str.ofString "k", .int (i : Int) t5)]
            (List.forall_mem_cons.mpr ⟨e0, List.forall_mem_cons.mpr ⟨e1, List.forall_mem_cons.mpr ⟨e2, List.forall_mem_cons.mpr ⟨e3, List.forall_mem_cons.mpr ⟨e4, List.forall_mem_cons.mpr ⟨e5, List.forall_mem_nil _⟩⟩⟩⟩⟩⟩)] at F1
          clear lF lN hi1 hd4 hr4 LV
          have hc9 : (c : Int) < 1000 := Int.ofNat_lt.mpr (Nat.lt_of_lt_of_le hc2 (Nat.le_trans (Nat.pow_le_pow_right (by decide) (Nat.sub_le 8 i)) (by decide)))
          (repeat' (first | (k_unfold; (try dsimp only)) | (k_end; wrow_close) | ((with_reducible show FnAt _ _); k_here; (rename Mine.HashAt _ _ _ => hHash9); k_dflt (exact Mine.HashAt.fnAt hHash9 (by k_asm) (by walk_at "mine sub"))) | ((with_reducible show wpAny _ _ (binaryOp Operator.Add (Value.bytes _ _) (Value.bytes _ _)) _ _ _); k_here; (refine Mine.cat_bytes (by omega) ?_); intro _ _ _ _) | ((with_reducible show wpAny _ _ (call (Value.builtin "dict.get") [Value.ref _, Value.int _ _, Value.bytes _ _]) _ _ _); k_here; k_dflt (refine' Mine.lvl_get ?N ?m ?d ?lo ?ok ?e ?x ?_; (case N => k_asm); (case m => (first | k_mem | walk_at "mine tail")); (case d => k_asm); (case lo => k_asm); (case ok => k_asm); (case e => assumption); (case x => omega)); intro _ _ _ _ _) | ((with_reducible show wpAny _ _ (call (Value.builtin "list.append") [Value.ref _, _]) _ _ _); k_here; k_dflt (refine' Mine.append_L ?k1 ?k2 ?k3 ?_ ?z; (case k1 => k_asm); (case k2 => k_asm); (case k3 => k_upd); (case z => first | omega | (simp; done) | (simp; omega)); k_whole); intro _ _ _; (try k_sweep)) | ((with_reducible show wpAny _ _ (call (Value.ref _) [Value.bytes _ _]) _ _ _); k_here; (rename Mine.HashAt _ _ _ => hHash9); k_dflt (refine' Mine.hashU ?B ?F ?X ?N ?T ?fr ?h1 ?h2 ?h3 ?hk hHash9 ?off ?lo ?U ?sub ?d ?r ?z ?_; (case F => k_asm); (case B => k_asm); (case X => k_asm); (case N => k_asm); (case T => k_asm); (case fr => exact rfl); (case h1 => exact rfl); (case h2 => (first | exact Nat.le_of_ble_eq_true rfl | ((simp only [depth_under_make, depth_in1, depth_deeper, units_under_make, units_in1, units_deeper]); exact Nat.le_of_ble_eq_true rfl))); (case h3 => (first | exact Nat.le_of_ble_eq_true rfl | ((simp only [depth_under_make, depth_in1, depth_deeper, units_under_make, units_in1, units_deeper]); exact Nat.le_of_ble_eq_true rfl))); (case hk => exact rfl); (case off => assumption); (case lo => k_asm); (case U => k_updF); (case sub => walk_at "mine sub"); (case d => k_asm); (case r => k_asm); (case z => omega)); intro _ _ _ _ _ _ _ _ N9' _ _ _ _ h9'; (have _ := Mine.Hs.size h9'); (try dsimp only at N9'); (try k_sweep)) | ((with_reducible show wpAny _ _ (callWith _ (Value.ref _) _ _ _) _ _ _); k_here; (rename Mine.HashAt _ _ _ => hHash9); k_dflt (refine' callWith_F ?k1 ?_; (case k1 => exact Mine.HashAt.fnAt hHash9 (by k_asm) (by walk_at "mine sub")); k_whole)) | ((with_reducible show wpAny _ _ (compareOp CmpOp.NotIn (Value.int _ _) (Value.ref _)) _ _ _); k_here; k_dflt (refine' Mine.lvl_notin ?N ?m ?d ?lo ?_ ?_; (case N => k_asm); (case m => (first | k_mem | walk_at "mine tail")); (case d => k_asm); (case lo => k_asm)) <;> intro _ _) | ((with_reducible show wpAny _ _ (exec (Stmt.For (Expr.Name _ _) (Expr.Name _ _) _ [] _) _) _ _ _); k_here; (rename Mine.Mark => stopMark); (rename Fr _ _ _ _ => lF'); (with_unfolding_all refine' For_invVF lF' ?k1 ?k2 ?_; (case k1 => exact rfl); (case k2 => exact rfl); k_whole)) | ((with_reducible show wpAny _ _ (getMethod (Value.type "int") _ _) _ _ _); k_here; (refine KFB.getm (by k_asm) (by k_asm) (by k_asm) (by k_is) ?_); intro _ _ _ _ l9'; (try k_lt l9'); (try k_sweep)) | ((with_reducible show wpAny _ _ (pyIter (Value.ref _)) _ _ _); k_here; (rename Mine.Mark => stopMark); refine Mine.stop_at ?_) | ((with_reducible show wpAny _ _ (setItem (Value.ref _) (Value.int _ _) _) _ _ _); k_here; k_dflt (refine' kda_set (knd := PySem.intKind _ _) ?F ?N ?U ?d (PySem.intKind_is _ _ _ _) ?z ?_; (case F => k_asm); (case N => k_asm); (case U => k_updF); (case d => k_asm); (case z => rw [sizeLine_eq]; omega)); intro _ _ _ N9' _; (try dsimp only at N9')) | ((with_reducible show wpAny _ _ (subscriptTail _ _ (Value.ref _) (Value.bytes _ _)) _ _ _); k_here; k_dflt (refine kda_item (knd := PySem.W.bytesKind _ _) (by k_asm) (by (first | k_mem | walk_at "mine tail")) (by k_asm) (Mine.bytes_is _ _ _ _) (by first | assumption | exact Mine.valueAt_self) ?_)) | ((with_reducible show wpAny _ _ (subscriptTail (Expr.Name _ _) (Expr.Name _ _) (Value.ref _) (Value.int _ _)) _ _ _); k_here; k_dflt (first | (refine' Mine.item_L ?N ?l ?x ?v ?z ?_; (case N => k_asm); (case l => k_mem); (case v => assumption); (case x => first | rfl | omega); (case z => omega)) | (refine' Mine.item_T ?N ?l ?x ?v ?z ?_; (case N => k_asm); (case l => k_mem); (case v => assumption); (case x => first | rfl | omega); (case z => omega)))) | walk1 | (dsimp only; walk1) | (leave1; walk_say "STEP leave1"; try dsimp only)))
          · (rename Fr _ _ _ _ => lF); (rename News _ _ _ _ => lN); (rename RegIs _ _ => hr1); (rename Obj.IsDictOf _ _ (stored _ _ _) => hiX); (rename Hs _ _ _ => hh1); (rename List.IsPrefix _ _ => hp1); (rename List.length _ ≤ List.length _ + 1 => hl1)
            (rename Array.toList _ = _ ++ _ => hcat); (rename Array.toList _ = lvAt _ _ _ => hg2)
            rw [hcat, hg2] at hh1
            clear hg2
            (rename Array.toList _ = lvAt _ _ _ => hg1)
            rw [hg1, hea, toNat_low, toNat_low1] at hh1
            obtain ⟨oa1, hoi, hi1⟩ := nameOd hiX
            clear hiX
            subst hoi
            rw [hfd] at hi1
            revert hi1
            (rename Obj.IsDictOf (bytesKind _ _) _ _ => hdX)
            obtain ⟨od1, hod, hd1⟩ := nameOd hdX
            clear hdX
            subst hod
            intro hi1
            have hc7 : c / 2 < 2 ^ (7 - i) := Nat.div_lt_of_lt_mul (by rw [← pow_half hi]; exact hc2)
            refine UnrEnd.intro lF lN ((ab, oa1) :: (ll, W.listOf (ds.map Value.ref).toArray nl) :: (cur, oc) :: (el, W.listOf evs.toArray ne) :: (r, od1) :: (I, _) :: tl) (by walk_at "mine sub") (by k_all)
              ⟨od1, _, _, oa1, _, _, rfl, rfl, rfl, rfl, rfl, rfl, hd1, hr1, hp5.trans hp1, by omega, hi1, Nat.le_trans (stored_length_le _ _ _) (by omega), h0.step hp1 hk (by omega) hc7 hh1, rfl⟩
          · (rename Fr _ _ _ _ => lF); (rename News _ _ _ _ => lN); (rename RegIs _ _ => hr1); (rename Obj.IsDictOf _ _ (stored _ _ _) => hiX); (rename Hs _ _ _ => hh1); (rename List.IsPrefix _ _ => hp1); (rename List.length _ ≤ List.length _ + 1 => hl1)
            (rename Array.toList _ = _ ++ _ => hcat); (rename Array.toList _ = lvAt _ _ _ => hg2)
            rw [hcat, hg2] at hh1
            clear hg2
            (rename Array.toList _ = lvAt _ _ _ => hg1)
            rw [hg1, hea, toNat_low, toNat_low1] at hh1
            obtain ⟨oa1, hoi, hi1⟩ := nameOd hiX
            clear hiX
            subst hoi
            rw [hfd] at hi1
            revert hi1
            (rename Obj.IsDictOf (bytesKind _ _) _ _ => hdX)
            obtain ⟨od1, hod, hd1⟩ := nameOd hdX
            clear hdX
            subst hod
            intro hi1
            have hc7 : c / 2 < 2 ^ (7 - i) := Nat.div_lt_of_lt_mul (by rw [← pow_half hi]; exact hc2)
            refine UnrEnd.intro lF lN ((ab, oa1) :: (ll, W.listOf (ds.map Value.ref).toArray nl) :: (cur, oc) :: (el, W.listOf evs.toArray ne) :: (r, od1) :: (I, _) :: tl) (by walk_at "mine sub") (by k_all)
              ⟨od1, _, _, oa1, _, _, rfl, rfl, rfl, rfl, rfl, rfl, hd1, hr1, hp5.trans hp1, by omega, hi1, Nat.le_trans (stored_length_le _ _ _) (by omega), h0.step hp1 hk (by omega) hc7 hh1, rfl⟩
          · (rename Fr _ _ _ _ => lF); (rename News _ _ _ _ => lN); (rename ¬ _ = none => hc1); (rename (c : Int) ≠ _ => hc3)
            have e2 : (c : Int) - ((c : Int)).fmod 2 = (c : Int) - 1 := fmod_odd hc3
            rw [e2] at hc1
            refine UnrEnd.intro lF lN ((ab, oa) :: (ll, W.listOf (ds.map Value.ref).toArray nl) :: (cur, oc) :: (el, W.listOf evs.toArray ne) :: (r, od') :: (I, _) :: tl) (by walk_at "mine sub") (by k_all)
              ⟨od', _, _, oa, _, _, rfl, rfl, rfl, rfl, rfl, rfl, hd5, hr5, hp5, by omega, hoa, by omega, h0.skip hk (by omega) hc1, rfl⟩
        case doneA =>
          rintro m₁ nx h1 tk1 ⟨od', kvs', reg5, oa, ka, t5, e0, e1, e2, e3, e4, e5, hd5, hr5, hp5, hl5, hoa, hka, h0, rfl⟩ F1 N1
          rw [see_all [(Str.ofString "hash_of", .ref f), (Str.ofString "empty", .ref el), (Str.ofString "levels", .ref ll), (Str.ofString "above", .ref ab)]
            (List.forall_mem_cons.mpr ⟨e0, List.forall_mem_cons.mpr ⟨e1, List.forall_mem_cons.mpr ⟨e3, List.forall_mem_cons.mpr ⟨e4, List.forall_mem_nil _⟩⟩⟩⟩)] at F1
          clear lF lN hi1 hd4 hr4
          obtain ⟨K8, K9, K10, K11, K12⟩ := K7
          have hdl2 : (ds.map Value.ref).length = i + 1 := by rw [List.length_map]; exact hdl
          (repeat' (first | (k_unfold; (try dsimp only)) | (k_end; wrow_close) | ((with_reducible show FnAt _ _); k_here; (rename Mine.HashAt _ _ _ => hHash9); k_dflt (exact Mine.HashAt.fnAt hHash9 (by k_asm) (by walk_at "mine sub"))) | ((with_reducible show wpAny _ _ (binaryOp Operator.Add (Value.bytes _ _) (Value.bytes _ _)) _ _ _); k_here; (refine Mine.cat_bytes (by omega) ?_); intro _ _ _ _) | ((with_reducible show wpAny _ _ (call (Value.builtin "dict.get") [Value.ref _, Value.int _ _, Value.bytes _ _]) _ _ _); k_here; k_dflt (refine' Mine.lvl_get ?N ?m ?d ?lo ?ok ?e ?x ?_; (case N => k_asm); (case m => (first | k_mem | walk_at "mine tail")); (case d => k_asm); (case lo => k_asm); (case ok => k_asm); (case e => assumption); (case x => omega)); intro _ _ _ _ _) | ((with_reducible show wpAny _ _ (call (Value.builtin "list.append") [Value.ref _, _]) _ _ _); k_here; k_dflt (refine' Mine.append_L ?k1 ?k2 ?k3 ?_ ?z; (case k1 => k_asm); (case k2 => k_asm); (case k3 => k_upd); (case z => first | omega | (simp; done) | (simp; omega)); k_whole); intro _ _ _; (try k_sweep)) | ((with_reducible show wpAny _ _ (call (Value.ref _) [Value.bytes _ _]) _ _ _); k_here; (rename Mine.HashAt _ _ _ => hHash9); k_dflt (refine' Mine.hashU ?B ?F ?X ?N ?T ?fr ?h1 ?h2 ?h3 ?hk hHash9 ?off ?lo ?U ?sub ?d ?r ?z ?_; (case F => k_asm); (case B => k_asm); (case X => k_asm); (case N => k_asm); (case T => k_asm); (case fr => exact rfl); (case h1 => exact rfl); (case h2 => (first | exact Nat.le_of_ble_eq_true rfl | ((simp only [depth_under_make, depth_in1, depth_deeper, units_under_make, units_in1, units_deeper]); exact Nat.le_of_ble_eq_true rfl))); (case h3 => (first | exact Nat.le_of_ble_eq_true rfl | ((simp only [depth_under_make, depth_in1, depth_deeper, units_under_make, units_in1, units_deeper]); exact Nat.le_of_ble_eq_true rfl))); (case hk => exact rfl); (case off => assumption); (case lo => k_asm); (case U => k_updF); (case sub => walk_at "mine sub"); (case d => k_asm); (case r => k_asm); (case z => omega)); intro _ _ _ _ _ _ _ _ N9' _ _ _ _ h9'; (have _ := Mine.Hs.size h9'); (try dsimp only at N9'); (try k_sweep)) | ((with_reducible show wpAny _ _ (callWith _ (Value.ref _) _ _ _) _ _ _); k_here; (rename Mine.HashAt _ _ _ => hHash9); k_dflt (refine' callWith_F ?k1 ?_; (case k1 => exact Mine.HashAt.fnAt hHash9 (by k_asm) (by walk_at "mine sub")); k_whole)) | ((with_reducible show wpAny _ _ (compareOp CmpOp.NotIn (Value.int _ _) (Value.ref _)) _ _ _); k_here; k_dflt (refine' Mine.lvl_notin ?N ?m ?d ?lo ?_ ?_; (case N => k_asm); (case m => (first | k_mem | walk_at "mine tail")); (case d => k_asm); (case lo => k_asm)) <;> intro _ _) | ((with_reducible show wpAny _ _ (exec (Stmt.For (Expr.Name _ _) (Expr.Name _ _) _ [] _) _) _ _ _); k_here; (rename Mine.Mark => stopMark); (rename Fr _ _ _ _ => lF'); (with_unfolding_all refine' For_invVF lF' ?k1 ?k2 ?_; (case k1 => exact rfl); (case k2 => exact rfl); k_whole)) | ((with_reducible show wpAny _ _ (getMethod (Value.type "int") _ _) _ _ _); k_here; (refine KFB.getm (by k_asm) (by k_asm) (by k_asm) (by k_is) ?_); intro _ _ _ _ l9'; (try k_lt l9'); (try k_sweep)) | ((with_reducible show wpAny _ _ (pyIter (Value.ref _)) _ _ _); k_here; (rename Mine.Mark => stopMark); refine Mine.stop_at ?_) | ((with_reducible show wpAny _ _ (setItem (Value.ref _) (Value.int _ _) _) _ _ _); k_here; k_dflt (refine' kda_set (knd := PySem.intKind _ _) ?F ?N ?U ?d (PySem.intKind_is _ _ _ _) ?z ?_; (case F => k_asm); (case N => k_asm); (case U => k_updF); (case d => k_asm); (case z => rw [sizeLine_eq]; omega)); intro _ _ _ N9' _; (try dsimp only at N9')) | ((with_reducible show wpAny _ _ (subscriptTail _ _ (Value.ref _) (Value.bytes _ _)) _ _ _); k_here; k_dflt (refine kda_item (knd := PySem.W.bytesKind _ _) (by k_asm) (by (first | k_mem | walk_at "mine tail")) (by k_asm) (Mine.bytes_is _ _ _ _) (by first | assumption | exact Mine.valueAt_self) ?_)) | ((with_reducible show wpAny _ _ (subscriptTail (Expr.Name _ _) (Expr.Name _ _) (Value.ref _) (Value.int _ _)) _ _ _); k_here; k_dflt (first | (refine' Mine.item_L ?N ?l ?x ?v ?z ?_; (case N => k_asm); (case l => k_mem); (case v => assumption); (case x => first | rfl | omega); (case z => omega)) | (refine' Mine.item_T ?N ?l ?x ?v ?z ?_; (case N => k_asm); (case l => k_mem); (case v => assumption); (case x => first | rfl | omega); (case z => omega)))) | walk1 | (dsimp only; walk1) | (leave1; walk_say "STEP leave1"; try dsimp only)))
          (rename Fr _ _ _ _ => lF); (rename News _ _ _ _ => lN)
          have ee := (hee (i + 1) (by omega)).mono (hp3.trans (hp4.trans hp5))
          have LV2 := LV.step hp5 lo5 hoa h0 ee
          refine UnrEnd.intro lF lN ((ll, W.listOf ((ds ++ [ab]).map Value.ref).toArray (nl + 1)) :: (ab, oa) :: (el, W.listOf evs.toArray ne) :: (r, od') :: (((cur, oc) :: old) ++ rest)) ?subB ?offB
            ⟨ab, oa, _, ds ++ [ab], _, (cur, oc) :: old, od', _, _, rfl, rfl, rfl, rfl, K10, List.forall_mem_cons.mpr ⟨g1, g2⟩, ?g3, hd5, hr5, hp4.trans hp5, by omega, LV2, by simp; omega, lo5, by simpa using hoa, by simpa using h0.ok, rfl⟩
          case g3 => rw [List.cons_append, htl]; exact List.forall_mem_cons.mpr ⟨by k_ne, g3⟩
          case offB =>
            rw [List.cons_append, htl]
            k_all
          case subB =>
            rw [List.cons_append, htl, List.map_append]
            walk_at "mine sub"
      case done =>
        rintro m₁ nx h1 tk1 ⟨cur, oc, kk, ds, nl, old, od', kvs', reg4, e0, e1, e2, e3, g1, g2, g3, hd4, hr4, hp4, hl4, LV, hkz, lo4, hcd, hck, rfl⟩ F1 N1
        rw [see_all [(Str.ofString "empty", .ref el), (Str.ofString "levels", .ref ll)]
          (List.forall_mem_cons.mpr ⟨e1, List.forall_mem_cons.mpr ⟨e3, List.forall_mem_nil _⟩⟩)] at F1
        clear lF lN hd3 hr3 hol lR
        have hels := Heap.lt_size (N1 (el, _) (.tail _ (.tail _ (.head _)))).1
        (repeat' (first | (k_unfold; (try dsimp only)) | (k_end; wrow_close) | ((with_reducible show FnAt _ _); k_here; (rename Mine.HashAt _ _ _ => hHash9); k_dflt (exact Mine.HashAt.fnAt hHash9 (by k_asm) (by walk_at "mine sub"))) | ((with_reducible show wpAny _ _ (binaryOp Operator.Add (Value.bytes _ _) (Value.bytes _ _)) _ _ _); k_here; (refine Mine.cat_bytes (by omega) ?_); intro _ _ _ _) | ((with_reducible show wpAny _ _ (call (Value.builtin "dict.get") [Value.ref _, Value.int _ _, Value.bytes _ _]) _ _ _); k_here; k_dflt (refine' Mine.lvl_get ?N ?m ?d ?lo ?ok ?e ?x ?_; (case N => k_asm); (case m => (first | k_mem | walk_at "mine tail")); (case d => k_asm); (case lo => k_asm); (case ok => k_asm); (case e => assumption); (case x => omega)); intro _ _ _ _ _) | ((with_reducible show wpAny _ _ (call (Value.builtin "list.append") [Value.ref _, _]) _ _ _); k_here; k_dflt (refine' Mine.append_L ?k1 ?k2 ?k3 ?_ ?z; (case k1 => k_asm); (case k2 => k_asm); (case k3 => k_upd); (case z => first | omega | (simp; done) | (simp; omega)); k_whole); intro _ _ _; (try k_sweep)) | ((with_reducible show wpAny _ _ (call (Value.ref _) [Value.bytes _ _]) _ _ _); k_here; (rename Mine.HashAt _ _ _ => hHash9); k_dflt (refine' Mine.hashU ?B ?F ?X ?N ?T ?fr ?h1 ?h2 ?h3 ?hk hHash9 ?off ?lo ?U ?sub ?d ?r ?z ?_; (case F => k_asm); (case B => k_asm); (case X => k_asm); (case N => k_asm); (case T => k_asm); (case fr => exact rfl); (case h1 => exact rfl); (case h2 => (first | exact Nat.le_of_ble_eq_true rfl | ((simp only [depth_under_make, depth_in1, depth_deeper, units_under_make, units_in1, units_deeper]); exact Nat.le_of_ble_eq_true rfl))); (case h3 => (first | exact Nat.le_of_ble_eq_true rfl | ((simp only [depth_under_make, depth_in1, depth_deeper, units_under_make, units_in1, units_deeper]); exact Nat.le_of_ble_eq_true rfl))); (case hk => exact rfl); (case off => assumption); (case lo => k_asm); (case U => k_updF); (case sub => walk_at "mine sub"); (case d => k_asm); (case r => k_asm); (case z => omega)); intro _ _ _ _ _ _ _ _ N9' _ _ _ _ h9'; (have _ := Mine.Hs.size h9'); (try dsimp only at N9'); (try k_sweep)) | ((with_reducible show wpAny _ _ (callWith _ (Value.ref _) _ _ _) _ _ _); k_here; (rename Mine.HashAt _ _ _ => hHash9); k_dflt (refine' callWith_F ?k1 ?_; (case k1 => exact Mine.HashAt.fnAt hHash9 (by k_asm) (by walk_at "mine sub")); k_whole)) | ((with_reducible show wpAny _ _ (compareOp CmpOp.NotIn (Value.int _ _) (Value.ref _)) _ _ _); k_here; k_dflt (refine' Mine.lvl_notin ?N ?m ?d ?lo ?_ ?_; (case N => k_asm); (case m => (first | k_mem | walk_at "mine tail")); (case d => k_asm); (case lo => k_asm)) <;> intro _ _) | ((with_reducible show wpAny _ _ (exec (Stmt.For (Expr.Name _ _) (Expr.Name _ _) _ [] _) _) _ _ _); k_here; (rename Mine.Mark => stopMark); (rename Fr _ _ _ _ => lF'); (with_unfolding_all refine' For_invVF lF' ?k1 ?k2 ?_; (case k1 => exact rfl); (case k2 => exact rfl); k_whole)) | ((with_reducible show wpAny _ _ (getMethod (Value.type "int") _ _) _ _ _); k_here; (refine KFB.getm (by k_asm) (by k_asm) (by k_asm) (by k_is) ?_); intro _ _ _ _ l9'; (try k_lt l9'); (try k_sweep)) | ((with_reducible show wpAny _ _ (pyIter (Value.ref _)) _ _ _); k_here; (rename Mine.Mark => stopMark); refine Mine.stop_at ?_) | ((with_reducible show wpAny _ _ (setItem (Value.ref _) (Value.int _ _) _) _ _ _); k_here; k_dflt (refine' kda_set (knd := PySem.intKind _ _) ?F ?N ?U ?d (PySem.intKind_is _ _ _ _) ?z ?_; (case F => k_asm); (case N => k_asm); (case U => k_updF); (case d => k_asm); (case z => rw [sizeLine_eq]; omega)); intro _ _ _ N9' _; (try dsimp only at N9')) | ((with_reducible show wpAny _ _ (subscriptTail _ _ (Value.ref _) (Value.bytes _ _)) _ _ _); k_here; k_dflt (refine kda_item (knd := PySem.W.bytesKind _ _) (by k_asm) (by (first | k_mem | walk_at "mine tail")) (by k_asm) (Mine.bytes_is _ _ _ _) (by first | assumption | exact Mine.valueAt_self) ?_)) | ((with_reducible show wpAny _ _ (subscriptTail (Expr.Name _ _) (Expr.Name _ _) (Value.ref _) (Value.int _ _)) _ _ _); k_here; k_dflt (first | (refine' Mine.item_L ?N ?l ?x ?v ?z ?_; (case N => k_asm); (case l => k_mem); (case v => assumption); (case x => first | rfl | omega); (case z => omega)) | (refine' Mine.item_T ?N ?l ?x ?v ?z ?_; (case N => k_asm); (case l => k_mem); (case v => assumption); (case x => first | rfl | omega); (case z => omega)))) | walk1 | (dsimp only; walk1) | (leave1; walk_say "STEP leave1"; try dsimp only)))
        refine ret _ ((_, tupOf [.ref el, .ref ll]) :: (ll, W.listOf (ds.map Value.ref).toArray nl) :: (cur, oc) :: (el, W.listOf evs.toArray ne) :: old) _ od' _ reg4 _ _ (by assumption) ?news ?hlt (LV.known hev (hee.mono (hp3.trans hp4))) hd4 hr4 (hp2.trans (hp3.trans hp4)) (by omega) LV.nodes
        case news => exact cb_drop (by assumption) sub_known
        case hlt =>
          exact lt_known (el := el) (List.forall_mem_cons.mpr ⟨Nat.le_of_lt hels, List.forall_mem_cons.mpr ⟨Nat.le_of_lt K5, List.forall_mem_cons.mpr ⟨Nat.le_of_lt g1, List.forall_mem_cons.mpr ⟨Nat.le_refl _, fun p hp => Nat.le_of_lt (g2 p hp)⟩⟩⟩⟩)
            (List.forall_mem_cons.mpr ⟨F5, F6⟩)
end Mine
namespace Mine
set_option maxHeartbeats 1000000 in
theorem c_node (w : World) {gd : Option (List Code)} {cn : Str} {cs : Scope} {a : Addr} {ccd : Value} {cl : List (Str × Addr)} {outer : List Env} {A₀ : Around} {base h₀ : Heap} {L : Addr} {m mg mb : Str → Option Value}
    {p : Program} {loose : List Str} {mean : ExcName → Option Value} {s : Shared} {R : Result → Shared → Prop} {news kn : List (Addr × Obj)} {kt : Addr} {nd : Nat → Nat → By} {k : Nat} {y x : Int} {ty tx : Tok}
    (B : Below A₀ base outer h₀) (F : Fr h₀ L s.heap m) (X : (Mine.z.heap_1_39 w.params).In h₀) (T : Top p loose mean mg mb h₀) (hk : cs.kind = .function) (N : News h₀ L s.heap news) (hkn : ∀ p ∈ kn, p ∈ news) (KA : KnownAt w kn kt nd) (hy : y = (k : Int)) (hk9 : k < 9) (hx : 0 ≤ x)
    (ret : ∀ b t h' tk', Fr h₀ L h' m → News h₀ L h' news → b.toList = nd k x.toNat → b.size = 32 → R (.ok (.ret (.bytes b t))) { s with heap := h', toks := tk' }) :
    codeAny (model PySem.Challenge.rw_iu0037_01.row.prog w) (ctop 900 9000 gd cn cs L a ccd cl outer) (.call (.ref 239) ⟨[.ref kt, .int y ty, .int x tx], []⟩) R s := by
  revert X; k_fill; w_top off; intro X
  have mk9 := Mark.mk
  obtain ⟨el, ll, evs, ne, ds, nl, es, h1, h2, h3, h4, h5, h6, h7⟩ := KA.ex
  obtain ⟨d, o, kvs, g1, g2, g3, g4, g5, g6⟩ := h7 k hk9
  have N2 : News h₀ L s.heap ((kt, tupOf [.ref el, .ref ll]) :: (el, W.listOf evs.toArray ne) :: (ll, W.listOf (ds.map Value.ref).toArray nl) :: (d, o) :: news) :=
    cb_drop N (List.forall_mem_cons.mpr ⟨hkn _ h1, List.forall_mem_cons.mpr ⟨hkn _ h2, List.forall_mem_cons.mpr ⟨hkn _ h3, List.forall_mem_cons.mpr ⟨hkn _ g2, fun _ hp => hp⟩⟩⟩⟩)
  clear N
  have hdl : (ds.map Value.ref).length = 9 := by rw [List.length_map]; exact h6
  have hdv : (ds.map Value.ref)[k]? = some (.ref d) := by rw [List.getElem?_map, g1]; rfl
  have hel : evs.length = 9 := by rw [h4.length, List.length_map, List.length_range]
  obtain ⟨ea, et, hv, hea⟩ := h4.at (i := k) (b := es k) (by rw [List.getElem?_map, List.getElem?_range hk9]; rfl)
  have hs32 : ea.size = 32 := by
    have e := h5 k hk9
    rw [← hea, Array.length_toList] at e
    exact e
  k_dflt cell_enter
  (repeat' (first | (k_unfold; (try dsimp only)) | (k_end; wrow_close) | ((with_reducible show wpAny _ _ (binaryOp Operator.FloorDiv (Value.int _ _) (Value.int _ _)) _ _ _); k_here; (refine Mine.fdivP (by omega) ?_); intro _ _) | ((with_reducible show wpAny _ _ (binaryOp Operator.Pow (Value.int _ _) (Value.int _ _)) _ _ _); k_here; (refine Mine.pow2 (by omega) (by omega) ?_); intro _ _) | ((with_reducible show wpAny _ _ (call (Value.builtin "dict.get") [Value.ref _, Value.int _ _, Value.bytes _ _]) _ _ _); k_here; k_dflt (refine' Mine.lvl_get ?N ?m ?d ?lo ?ok ?e ?x ?_; (case N => k_asm); (case m => (first | k_mem | walk_at "mine tail")); (case d => k_asm); (case lo => k_asm); (case ok => k_asm); (case e => assumption); (case x => omega)); intro _ _ _ _ _) | ((with_reducible show wpAny _ _ (call (Value.builtin "list.insert") _) _ _ _); k_here; (refine' Mine.insert_L ?k1 ?k2 ?k3 ?_ ?z; (case k1 => k_asm); (case k2 => k_asm); (case k3 => k_dflt k_upd); (case z => omega); k_whole); intro _ _ _; (try k_sweep)) | ((with_reducible show wpAny _ _ (call (Value.ref _) _) _ _ _); k_here; (rename Mine.Mark => stopMark); (first | refine Mine.stop_call (by decide) ?_ | ((rename Mine.MarkU => stopMarkU); refine Mine.stop_callU (by decide) ?_))) | ((with_reducible show wpAny _ _ (call (Value.type "tuple") [Value.ref _]) _ _ _); k_here; (refine' Mine.tuple_L ?F ?N ?l ?z ?_; (case F => k_asm); (case N => k_asm); (case l => k_dflt k_mem); (case z => omega)); intro _ _ _ _ l9'; (try k_lt l9'); (try k_sweep)) | ((with_reducible show wpAny _ _ (getMethod (Value.type "int") _ _) _ _ _); k_here; (refine KFB.getm (by k_asm) (by k_asm) (by k_asm) (by k_is) ?_); intro _ _ _ _ l9'; (try k_lt l9'); (try k_sweep)) | ((with_reducible show wpAny _ _ (pyIter (Value.ref _)) _ _ _); k_here; (rename Mine.Mark => stopMark); refine Mine.stop_at ?_) | ((with_reducible show wpAny _ _ (subscriptTail (Expr.Name _ _) (Expr.Name _ _) (Value.ref _) (Value.int _ _)) _ _ _); k_here; k_dflt (first | (refine' Mine.item_L ?N ?l ?x ?v ?z ?_; (case N => k_asm); (case l => k_mem); (case v => assumption); (case x => first | rfl | omega); (case z => omega)) | (refine' Mine.item_T ?N ?l ?x ?v ?z ?_; (case N => k_asm); (case l => k_mem); (case v => assumption); (case x => first | rfl | omega); (case z => omega)))) | walk1 | (dsimp only; walk1) | (leave1; walk_say "STEP leave1"; try dsimp only)))
  exact ret _ _ _ _ (by assumption) (by (first | assumption | exact cb_drop (by assumption) (by walk_at "mine sub"))) (by rw [g6, ← hea]; assumption) (by assumption)
/-- the loop of the nodes beside -/
inductive BesJ (kt rl : Addr) (u : Nat) (nd : Nat → Nat → By) (news : List (Addr × Obj)) (i : Nat) (m : Str → Option Value) (nx : List (Addr × Obj)) : Prop where
  | mk (rvs : List Value) (n : Nat) (tp : Tok) (e0 : m (Str.ofString "known") = some (.ref kt)) (e1 : m (Str.ofString "at") = some (.int (u : Int) tp)) (e2 : m (Str.ofString "rows") = some (.ref rl))
    (hv : BsAre rvs ((List.range i).map fun j => nd j (sib (u / 2 ^ j))).reverse) (hnx : nx = (rl, W.listOf rvs.toArray n) :: news) : BesJ kt rl u nd news i m nx
set_option maxHeartbeats 1000000 in
theorem c_beside (w : World) {gd : Option (List Code)} {cn : Str} {cs : Scope} {a : Addr} {ccd : Value} {cl : List (Str × Addr)} {outer : List Env} {A₀ : Around} {base h₀ : Heap} {L : Addr} {m mg mb : Str → Option Value}
    {p : Program} {loose : List Str} {mean : ExcName → Option Value} {s : Shared} {R : Result → Shared → Prop} {news kn : List (Addr × Obj)} {kt : Addr} {nd : Nat → Nat → By} {u : UInt8} {tk : Tok}
    (B : Below A₀ base outer h₀) (F : Fr h₀ L s.heap m) (X : (Mine.z.heap_1_39 w.params).In h₀) (T : Top p loose mean mg mb h₀) (hk : cs.kind = .function) (N : News h₀ L s.heap news) (hkn : ∀ p ∈ kn, p ∈ news) (KA : KnownAt w kn kt nd)
    (ret : ∀ bt bvs h' tk', Fr h₀ L h' m → News h₀ L h' ((bt, tupOf bvs) :: news) → (∀ p ∈ news, p.1 < bt) → BsAre bvs (beside nd u.toNat) → R (.ok (.ret (.ref bt))) { s with heap := h', toks := tk' }) :
    codeAny (model PySem.Challenge.rw_iu0037_01.row.prog w) (ctop 800 8000 gd cn cs L a ccd cl outer) (.call (.ref 246) ⟨[.ref kt, .bytes #[u] tk], []⟩) R s := by
  revert X; k_fill; w_top off; intro X
  have mk9 := Mark.mk
  k_dflt cell_enter
  (repeat' (first | (k_unfold; (try dsimp only)) | (k_end; wrow_close) | ((with_reducible show wpAny _ _ (binaryOp Operator.FloorDiv (Value.int _ _) (Value.int _ _)) _ _ _); k_here; (refine Mine.fdivP (by omega) ?_); intro _ _) | ((with_reducible show wpAny _ _ (binaryOp Operator.Pow (Value.int _ _) (Value.int _ _)) _ _ _); k_here; (refine Mine.pow2 (by omega) (by omega) ?_); intro _ _) | ((with_reducible show wpAny _ _ (call (Value.builtin "dict.get") [Value.ref _, Value.int _ _, Value.bytes _ _]) _ _ _); k_here; k_dflt (refine' Mine.lvl_get ?N ?m ?d ?lo ?ok ?e ?x ?_; (case N => k_asm); (case m => (first | k_mem | walk_at "mine tail")); (case d => k_asm); (case lo => k_asm); (case ok => k_asm); (case e => assumption); (case x => omega)); intro _ _ _ _ _) | ((with_reducible show wpAny _ _ (call (Value.builtin "list.insert") _) _ _ _); k_here; (refine' Mine.insert_L ?k1 ?k2 ?k3 ?_ ?z; (case k1 => k_asm); (case k2 => k_asm); (case k3 => k_dflt k_upd); (case z => omega); k_whole); intro _ _ _; (try k_sweep)) | ((with_reducible show wpAny _ _ (call (Value.ref _) _) _ _ _); k_here; (rename Mine.Mark => stopMark); (first | refine Mine.stop_call (by decide) ?_ | ((rename Mine.MarkU => stopMarkU); refine Mine.stop_callU (by decide) ?_))) | ((with_reducible show wpAny _ _ (call (Value.type "tuple") [Value.ref _]) _ _ _); k_here; (refine' Mine.tuple_L ?F ?N ?l ?z ?_; (case F => k_asm); (case N => k_asm); (case l => k_dflt k_mem); (case z => omega)); intro _ _ _ _ l9'; (try k_lt l9'); (try k_sweep)) | ((with_reducible show wpAny _ _ (getMethod (Value.type "int") _ _) _ _ _); k_here; (refine KFB.getm (by k_asm) (by k_asm) (by k_asm) (by k_is) ?_); intro _ _ _ _ l9'; (try k_lt l9'); (try k_sweep)) | ((with_reducible show wpAny _ _ (pyIter (Value.ref _)) _ _ _); k_here; (rename Mine.Mark => stopMark); refine Mine.stop_at ?_) | ((with_reducible show wpAny _ _ (subscriptTail (Expr.Name _ _) (Expr.Name _ _) (Value.ref _) (Value.int _ _)) _ _ _); k_here; k_dflt (first | (refine' Mine.item_L ?N ?l ?x ?v ?z ?_; (case N => k_asm); (case l => k_mem); (case v => assumption); (case x => first | rfl | omega); (case z => omega)) | (refine' Mine.item_T ?N ?l ?x ?v ?z ?_; (case N => k_asm); (case l => k_mem); (case v => assumption); (case x => first | rfl | omega); (case z => omega)))) | walk1 | (dsimp only; walk1) | (leave1; walk_say "STEP leave1"; try dsimp only)))
  unfold Stop
  (rename Fr _ _ _ _ => lF); (rename News _ _ _ _ => lN); (rename IsRange _ _ _ _ _ _ _ _ => lR)
  have lR8 : IsRange _ _ 0 8 1 _ _ _ := lR
  obtain ⟨rl, hrl, hlt⟩ : ∃ rl : Nat, rl = _ ∧ (∀ p ∈ news, p.1 < rl) := ⟨_, rfl, all_of_allLt (‹_ < _ ∧ AllLt _ news›).2⟩
  subst hrl
  refine' loop_range (n := 8) (BesJ kt rl u.toNat nd news) rfl lR8 (by decide) (by decide) lF (cb_drop lN ?sub) ?j0 ?turn ?done
  case j0 => exact ⟨[], 0, _, rfl, some_int rfl (by omega), rfl, trivial, rfl⟩
  case sub => walk_at "mine sub"
  case turn =>
    rintro i I tv m₁ nx it h1 tk1 hi ⟨rvs, n, tp, e0, e1, e2, hv, rfl⟩ hof F1 N1
    have hu := u.toNat_lt
    have l3 := gnNe_of hof
    simp only [GnNe] at l3
    have l5 : ∀ p ∈ news, p.1 ≠ _ := fun p hp => hof p (.tail _ hp)
    have hrl8 : rvs.length = i := by rw [hv.length, List.length_reverse, List.length_map, List.length_range]
    rw [see_all [(Str.ofString "known", .ref kt), (Str.ofString "at", .int (u.toNat : Int) tp), (Str.ofString "rows", .ref rl)]
      (List.forall_mem_cons.mpr ⟨e0, List.forall_mem_cons.mpr ⟨e1, List.forall_mem_cons.mpr ⟨e2, List.forall_mem_nil _⟩⟩⟩)] at F1
    clear lF lN lR lR8
    obtain ⟨q, hq⟩ : ∃ q, u.toNat / 2 ^ i = q := ⟨_, rfl⟩
    have hfd : ((u.toNat / 2 ^ (0 + (i : Int) * 1).toNat : Nat) : Int) = (q : Int) := by
      rw [show (0 + (i : Int) * 1).toNat = i by rw [om_range]; rfl, hq]
    have hfm := fmod_two q
    have hrv : ∀ b : By, b = nd i (sib q) → b :: ((List.range i).map fun j => nd j (sib (u.toNat / 2 ^ j))).reverse = ((List.range (i + 1)).map fun j => nd j (sib (u.toNat / 2 ^ j))).reverse := fun b e => by
      rw [List.range_succ, List.map_append, List.reverse_append, e, ← hq]; rfl
    show wpAny _ _ _ _ _ _
    k_fold
    (repeat' (first | (k_unfold; (try dsimp only)) | (k_end; wrow_close) | ((with_reducible show wpAny _ _ (binaryOp Operator.FloorDiv (Value.int _ _) (Value.int _ _)) _ _ _); k_here; (refine Mine.fdivP (by omega) ?_); intro _ _) | ((with_reducible show wpAny _ _ (binaryOp Operator.Pow (Value.int _ _) (Value.int _ _)) _ _ _); k_here; (refine Mine.pow2 (by omega) (by omega) ?_); intro _ _) | ((with_reducible show wpAny _ _ (call (Value.builtin "dict.get") [Value.ref _, Value.int _ _, Value.bytes _ _]) _ _ _); k_here; k_dflt (refine' Mine.lvl_get ?N ?m ?d ?lo ?ok ?e ?x ?_; (case N => k_asm); (case m => (first | k_mem | walk_at "mine tail")); (case d => k_asm); (case lo => k_asm); (case ok => k_asm); (case e => assumption); (case x => omega)); intro _ _ _ _ _) | ((with_reducible show wpAny _ _ (call (Value.builtin "list.insert") _) _ _ _); k_here; (refine' Mine.insert_L ?k1 ?k2 ?k3 ?_ ?z; (case k1 => k_asm); (case k2 => k_asm); (case k3 => k_dflt k_upd); (case z => omega); k_whole); intro _ _ _; (try k_sweep)) | ((with_reducible show wpAny _ _ (call (Value.ref _) _) _ _ _); k_here; (rename Mine.Mark => stopMark); (first | refine Mine.stop_call (by decide) ?_ | ((rename Mine.MarkU => stopMarkU); refine Mine.stop_callU (by decide) ?_))) | ((with_reducible show wpAny _ _ (call (Value.type "tuple") [Value.ref _]) _ _ _); k_here; (refine' Mine.tuple_L ?F ?N ?l ?z ?_; (case F => k_asm); (case N => k_asm); (case l => k_dflt k_mem); (case z => omega)); intro _ _ _ _ l9'; (try k_lt l9'); (try k_sweep)) | ((with_reducible show wpAny _ _ (getMethod (Value.type "int") _ _) _ _ _); k_here; (refine KFB.getm (by k_asm) (by k_asm) (by k_asm) (by k_is) ?_); intro _ _ _ _ l9'; (try k_lt l9'); (try k_sweep)) | ((with_reducible show wpAny _ _ (pyIter (Value.ref _)) _ _ _); k_here; (rename Mine.Mark => stopMark); refine Mine.stop_at ?_) | ((with_reducible show wpAny _ _ (subscriptTail (Expr.Name _ _) (Expr.Name _ _) (Value.ref _) (Value.int _ _)) _ _ _); k_here; k_dflt (first | (refine' Mine.item_L ?N ?l ?x ?v ?z ?_; (case N => k_asm); (case l => k_mem); (case v => assumption); (case x => first | rfl | omega); (case z => omega)) | (refine' Mine.item_T ?N ?l ?x ?v ?z ?_; (case N => k_asm); (case l => k_mem); (case v => assumption); (case x => first | rfl | omega); (case z => omega)))) | walk1 | (dsimp only; walk1) | (leave1; walk_say "STEP leave1"; try dsimp only)))
    · (rename _ = (0 : Int) => hbit)
      unfold Stop
      rw [hfd, hfm] at hbit
      have hs : sib q = q + 1 := by unfold sib; rw [if_pos (Int.ofNat.inj hbit)]
      refine' useC ?frA ?h1A ?h2A ?h3A (c_node w (k := i) (nd := nd) ?BA ?FA ?XA ?TA ?hkA (cb_drop ?NA ?subA) ?knA KA (by omega) (by omega) (by omega) ?retA)
      case FA => k_asm
      case BA => k_asm
      case XA => k_asm
      case TA => k_asm
      case NA => k_asm
      case subA => walk_at "mine sub"
      case frA => exact rfl
      case h1A => exact rfl
      case hkA => exact rfl
      case h2A => (first | exact Nat.le_of_ble_eq_true rfl | ((simp only [depth_under_make, depth_in1, depth_deeper, units_under_make, units_in1, units_deeper]); exact Nat.le_of_ble_eq_true rfl))
      case h3A => (first | exact Nat.le_of_ble_eq_true rfl | ((simp only [depth_under_make, depth_in1, depth_deeper, units_under_make, units_in1, units_deeper]); exact Nat.le_of_ble_eq_true rfl))
      case knA => exact fun p hp => .tail _ (.tail _ (hkn p hp))
      case retA =>
        intro b tb h2 tk2 F2 N2 hb hbz
        show wpAny _ _ _ _ _ _
        rw [hfd, show ((q : Int) + 1).toNat = q + 1 from rfl, ← hs] at hb
        (repeat' (first | (k_unfold; (try dsimp only)) | (k_end; wrow_close) | ((with_reducible show wpAny _ _ (binaryOp Operator.FloorDiv (Value.int _ _) (Value.int _ _)) _ _ _); k_here; (refine Mine.fdivP (by omega) ?_); intro _ _) | ((with_reducible show wpAny _ _ (binaryOp Operator.Pow (Value.int _ _) (Value.int _ _)) _ _ _); k_here; (refine Mine.pow2 (by omega) (by omega) ?_); intro _ _) | ((with_reducible show wpAny _ _ (call (Value.builtin "dict.get") [Value.ref _, Value.int _ _, Value.bytes _ _]) _ _ _); k_here; k_dflt (refine' Mine.lvl_get ?N ?m ?d ?lo ?ok ?e ?x ?_; (case N => k_asm); (case m => (first | k_mem | walk_at "mine tail")); (case d => k_asm); (case lo => k_asm); (case ok => k_asm); (case e => assumption); (case x => omega)); intro _ _ _ _ _) | ((with_reducible show wpAny _ _ (call (Value.builtin "list.insert") _) _ _ _); k_here; (refine' Mine.insert_L ?k1 ?k2 ?k3 ?_ ?z; (case k1 => k_asm); (case k2 => k_asm); (case k3 => k_dflt k_upd); (case z => omega); k_whole); intro _ _ _; (try k_sweep)) | ((with_reducible show wpAny _ _ (call (Value.ref _) _) _ _ _); k_here; (rename Mine.Mark => stopMark); (first | refine Mine.stop_call (by decide) ?_ | ((rename Mine.MarkU => stopMarkU); refine Mine.stop_callU (by decide) ?_))) | ((with_reducible show wpAny _ _ (call (Value.type "tuple") [Value.ref _]) _ _ _); k_here; (refine' Mine.tuple_L ?F ?N ?l ?z ?_; (case F => k_asm); (case N => k_asm); (case l => k_dflt k_mem); (case z => omega)); intro _ _ _ _ l9'; (try k_lt l9'); (try k_sweep)) | ((with_reducible show wpAny _ _ (getMethod (Value.type "int") _ _) _ _ _); k_here; (refine KFB.getm (by k_asm) (by k_asm) (by k_asm) (by k_is) ?_); intro _ _ _ _ l9'; (try k_lt l9'); (try k_sweep)) | ((with_reducible show wpAny _ _ (pyIter (Value.ref _)) _ _ _); k_here; (rename Mine.Mark => stopMark); refine Mine.stop_at ?_) | ((with_reducible show wpAny _ _ (subscriptTail (Expr.Name _ _) (Expr.Name _ _) (Value.ref _) (Value.int _ _)) _ _ _); k_here; k_dflt (first | (refine' Mine.item_L ?N ?l ?x ?v ?z ?_; (case N => k_asm); (case l => k_mem); (case v => assumption); (case x => first | rfl | omega); (case z => omega)) | (refine' Mine.item_T ?N ?l ?x ?v ?z ?_; (case N => k_asm); (case l => k_mem); (case v => assumption); (case x => first | rfl | omega); (case z => omega)))) | walk1 | (dsimp only; walk1) | (leave1; walk_say "STEP leave1"; try dsimp only)))
        (rename Fr _ _ _ _ => lF); (rename News _ _ _ _ => lN)
        refine UnrEnd.intro lF lN ((rl, W.listOf (_ :: rvs).toArray (n + 1)) :: news) (by walk_at "mine sub") (by k_all) ⟨_, _, tp, rfl, rfl, rfl, ?hvA, rfl⟩
        case hvA => rw [← hrv _ rfl]; exact ⟨⟨b, tb, rfl, hb⟩, hv⟩
    · (rename _ ≠ (0 : Int) => hbit)
      unfold Stop
      rw [hfd, hfm] at hbit
      have hq2 : q % 2 ≠ 0 := fun e => hbit (by rw [e]; rfl)
      have hq3 : 0 ≤ ((u.toNat / 2 ^ (0 + (i : Int) * 1).toNat : Nat) : Int) - 1 := by rw [hfd]; exact (sub_one_toNat hq2).2
      have hs : sib q = q - 1 := by unfold sib; rw [if_neg hq2]
      refine' useC ?frB ?h1B ?h2B ?h3B (c_node w (k := i) (nd := nd) ?BB ?FB ?XB ?TB ?hkB (cb_drop ?NB ?subB) ?knB KA (by omega) (by omega) (by omega) ?retB)
      case FB => k_asm
      case BB => k_asm
      case XB => k_asm
      case TB => k_asm
      case NB => k_asm
      case subB => walk_at "mine sub"
      case frB => exact rfl
      case h1B => exact rfl
      case hkB => exact rfl
      case h2B => (first | exact Nat.le_of_ble_eq_true rfl | ((simp only [depth_under_make, depth_in1, depth_deeper, units_under_make, units_in1, units_deeper]); exact Nat.le_of_ble_eq_true rfl))
      case h3B => (first | exact Nat.le_of_ble_eq_true rfl | ((simp only [depth_under_make, depth_in1, depth_deeper, units_under_make, units_in1, units_deeper]); exact Nat.le_of_ble_eq_true rfl))
      case knB => exact fun p hp => .tail _ (.tail _ (hkn p hp))
      case retB =>
        intro b tb h2 tk2 F2 N2 hb hbz
        show wpAny _ _ _ _ _ _
        rw [hfd, (sub_one_toNat hq2).1, ← hs] at hb
        (repeat' (first | (k_unfold; (try dsimp only)) | (k_end; wrow_close) | ((with_reducible show wpAny _ _ (binaryOp Operator.FloorDiv (Value.int _ _) (Value.int _ _)) _ _ _); k_here; (refine Mine.fdivP (by omega) ?_); intro _ _) | ((with_reducible show wpAny _ _ (binaryOp Operator.Pow (Value.int _ _) (Value.int _ _)) _ _ _); k_here; (refine Mine.pow2 (by omega) (by omega) ?_); intro _ _) | ((with_reducible show wpAny _ _ (call (Value.builtin "dict.get") [Value.ref _, Value.int _ _, Value.bytes _ _]) _ _ _); k_here; k_dflt (refine' Mine.lvl_get ?N ?m ?d ?lo ?ok ?e ?x ?_; (case N => k_asm); (case m => (first | k_mem | walk_at "mine tail")); (case d => k_asm); (case lo => k_asm); (case ok => k_asm); (case e => assumption); (case x => omega)); intro _ _ _ _ _) | ((with_reducible show wpAny _ _ (call (Value.builtin "list.insert") _) _ _ _); k_here; (refine' Mine.insert_L ?k1 ?k2 ?k3 ?_ ?z; (case k1 => k_asm); (case k2 => k_asm); (case k3 => k_dflt k_upd); (case z => omega); k_whole); intro _ _ _; (try k_sweep)) | ((with_reducible show wpAny _ _ (call (Value.ref _) _) _ _ _); k_here; (rename Mine.Mark => stopMark); (first | refine Mine.stop_call (by decide) ?_ | ((rename Mine.MarkU => stopMarkU); refine Mine.stop_callU (by decide) ?_))) | ((with_reducible show wpAny _ _ (call (Value.type "tuple") [Value.ref _]) _ _ _); k_here; (refine' Mine.tuple_L ?F ?N ?l ?z ?_; (case F => k_asm); (case N => k_asm); (case l => k_dflt k_mem); (case z => omega)); intro _ _ _ _ l9'; (try k_lt l9'); (try k_sweep)) | ((with_reducible show wpAny _ _ (getMethod (Value.type "int") _ _) _ _ _); k_here; (refine KFB.getm (by k_asm) (by k_asm) (by k_asm) (by k_is) ?_); intro _ _ _ _ l9'; (try k_lt l9'); (try k_sweep)) | ((with_reducible show wpAny _ _ (pyIter (Value.ref _)) _ _ _); k_here; (rename Mine.Mark => stopMark); refine Mine.stop_at ?_) | ((with_reducible show wpAny _ _ (subscriptTail (Expr.Name _ _) (Expr.Name _ _) (Value.ref _) (Value.int _ _)) _ _ _); k_here; k_dflt (first | (refine' Mine.item_L ?N ?l ?x ?v ?z ?_; (case N => k_asm); (case l => k_mem); (case v => assumption); (case x => first | rfl | omega); (case z => omega)) | (refine' Mine.item_T ?N ?l ?x ?v ?z ?_; (case N => k_asm); (case l => k_mem); (case v => assumption); (case x => first | rfl | omega); (case z => omega)))) | walk1 | (dsimp only; walk1) | (leave1; walk_say "STEP leave1"; try dsimp only)))
        (rename Fr _ _ _ _ => lF); (rename News _ _ _ _ => lN)
        refine UnrEnd.intro lF lN ((rl, W.listOf (_ :: rvs).toArray (n + 1)) :: news) (by walk_at "mine sub") (by k_all) ⟨_, _, tp, rfl, rfl, rfl, ?hvB, rfl⟩
        case hvB => rw [← hrv _ rfl]; exact ⟨⟨b, tb, rfl, hb⟩, hv⟩
  case done =>
    rintro m₁ nx h1 tk1 ⟨rvs, n, tp, e0, e1, e2, hv, rfl⟩ F1 N1
    have hrl8 : rvs.length = 8 := by rw [hv.length, List.length_reverse, List.length_map, List.length_range]
    rw [see_all [(Str.ofString "rows", .ref rl)] (List.forall_mem_cons.mpr ⟨e2, List.forall_mem_nil _⟩)] at F1
    clear lF lN lR lR8
    (repeat' (first | (k_unfold; (try dsimp only)) | (k_end; wrow_close) | ((with_reducible show wpAny _ _ (binaryOp Operator.FloorDiv (Value.int _ _) (Value.int _ _)) _ _ _); k_here; (refine Mine.fdivP (by omega) ?_); intro _ _) | ((with_reducible show wpAny _ _ (binaryOp Operator.Pow (Value.int _ _) (Value.int _ _)) _ _ _); k_here; (refine Mine.pow2 (by omega) (by omega) ?_); intro _ _) | ((with_reducible show wpAny _ _ (call (Value.builtin "dict.get") [Value.ref _, Value.int _ _, Value.bytes _ _]) _ _ _); k_here; k_dflt (refine' Mine.lvl_get ?N ?m ?d ?lo ?ok ?e ?x ?_; (case N => k_asm); (case m => (first | k_mem | walk_at "mine tail")); (case d => k_asm); (case lo => k_asm); (case ok => k_asm); (case e => assumption); (case x => omega)); intro _ _ _ _ _) | ((with_reducible show wpAny _ _ (call (Value.builtin "list.insert") _) _ _ _); k_here; (refine' Mine.insert_L ?k1 ?k2 ?k3 ?_ ?z; (case k1 => k_asm); (case k2 => k_asm); (case k3 => k_dflt k_upd); (case z => omega); k_whole); intro _ _ _; (try k_sweep)) | ((with_reducible show wpAny _ _ (call (Value.ref _) _) _ _ _); k_here; (rename Mine.Mark => stopMark); (first | refine Mine.stop_call (by decide) ?_ | ((rename Mine.MarkU => stopMarkU); refine Mine.stop_callU (by decide) ?_))) | ((with_reducible show wpAny _ _ (call (Value.type "tuple") [Value.ref _]) _ _ _); k_here; (refine' Mine.tuple_L ?F ?N ?l ?z ?_; (case F => k_asm); (case N => k_asm); (case l => k_dflt k_mem); (case z => omega)); intro _ _ _ _ l9'; (try k_lt l9'); (try k_sweep)) | ((with_reducible show wpAny _ _ (getMethod (Value.type "int") _ _) _ _ _); k_here; (refine KFB.getm (by k_asm) (by k_asm) (by k_asm) (by k_is) ?_); intro _ _ _ _ l9'; (try k_lt l9'); (try k_sweep)) | ((with_reducible show wpAny _ _ (pyIter (Value.ref _)) _ _ _); k_here; (rename Mine.Mark => stopMark); refine Mine.stop_at ?_) | ((with_reducible show wpAny _ _ (subscriptTail (Expr.Name _ _) (Expr.Name _ _) (Value.ref _) (Value.int _ _)) _ _ _); k_here; k_dflt (first | (refine' Mine.item_L ?N ?l ?x ?v ?z ?_; (case N => k_asm); (case l => k_mem); (case v => assumption); (case x => first | rfl | omega); (case z => omega)) | (refine' Mine.item_T ?N ?l ?x ?v ?z ?_; (case N => k_asm); (case l => k_mem); (case v => assumption); (case x => first | rfl | omega); (case z => omega)))) | walk1 | (dsimp only; walk1) | (leave1; walk_say "STEP leave1"; try dsimp only)))
    (rename ∀ p ∈ (_ :: _ : List (Addr × Obj)), _ < _ => hltD)
    exact ret _ _ _ _ (by assumption) (by (first | assumption | exact cb_drop (by assumption) (by walk_at "mine sub"))) (fun p hp => hltD p (.tail _ hp)) hv
end Mine
namespace Mine
inductive ParJ (a b : Nat) (news : List (Addr × Obj)) (n : Nat) (m : Str → Option Value) (nx : List (Addr × Obj)) : Prop where
  | mk (p : Nat) (ta tb tp : Tok) (e0 : m (Str.ofString "left") = some (.int (a : Int) ta)) (e1 : m (Str.ofString "right") = some (.int (b : Int) tb)) (e2 : m (Str.ofString "place") = some (.int (p : Int) tp)) (hn : n = 8 - p) (hp : p ≤ 7)
    (hj : ∀ j, j < p → a / 2 ^ (7 - j) = b / 2 ^ (7 - j)) (hnx : nx = news) : ParJ a b news n m nx
set_option maxHeartbeats 1000000 in
theorem c_parting (w : World) {gd : Option (List Code)} {cn : Str} {cs : Scope} {a : Addr} {ccd : Value} {cl : List (Str × Addr)} {outer : List Env} {A₀ : Around} {base h₀ : Heap} {L : Addr} {m mg mb : Str → Option Value}
    {p : Program} {loose : List Str} {mean : ExcName → Option Value} {s : Shared} {R : Result → Shared → Prop} {news : List (Addr × Obj)} {u v : UInt8} {t1 t2 : Tok}
    (B : Below A₀ base outer h₀) (F : Fr h₀ L s.heap m) (X : (Mine.z.heap_1_39 w.params).In h₀) (T : Top p loose mean mg mb h₀) (hk : cs.kind = .function) (N : News h₀ L s.heap news) (huv : u ≠ v)
    (ret : ∀ (p : Nat) t h' tk', Fr h₀ L h' m → News h₀ L h' news → PartAt u.toNat v.toNat p → R (.ok (.ret (.int (p : Int) t))) { s with heap := h', toks := tk' }) :
    codeAny (model PySem.Challenge.rw_iu0037_01.row.prog w) (ctop 900 9000 gd cn cs L a ccd cl outer) (.call (.ref 274) ⟨[.bytes #[u] t1, .bytes #[v] t2], []⟩) R s := by
  revert X; k_fill; w_top off; intro X
  have mk9 := Mark.mk
  have huv2 : u.toNat ≠ v.toNat := fun e => huv (UInt8.toNat_inj.mp e)
  have hu := u.toNat_lt
  have hv := v.toNat_lt
  k_dflt cell_enter
  (repeat' (first | (k_unfold; (try dsimp only)) | (k_end; wrow_close) | ((with_reducible show wpAny _ _ (binaryOp Operator.FloorDiv (Value.int _ _) (Value.int _ _)) _ _ _); k_here; (refine Mine.fdivP (by omega) ?_); intro _ _) | ((with_reducible show wpAny _ _ (binaryOp Operator.Pow (Value.int _ _) (Value.int _ _)) _ _ _); k_here; (refine Mine.pow2 (by omega) (by omega) ?_); intro _ _) | ((with_reducible show wpAny _ _ (exec (Stmt.While (Expr.Compare _ _ _ _) _ [] _) _) _ _ _); k_here; (rename Mine.Mark => stopMark); refine Mine.stop_at ?_) | walk1 | (dsimp only; walk1) | (leave1; walk_say "STEP leave1"; try dsimp only)))
  unfold Stop
  (rename Fr _ _ _ _ => lF); (rename News _ _ _ _ => lN)
  refine' While_inv (news := news) (ParJ u.toNat v.toNat news) (n₀ := 8) lF (cb_drop lN ?sub) ?j0 ?turn
  case j0 => exact ⟨0, _, _, _, rfl, rfl, rfl, rfl, by omega, fun j hj => absurd hj (Nat.not_lt_zero j), rfl⟩
  case sub => walk_at "mine sub"
  case turn =>
    rintro n m₁ nx h1 tk1 F1 N1 ⟨p, ta, tb, tp, e0, e1, e2, rfl, hp, hj, rfl⟩
    rw [see_all [(Str.ofString "left", .int (u.toNat : Int) ta), (Str.ofString "right", .int (v.toNat : Int) tb), (Str.ofString "place", .int (p : Int) tp)]
      (List.forall_mem_cons.mpr ⟨e0, List.forall_mem_cons.mpr ⟨e1, List.forall_mem_cons.mpr ⟨e2, List.forall_mem_nil _⟩⟩⟩)] at F1
    clear lF lN
    have e7 : (7 - (p : Int)).toNat = 7 - p := ixL (by omega)
    (repeat' (first | (k_unfold; (try dsimp only)) | (k_end; wrow_close) | ((with_reducible show wpAny _ _ (binaryOp Operator.FloorDiv (Value.int _ _) (Value.int _ _)) _ _ _); k_here; (refine Mine.fdivP (by omega) ?_); intro _ _) | ((with_reducible show wpAny _ _ (binaryOp Operator.Pow (Value.int _ _) (Value.int _ _)) _ _ _); k_here; (refine Mine.pow2 (by omega) (by omega) ?_); intro _ _) | ((with_reducible show wpAny _ _ (exec (Stmt.While (Expr.Compare _ _ _ _) _ [] _) _) _ _ _); k_here; (rename Mine.Mark => stopMark); refine Mine.stop_at ?_) | walk1 | (dsimp only; walk1) | (leave1; walk_say "STEP leave1"; try dsimp only)))
    · (rename _ = _ => heq); (rename Fr _ _ _ _ => lF); (rename News _ _ _ _ => lN)
      have heq : u.toNat / 2 ^ (7 - p) = v.toNat / 2 ^ (7 - p) := by rw [e7] at heq; exact Int.ofNat.inj heq
      have hp7 : p < 7 := by
        rcases Nat.lt_or_ge p 7 with h | h
        · exact h
        · rw [show 7 - p = 0 by omega, Nat.pow_zero, Nat.div_one, Nat.div_one] at heq
          exact absurd heq huv2
      exact WhileStep.intro (n' := 8 - (p + 1)) lF lN (by omega) ⟨p + 1, _, _, _, rfl, rfl, some_int rfl (by omega), rfl, by omega, fun j hjp => (Nat.lt_or_ge j p).elim (hj j) fun h => by rw [show j = p by omega]; exact heq, rfl⟩
    · (rename _ ≠ _ => hne)
      refine ret p _ _ _ (by assumption) (by (first | assumption | exact cb_drop (by assumption) (by walk_at "mine sub"))) ⟨hp, hj, fun e => hne ?_⟩
      rw [e7, e]
end Mine
namespace Mine
set_option maxHeartbeats 2000000 in
theorem c_proof (w : World) {gd : Option (List Code)} {cn : Str} {cs : Scope} {a : Addr} {ccd : Value} {cl : List (Str × Addr)} {outer : List Env} {A₀ : Around} {base h₀ : Heap} {L : Addr} {m mg mb : Str → Option Value}
    {p : Program} {loose : List Str} {mean : ExcName → Option Value} {s : Shared} {R : Result → Shared → Prop} {news : List (Addr × Obj)} {b0 f : Addr} {u : UInt8} {va : Array UInt8} {tk tv : Tok} {bvs : List Value} {n : Nat} {Q E : Value → Shared → Prop}
    (B : Below A₀ base outer h₀) (F : Fr h₀ L s.heap m) (X : (Mine.z.heap_1_39 w.params).In h₀) (T : Top p loose mean mg mb h₀) (hk : cs.kind = .function) (N : News h₀ L s.heap ((b0, W.listOf bvs.toArray n) :: news)) (hb8 : bvs.length = 8)
    (ret : ∀ (pf pd bl : Addr) (y : PD) (c : Nat) h' tk', Fr h₀ L h' m → News h₀ L h' ((bl, W.listOf bvs.toArray c) :: (pf, instObj 111 pd) :: (pd, pdOf y (.bytes #[u] tk) (.bytes va tv) bl f) :: news) →
      @LT.lt Nat _ pf bl → @LT.lt Nat _ pd bl → (∀ p ∈ news, p.1 < bl) → (∀ p ∈ news, p.1 < pf) → (∀ p ∈ news, p.1 < pd) → @Ne Nat pf pd → Q (.ref pf) { s with heap := h', toks := tk' }) :
    wpAny (model PySem.Challenge.rw_iu0037_01.row.prog w) (ctop 800 8000 gd cn cs L a ccd cl outer) (call (.ref 111) [.bytes #[u] tk, .bytes va tv, .ref b0, .ref f]) Q E s := by
  revert X; k_fill; w_top off; intro X
  have mk9 := Mark.mk
  have hsz1 : (#[u] : Array UInt8).size = 1 := rfl
  k_dflt (refine' call_cls ?k1 ?k2 ?k3 ?k4 ?k5 ?k6 ?_; (case k1 => k_asm); (case k2 => k_asm); (case k3 => k_asm); (case k4 => k_is); (case k5 => k_is); (case k6 => k_is); k_whole; intro x' d' h' F' N' l1 l2; (try k_lt l1); (try k_lt2 l2); (refine' code_def ?k1 ?k2 ?k3 ?k4 ?k5 ?kA ?kF ?kK ?k6 ?k7 ?k8 ?k9 ?kB ?_ ?c2 ?c3 ?c4 ?c5; (case kA => exact rfl); (case kF => exact rfl); (case kK => assumption); (case k1 => k_asm); (case k2 => k_asm); (case k3 => k_asm); (case k4 => k_asm); (case k5 => k_asm); (case k6 => k_is); (case k7 => k_is); (case k8 => ktr_room); (case k9 => first | exact BindsTo.of_eq rfl | exact binds_K (by k_in) rfl (by k_is) rfl rfl rfl); (case c5 => decide); (case kB => exact locs rfl); (case c2 => exact rfl); (case c3 => exact rfl); (case c4 => exact rfl); k_whole; intro g9' _ _ _ _ _ B9' _ _; (try dsimp only); (try k_lift B9'); (try k_fold)))
  (repeat' (first | (k_unfold; (try dsimp only)) | (k_end; wrow_close) | ((with_reducible show wpAny _ _ (call (Value.builtin "len") [Value.ref _]) _ _ _); k_here; k_dflt (refine Mine.len_LL (by k_asm) (by k_mem) (by omega) ?_; intro _ _)) | ((with_reducible show wpAny _ _ (call (Value.type "list") [Value.ref _]) _ _ _); k_here; k_dflt (first | (refine' Mine.list_LL ?F ?N ?l ?z ?_; (case F => k_asm); (case N => k_asm); (case l => k_mem); (case z => omega)) | (refine' Mine.list_LT ?F ?N ?l ?z ?_; (case F => k_asm); (case N => k_asm); (case l => k_mem); (case z => omega))); intro _ _ _ _ _ l9'; (try k_lt l9'); (try k_sweep)) | ((with_reducible show wpAny _ _ (compareOp CmpOp.NotEq (Value.int _ _) (Value.int _ _)) _ _ _); k_here; (rename Mine.Mark => stopMark); (refine Mine.ne_int_same (by first | omega | k_dflt rfl) ?_)) | walk1 | (dsimp only; walk1) | (leave1; walk_say "STEP leave1"; try dsimp only)))
  (rename News _ _ _ _ => lN)
  rw [hb8] at lN
  refine ret x' d' _ ⟨_, _, _, _, _, _, _, _, _, _, _, _, _, _⟩ _ _ _ (by assumption) (by with_unfolding_all exact cb_drop lN (by walk_at "mine sub")) ?b1 ?b2 ?b3 ?b4 ?b5 ?b6
  case b1 => exact (‹x' < _ ∧ d' < _ ∧ b0 < _ ∧ AllLt _ news›).1
  case b2 => exact (‹x' < _ ∧ d' < _ ∧ b0 < _ ∧ AllLt _ news›).2.1
  case b3 => exact all_of_allLt (‹x' < _ ∧ d' < _ ∧ b0 < _ ∧ AllLt _ news›).2.2.2
  case b4 => exact fun p hp => Nat.lt_trans (all_of_allLt (‹b0 < d' ∧ AllLt _ news›).2 p hp) ‹d' < x'›
  case b5 => exact all_of_allLt (‹b0 < d' ∧ AllLt _ news›).2
  case b6 => exact Nat.ne_of_gt ‹d' < x'›
end Mine
namespace Mine
set_option maxHeartbeats 4000000 in
theorem c_kept (w : World) {gd : Option (List Code)} {cn : Str} {cs : Scope} {a : Addr} {ccd : Value} {cl : List (Str × Addr)} {outer : List Env} {A₀ : Around} {base h₀ : Heap} {L : Addr} {m mg mb : Str → Option Value}
    {p : Program} {loose : List Str} {mean : ExcName → Option Value} {s : Shared} {R : Result → Shared → Prop} {rest : List (Addr × Obj)} {pf pd bl hl r f : Addr} {y : PD} {u : UInt8} {tk1 tk2 tv dt : Tok} {va da : Array UInt8} {bvs : List Value} {c : Nat} {od oh : Obj} {kvs kvh : List (By × Value)} {reg : List By} {nd0 : Nat → Nat → By}
    (B : Below A₀ base outer h₀) (F : Fr h₀ L s.heap m) (X : (Mine.z.heap_1_39 w.params).In h₀) (T : Top p loose mean mg mb h₀) (hk : cs.kind = .function) (N : News h₀ L s.heap ((r, od) :: rest)) (hoff : ∀ p ∈ rest, p.1 ≠ r) (hlo : (r == sysModules) = false) (H : HashAt rest f r)
    (hd : od.IsDictOf (bytesKind PySem.Challenge.rw_iu0037_01.row.prog w) kvs) (hr : RegIs kvs reg) (hz : reg.length ≤ 800000)
    (hpf : (pf, instObj 111 pd) ∈ rest) (hpd : (pd, pdOf y (.bytes #[u] tk1) (.bytes va tv) bl f) ∈ rest) (hbl : (bl, W.listOf bvs.toArray c) ∈ rest)
    (hmem : (hl, oh) ∈ rest) (hh : oh.IsDictOf (bytesKind PySem.Challenge.rw_iu0037_01.row.prog w) kvh) (hhlo : (hl == sysModules) = false) (hok : HeldOk kvh) (hhz : kvh.length ≤ 20)
    (hva : va.toList = heldVal kvh da.toList u.toNat) (hnd : Nodes reg (heldVal kvh da.toList) nd0) (hb : BsAre bvs (beside nd0 u.toNat))
    (ret : ∀ od' kvs' reg' h' tk', Fr h₀ L h' m → News h₀ L h' ((r, od') :: rest) → od'.IsDictOf (bytesKind PySem.Challenge.rw_iu0037_01.row.prog w) kvs' → RegIs kvs' reg' → reg <+: reg' → reg'.length ≤ reg.length + 6000 →
      R (.ok (.ret (.bool true))) { s with heap := h', toks := tk' }) :
    codeAny (model PySem.Challenge.rw_iu0037_01.row.prog w) (ctop 600 6000 gd cn cs L a ccd cl outer) (.call (.ref 281) ⟨[.ref pf, .bytes #[u] tk2, .ref hl, .bytes da dt, .ref f], []⟩) R s := by
  revert X; k_fill; w_top off; intro X
  have mk9 := Mark.mk
  have hb8 : bvs.length = 8 := by rw [hb.length, beside_length]
  have hu := u.toNat_lt
  have n1 := hoff _ hpf
  have n2 := hoff _ hpd
  have n3 := hoff _ hbl
  k_dflt cell_enter
  (repeat' (first | (k_unfold; (try dsimp only)) | (k_end; wrow_close) | ((with_reducible show wpAny _ _ (call (Value.builtin "dict.get") [Value.ref _, Value.bytes _ _, Value.bytes _ _]) _ _ _); k_here; k_dflt (refine' Mine.held_get ?N ?m ?d ?lo ?ok ?_; (case N => k_asm); (case m => (first | k_mem | walk_at "mine tail")); (case d => k_asm); (case lo => k_asm); (case ok => k_asm)); intro _ _ _ _) | ((with_reducible show wpAny _ _ (call (Value.ref _) _) _ _ _); k_here; (rename Mine.Mark => stopMark); (first | refine Mine.stop_call (by decide) ?_ | ((rename Mine.MarkU => stopMarkU); refine Mine.stop_callU (by decide) ?_))) | ((with_reducible show wpAny _ _ (call (Value.type "tuple") [Value.ref _]) _ _ _); k_here; (refine' Mine.tuple_L ?F ?N ?l ?z ?_; (case F => k_asm); (case N => k_asm); (case l => k_dflt k_mem); (case z => omega)); intro _ _ _ _ l9'; (try k_lt l9'); (try k_sweep)) | ((with_reducible show wpAny _ _ (compareOp CmpOp.Eq (Value.bytes _ _) (Value.bytes _ _)) _ _ _); k_here; (rename Mine.Mark => stopMark); (first | refine Mine.eq_diff (by assumption) ?_ | refine Mine.eq_diff (fun e => absurd (Eq.trans e (by assumption)) (by assumption)) ?_ | refine Mine.eq_same (by k_dflt (first | rfl | assumption | exact Eq.trans (by assumption) (Eq.symm (by assumption)))) ?_)) | ((with_reducible show wpAny _ _ (compareOp CmpOp.NotEq (Value.bytes _ _) (Value.bytes _ _)) _ _ _); k_here; (rename Mine.Mark => stopMark); (refine Mine.ne_same (by k_dflt (first | rfl | assumption | exact Eq.trans (by assumption) (Eq.symm (by assumption)))) ?_)) | ((with_reducible show wpAny _ _ (compareOp CmpOp.NotEq (Value.ref _) (Value.ref _)) _ _ _); k_here; (rename Mine.Mark => stopMark); (refine Mine.ne_TTsame (by k_asm) (by k_dflt (first | k_mem | walk_at "mine tail")) (by k_dflt (first | k_mem | walk_at "mine tail")) (by assumption) (by assumption) (by k_dflt (first | exact Nat.le_of_ble_eq_true rfl | ((have hcl9 := cLine_is); (simp only [units_under_make, units_in1, units_deeper, cLine] at *; omega)))) ?_)) | ((with_reducible show wpAny _ _ (getMethod (Value.ref _) (PySem.Str.ofString "get") _) _ _ _); k_here; (first | refine kdg_method (knd := PySem.intKind _ _) (by k_asm) (by k_mem) (by k_asm) ?_ | refine kdg_method (knd := PySem.W.bytesKind _ _) (by k_asm) (by (first | k_mem | walk_at "mine tail")) (by k_asm) ?_)) | walk1 | (dsimp only; walk1) | (leave1; walk_say "STEP leave1"; try dsimp only)))
  unfold Stop
  refine' useC ?frA ?h1A ?h2A ?h3A (c_levels w (rest := rest) ?BA ?FA ?XA ?TA ?hkA (cb_drop ?NA ?subA) hoff hlo H hd hr ?hzA hmem hh hhlo hok hhz ?retA)
  case FA => k_asm
  case BA => k_asm
  case XA => k_asm
  case TA => k_asm
  case NA => k_asm
  case subA => walk_at "mine sub"
  case frA => exact rfl
  case h1A => exact rfl
  case hkA => exact rfl
  case h2A => (first | exact Nat.le_of_ble_eq_true rfl | ((simp only [depth_under_make, depth_in1, depth_deeper, units_under_make, units_in1, units_deeper]); exact Nat.le_of_ble_eq_true rfl))
  case h3A => (first | exact Nat.le_of_ble_eq_true rfl | ((simp only [depth_under_make, depth_in1, depth_deeper, units_under_make, units_in1, units_deeper]); exact Nat.le_of_ble_eq_true rfl))
  case hzA => omega
  case retA =>
    intro kt kn nd od1 kvs1 reg1 h2 tk2 F2 N2 hlt KA hd1 hr1 hp1 hl1 hN1
    show wpAny _ _ _ _ _ _
    have e1 : beside nd u.toNat = beside nd0 u.toNat := beside_uniq hr1.nodup hN1 (hnd.mono hp1) hu
    have e2 : nd 8 0 = nd0 8 0 := hN1.uniq hr1.nodup (hnd.mono hp1) 8 0 (by omega) (by decide)
    have hkn : ∀ p ∈ kn, p.1 ≠ r := fun p hp => Nat.ne_of_gt (hlt p hp _ (.head _))
    have hoffT : ∀ p ∈ kn ++ rest, p.1 ≠ r := forall_app hkn hoff
    have hT2 : HashAt (kn ++ rest) f r := H.mono fun p hp => List.mem_append_right _ hp
    have hknT : ∀ p ∈ kn, p ∈ kn ++ rest := fun p hp => List.mem_append_left _ hp
    have hmemT : (hl, oh) ∈ kn ++ rest := List.mem_append_right _ hmem
    have hreT : ∀ p ∈ rest, p ∈ kn ++ rest := fun p hp => List.mem_append_right _ hp
    have N3 : News _ _ h2 ((r, od1) :: (pf, instObj 111 pd) :: (pd, pdOf y (.bytes #[u] tk1) (.bytes va tv) bl f) :: (bl, W.listOf bvs.toArray c) :: (kn ++ rest)) := cb_drop N2 (List.forall_mem_cons.mpr ⟨.head _, List.forall_mem_cons.mpr ⟨.tail _ (hreT _ hpf), List.forall_mem_cons.mpr ⟨.tail _ (hreT _ hpd), List.forall_mem_cons.mpr ⟨.tail _ (hreT _ hbl), fun _ hp => .tail _ hp⟩⟩⟩⟩)
    generalize htl : kn ++ rest = tl at N3 hoffT hT2 hknT hmemT hreT
    have hoffX : ∀ p ∈ ((pf, instObj 111 pd) :: (pd, pdOf y (.bytes #[u] tk1) (.bytes va tv) bl f) :: (bl, W.listOf bvs.toArray c) :: tl : List (Addr × Obj)), p.1 ≠ r := List.forall_mem_cons.mpr ⟨n1, List.forall_mem_cons.mpr ⟨n2, List.forall_mem_cons.mpr ⟨n3, hoffT⟩⟩⟩
    have HX : HashAt ((pf, instObj 111 pd) :: (pd, pdOf y (.bytes #[u] tk1) (.bytes va tv) bl f) :: (bl, W.listOf bvs.toArray c) :: tl) f r := hT2.mono fun p hp => .tail _ (.tail _ (.tail _ hp))
    clear N2 H
    (repeat' (first | (k_unfold; (try dsimp only)) | (k_end; wrow_close) | ((with_reducible show wpAny _ _ (call (Value.builtin "dict.get") [Value.ref _, Value.bytes _ _, Value.bytes _ _]) _ _ _); k_here; k_dflt (refine' Mine.held_get ?N ?m ?d ?lo ?ok ?_; (case N => k_asm); (case m => (first | k_mem | walk_at "mine tail")); (case d => k_asm); (case lo => k_asm); (case ok => k_asm)); intro _ _ _ _) | ((with_reducible show wpAny _ _ (call (Value.ref _) _) _ _ _); k_here; (rename Mine.Mark => stopMark); (first | refine Mine.stop_call (by decide) ?_ | ((rename Mine.MarkU => stopMarkU); refine Mine.stop_callU (by decide) ?_))) | ((with_reducible show wpAny _ _ (call (Value.type "tuple") [Value.ref _]) _ _ _); k_here; (refine' Mine.tuple_L ?F ?N ?l ?z ?_; (case F => k_asm); (case N => k_asm); (case l => k_dflt k_mem); (case z => omega)); intro _ _ _ _ l9'; (try k_lt l9'); (try k_sweep)) | ((with_reducible show wpAny _ _ (compareOp CmpOp.Eq (Value.bytes _ _) (Value.bytes _ _)) _ _ _); k_here; (rename Mine.Mark => stopMark); (first | refine Mine.eq_diff (by assumption) ?_ | refine Mine.eq_diff (fun e => absurd (Eq.trans e (by assumption)) (by assumption)) ?_ | refine Mine.eq_same (by k_dflt (first | rfl | assumption | exact Eq.trans (by assumption) (Eq.symm (by assumption)))) ?_)) | ((with_reducible show wpAny _ _ (compareOp CmpOp.NotEq (Value.bytes _ _) (Value.bytes _ _)) _ _ _); k_here; (rename Mine.Mark => stopMark); (refine Mine.ne_same (by k_dflt (first | rfl | assumption | exact Eq.trans (by assumption) (Eq.symm (by assumption)))) ?_)) | ((with_reducible show wpAny _ _ (compareOp CmpOp.NotEq (Value.ref _) (Value.ref _)) _ _ _); k_here; (rename Mine.Mark => stopMark); (refine Mine.ne_TTsame (by k_asm) (by k_dflt (first | k_mem | walk_at "mine tail")) (by k_dflt (first | k_mem | walk_at "mine tail")) (by assumption) (by assumption) (by k_dflt (first | exact Nat.le_of_ble_eq_true rfl | ((have hcl9 := cLine_is); (simp only [units_under_make, units_in1, units_deeper, cLine] at *; omega)))) ?_)) | ((with_reducible show wpAny _ _ (getMethod (Value.ref _) (PySem.Str.ofString "get") _) _ _ _); k_here; (first | refine kdg_method (knd := PySem.intKind _ _) (by k_asm) (by k_mem) (by k_asm) ?_ | refine kdg_method (knd := PySem.W.bytesKind _ _) (by k_asm) (by (first | k_mem | walk_at "mine tail")) (by k_asm) ?_)) | walk1 | (dsimp only; walk1) | (leave1; walk_say "STEP leave1"; try dsimp only)))
    unfold Stop
    refine' useC ?frB ?h1B ?h2B ?h3B (c_beside w (kn := kn) (nd := nd) ?BB ?FB ?XB ?TB ?hkB (cb_drop ?NB ?subB) ?knB KA ?retB)
    case FB => k_asm
    case BB => k_asm
    case XB => k_asm
    case TB => k_asm
    case NB => k_asm
    case subB => walk_at "mine sub"
    case frB => exact rfl
    case h1B => exact rfl
    case hkB => exact rfl
    case h2B => (first | exact Nat.le_of_ble_eq_true rfl | ((simp only [depth_under_make, depth_in1, depth_deeper, units_under_make, units_in1, units_deeper]); exact Nat.le_of_ble_eq_true rfl))
    case h3B => (first | exact Nat.le_of_ble_eq_true rfl | ((simp only [depth_under_make, depth_in1, depth_deeper, units_under_make, units_in1, units_deeper]); exact Nat.le_of_ble_eq_true rfl))
    case knB => exact fun p hp => .tail _ (.tail _ (.tail _ (.tail _ (.tail _ (hknT p hp)))))
    case retB =>
      intro bt2 bvs2 h3 tk3 F3 N3 hlt3 hbv2
      show wpAny _ _ _ _ _ _
      rw [e1] at hbv2
      (repeat' (first | (k_unfold; (try dsimp only)) | (k_end; wrow_close) | ((with_reducible show wpAny _ _ (call (Value.builtin "dict.get") [Value.ref _, Value.bytes _ _, Value.bytes _ _]) _ _ _); k_here; k_dflt (refine' Mine.held_get ?N ?m ?d ?lo ?ok ?_; (case N => k_asm); (case m => (first | k_mem | walk_at "mine tail")); (case d => k_asm); (case lo => k_asm); (case ok => k_asm)); intro _ _ _ _) | ((with_reducible show wpAny _ _ (call (Value.ref _) _) _ _ _); k_here; (rename Mine.Mark => stopMark); (first | refine Mine.stop_call (by decide) ?_ | ((rename Mine.MarkU => stopMarkU); refine Mine.stop_callU (by decide) ?_))) | ((with_reducible show wpAny _ _ (call (Value.type "tuple") [Value.ref _]) _ _ _); k_here; (refine' Mine.tuple_L ?F ?N ?l ?z ?_; (case F => k_asm); (case N => k_asm); (case l => k_dflt k_mem); (case z => omega)); intro _ _ _ _ l9'; (try k_lt l9'); (try k_sweep)) | ((with_reducible show wpAny _ _ (compareOp CmpOp.Eq (Value.bytes _ _) (Value.bytes _ _)) _ _ _); k_here; (rename Mine.Mark => stopMark); (first | refine Mine.eq_diff (by assumption) ?_ | refine Mine.eq_diff (fun e => absurd (Eq.trans e (by assumption)) (by assumption)) ?_ | refine Mine.eq_same (by k_dflt (first | rfl | assumption | exact Eq.trans (by assumption) (Eq.symm (by assumption)))) ?_)) | ((with_reducible show wpAny _ _ (compareOp CmpOp.NotEq (Value.bytes _ _) (Value.bytes _ _)) _ _ _); k_here; (rename Mine.Mark => stopMark); (refine Mine.ne_same (by k_dflt (first | rfl | assumption | exact Eq.trans (by assumption) (Eq.symm (by assumption)))) ?_)) | ((with_reducible show wpAny _ _ (compareOp CmpOp.NotEq (Value.ref _) (Value.ref _)) _ _ _); k_here; (rename Mine.Mark => stopMark); (refine Mine.ne_TTsame (by k_asm) (by k_dflt (first | k_mem | walk_at "mine tail")) (by k_dflt (first | k_mem | walk_at "mine tail")) (by assumption) (by assumption) (by k_dflt (first | exact Nat.le_of_ble_eq_true rfl | ((have hcl9 := cLine_is); (simp only [units_under_make, units_in1, units_deeper, cLine] at *; omega)))) ?_)) | ((with_reducible show wpAny _ _ (getMethod (Value.ref _) (PySem.Str.ofString "get") _) _ _ _); k_here; (first | refine kdg_method (knd := PySem.intKind _ _) (by k_asm) (by k_mem) (by k_asm) ?_ | refine kdg_method (knd := PySem.W.bytesKind _ _) (by k_asm) (by (first | k_mem | walk_at "mine tail")) (by k_asm) ?_)) | walk1 | (dsimp only; walk1) | (leave1; walk_say "STEP leave1"; try dsimp only)))
      unfold Stop
      refine' useC ?frC ?h1C ?h2C ?h3C (c_calc w (rest := (pf, instObj 111 pd) :: (pd, pdOf y (.bytes #[u] tk1) (.bytes va tv) bl f) :: (bl, W.listOf bvs.toArray c) :: tl) (bs := beside nd0 u.toNat) ?BC ?FC ?XC ?TC ?hkC (cb_drop ?NC ?subC) hoffX hlo HX hd1 hr1 ?hzC hb ?hb8C ?hbzC ?retC)
      case FC => k_asm
      case BC => k_asm
      case XC => k_asm
      case TC => k_asm
      case NC => k_asm
      case subC => walk_at "mine sub"
      case frC => exact rfl
      case h1C => exact rfl
      case hkC => exact rfl
      case h2C => (first | exact Nat.le_of_ble_eq_true rfl | ((simp only [depth_under_make, depth_in1, depth_deeper, units_under_make, units_in1, units_deeper]); exact Nat.le_of_ble_eq_true rfl))
      case h3C => (first | exact Nat.le_of_ble_eq_true rfl | ((simp only [depth_under_make, depth_in1, depth_deeper, units_under_make, units_in1, units_deeper]); exact Nat.le_of_ble_eq_true rfl))
      case hzC => omega
      case hb8C => exact beside_length _ _
      case hbzC => exact beside_small hnd hu
      case retC =>
        intro rb trb od2 kvs2 reg2 hs h4 tk4 F4 N4 hd2 hr2 hp2 hl2 hw hrb
        dsimp only
        rw [hw.root hr2.nodup (hnd.mono (hp1.trans hp2)) hu hva] at hrb
        (repeat' (first | (k_unfold; (try dsimp only)) | (k_end; wrow_close) | ((with_reducible show wpAny _ _ (call (Value.builtin "dict.get") [Value.ref _, Value.bytes _ _, Value.bytes _ _]) _ _ _); k_here; k_dflt (refine' Mine.held_get ?N ?m ?d ?lo ?ok ?_; (case N => k_asm); (case m => (first | k_mem | walk_at "mine tail")); (case d => k_asm); (case lo => k_asm); (case ok => k_asm)); intro _ _ _ _) | ((with_reducible show wpAny _ _ (call (Value.ref _) _) _ _ _); k_here; (rename Mine.Mark => stopMark); (first | refine Mine.stop_call (by decide) ?_ | ((rename Mine.MarkU => stopMarkU); refine Mine.stop_callU (by decide) ?_))) | ((with_reducible show wpAny _ _ (call (Value.type "tuple") [Value.ref _]) _ _ _); k_here; (refine' Mine.tuple_L ?F ?N ?l ?z ?_; (case F => k_asm); (case N => k_asm); (case l => k_dflt k_mem); (case z => omega)); intro _ _ _ _ l9'; (try k_lt l9'); (try k_sweep)) | ((with_reducible show wpAny _ _ (compareOp CmpOp.Eq (Value.bytes _ _) (Value.bytes _ _)) _ _ _); k_here; (rename Mine.Mark => stopMark); (first | refine Mine.eq_diff (by assumption) ?_ | refine Mine.eq_diff (fun e => absurd (Eq.trans e (by assumption)) (by assumption)) ?_ | refine Mine.eq_same (by k_dflt (first | rfl | assumption | exact Eq.trans (by assumption) (Eq.symm (by assumption)))) ?_)) | ((with_reducible show wpAny _ _ (compareOp CmpOp.NotEq (Value.bytes _ _) (Value.bytes _ _)) _ _ _); k_here; (rename Mine.Mark => stopMark); (refine Mine.ne_same (by k_dflt (first | rfl | assumption | exact Eq.trans (by assumption) (Eq.symm (by assumption)))) ?_)) | ((with_reducible show wpAny _ _ (compareOp CmpOp.NotEq (Value.ref _) (Value.ref _)) _ _ _); k_here; (rename Mine.Mark => stopMark); (refine Mine.ne_TTsame (by k_asm) (by k_dflt (first | k_mem | walk_at "mine tail")) (by k_dflt (first | k_mem | walk_at "mine tail")) (by assumption) (by assumption) (by k_dflt (first | exact Nat.le_of_ble_eq_true rfl | ((have hcl9 := cLine_is); (simp only [units_under_make, units_in1, units_deeper, cLine] at *; omega)))) ?_)) | ((with_reducible show wpAny _ _ (getMethod (Value.ref _) (PySem.Str.ofString "get") _) _ _ _); k_here; (first | refine kdg_method (knd := PySem.intKind _ _) (by k_asm) (by k_mem) (by k_asm) ?_ | refine kdg_method (knd := PySem.W.bytesKind _ _) (by k_asm) (by (first | k_mem | walk_at "mine tail")) (by k_asm) ?_)) | walk1 | (dsimp only; walk1) | (leave1; walk_say "STEP leave1"; try dsimp only)))
        unfold Stop
        refine' useC ?frD ?h1D ?h2D ?h3D (c_node w (kn := kn) (nd := nd) (k := 8) ?BD ?FD ?XD ?TD ?hkD (cb_drop ?ND ?subD) ?knD KA rfl (by omega) (by omega) ?retD)
        case FD => k_asm
        case BD => k_asm
        case XD => k_asm
        case TD => k_asm
        case ND => k_asm
        case subD => walk_at "mine sub"
        case frD => exact rfl
        case h1D => exact rfl
        case hkD => exact rfl
        case h2D => (first | exact Nat.le_of_ble_eq_true rfl | ((simp only [depth_under_make, depth_in1, depth_deeper, units_under_make, units_in1, units_deeper]); exact Nat.le_of_ble_eq_true rfl))
        case h3D => (first | exact Nat.le_of_ble_eq_true rfl | ((simp only [depth_under_make, depth_in1, depth_deeper, units_under_make, units_in1, units_deeper]); exact Nat.le_of_ble_eq_true rfl))
        case knD => exact fun p hp => .tail _ (.tail _ (.tail _ (.tail _ (.tail _ (hknT p hp)))))
        case retD =>
          intro nb tnb h5 tk5 F5 N5 hnb hnbz
          show wpAny _ _ _ _ _ _
          replace hnb : nb.toList = nd0 8 0 := hnb.trans e2
          (repeat' (first | (k_unfold; (try dsimp only)) | (k_end; wrow_close) | ((with_reducible show wpAny _ _ (call (Value.builtin "dict.get") [Value.ref _, Value.bytes _ _, Value.bytes _ _]) _ _ _); k_here; k_dflt (refine' Mine.held_get ?N ?m ?d ?lo ?ok ?_; (case N => k_asm); (case m => (first | k_mem | walk_at "mine tail")); (case d => k_asm); (case lo => k_asm); (case ok => k_asm)); intro _ _ _ _) | ((with_reducible show wpAny _ _ (call (Value.ref _) _) _ _ _); k_here; (rename Mine.Mark => stopMark); (first | refine Mine.stop_call (by decide) ?_ | ((rename Mine.MarkU => stopMarkU); refine Mine.stop_callU (by decide) ?_))) | ((with_reducible show wpAny _ _ (call (Value.type "tuple") [Value.ref _]) _ _ _); k_here; (refine' Mine.tuple_L ?F ?N ?l ?z ?_; (case F => k_asm); (case N => k_asm); (case l => k_dflt k_mem); (case z => omega)); intro _ _ _ _ l9'; (try k_lt l9'); (try k_sweep)) | ((with_reducible show wpAny _ _ (compareOp CmpOp.Eq (Value.bytes _ _) (Value.bytes _ _)) _ _ _); k_here; (rename Mine.Mark => stopMark); (first | refine Mine.eq_diff (by assumption) ?_ | refine Mine.eq_diff (fun e => absurd (Eq.trans e (by assumption)) (by assumption)) ?_ | refine Mine.eq_same (by k_dflt (first | rfl | assumption | exact Eq.trans (by assumption) (Eq.symm (by assumption)))) ?_)) | ((with_reducible show wpAny _ _ (compareOp CmpOp.NotEq (Value.bytes _ _) (Value.bytes _ _)) _ _ _); k_here; (rename Mine.Mark => stopMark); (refine Mine.ne_same (by k_dflt (first | rfl | assumption | exact Eq.trans (by assumption) (Eq.symm (by assumption)))) ?_)) | ((with_reducible show wpAny _ _ (compareOp CmpOp.NotEq (Value.ref _) (Value.ref _)) _ _ _); k_here; (rename Mine.Mark => stopMark); (refine Mine.ne_TTsame (by k_asm) (by k_dflt (first | k_mem | walk_at "mine tail")) (by k_dflt (first | k_mem | walk_at "mine tail")) (by assumption) (by assumption) (by k_dflt (first | exact Nat.le_of_ble_eq_true rfl | ((have hcl9 := cLine_is); (simp only [units_under_make, units_in1, units_deeper, cLine] at *; omega)))) ?_)) | ((with_reducible show wpAny _ _ (getMethod (Value.ref _) (PySem.Str.ofString "get") _) _ _ _); k_here; (first | refine kdg_method (knd := PySem.intKind _ _) (by k_asm) (by k_mem) (by k_asm) ?_ | refine kdg_method (knd := PySem.W.bytesKind _ _) (by k_asm) (by (first | k_mem | walk_at "mine tail")) (by k_asm) ?_)) | walk1 | (dsimp only; walk1) | (leave1; walk_say "STEP leave1"; try dsimp only)))
          refine ret _ _ _ _ _ (by assumption) (cb_drop (by assumption) ?sub9) hd2 hr2 (hp1.trans hp2) (by omega)
          case sub9 => exact List.forall_mem_cons.mpr ⟨.tail _ (.head _), fun p hp => .tail _ (.tail _ (.tail _ (.tail _ (.tail _ (hreT p hp)))))⟩
end Mine
namespace Mine
/-- the loop of update -/
inductive UpJ (pf X : Addr) (u v : Nat) (nl : List (Addr × Obj)) (i : Nat) (m : Str → Option Value) (nx : List (Addr × Obj)) : Prop where
  | mk (tp : Tok) (e0 : m (Str.ofString "self") = some (.ref pf)) (e1 : m (Str.ofString "node_updates") = some (.ref X)) (e2 : m (Str.ofString "path_diff") = some (.int ((u ^^^ v : Nat) : Int) tp))
    (hj : ∀ j, j < i → u / 2 ^ (7 - j) = v / 2 ^ (7 - j)) (hnx : nx = nl) : UpJ pf X u v nl i m nx
set_option maxHeartbeats 4000000 in
theorem c_update (w : World) {gd : Option (List Code)} {cn : Str} {cs : Scope} {a : Addr} {ccd : Value} {cl : List (Str × Addr)} {outer : List Env} {A₀ : Around} {base h₀ : Heap} {L : Addr} {m mg mb : Str → Option Value}
    {p : Program} {loose : List Str} {mean : ExcName → Option Value} {s : Shared} {R : Result → Shared → Prop} {rest : List (Addr × Obj)} {pf pd bl f T8 : Addr} {y : PD} {u v : UInt8} {tk1 tk2 tv tv2 : Tok} {va vb : Array UInt8} {bvs nvs : List Value} {c : Nat}
    (B : Below A₀ base outer h₀) (F : Fr h₀ L s.heap m) (X : (Mine.z.heap_1_39 w.params).In h₀) (T : Top p loose mean mg mb h₀) (hk : cs.kind = .function) (N : News h₀ L s.heap ((bl, W.listOf bvs.toArray c) :: (pd, pdOf y (.bytes #[u] tk1) (.bytes va tv) bl f) :: rest)) (hoB : ∀ p ∈ rest, p.1 ≠ bl) (hoP : ∀ p ∈ rest, p.1 ≠ pd) (hne : @Ne Nat bl pd)
    (hpf : (pf, instObj 111 pd) ∈ rest) (hX : (T8, tupOf nvs) ∈ rest) (hb8 : bvs.length = 8) (hn8 : nvs.length ≤ 8) (hdeep : ∀ p, PartAt u.toNat v.toNat p → p < nvs.length)
    (ret0 : u = v → ∀ tx h' tk', Fr h₀ L h' m → News h₀ L h' ((bl, W.listOf bvs.toArray c) :: (pd, pdOf y (.bytes #[u] tk1) (.bytes vb tx) bl f) :: rest) → R (.ok (.ret .none)) { s with heap := h', toks := tk' })
    (ret1 : ∀ p nv, PartAt u.toNat v.toNat p → nvs[p]? = some nv → ∀ h' tk', Fr h₀ L h' m → News h₀ L h' ((bl, W.listOf (bvs.set p nv).toArray c) :: (pd, pdOf y (.bytes #[u] tk1) (.bytes va tv) bl f) :: rest) → R (.ok (.ret .none)) { s with heap := h', toks := tk' }) :
    codeAny (model PySem.Challenge.rw_iu0037_01.row.prog w) (ctop 800 8000 gd cn cs L a ccd cl outer) (.call (.ref 108) ⟨[.ref pf, .bytes #[v] tk2, .bytes vb tv2, .ref T8], []⟩) R s := by
  revert X; k_fill; w_top off; intro X
  have mk9 := Mark.mk
  have hu := u.toNat_lt
  have hv := v.toNat_lt
  have hsz1 : (#[v] : Array UInt8).size = 1 := rfl
  have n1 := hoP _ hpf
  have n2 := hoP _ hX
  have n3 := hoB _ hpf
  have n4 := hoB _ hX
  have N2 : News h₀ L s.heap ((bl, W.listOf bvs.toArray c) :: (pd, pdOf y (.bytes #[u] tk1) (.bytes va tv) bl f) :: (pf, instObj 111 pd) :: (T8, tupOf nvs) :: rest) :=
    cb_drop N (List.forall_mem_cons.mpr ⟨.head _, List.forall_mem_cons.mpr ⟨.tail _ (.head _), List.forall_mem_cons.mpr ⟨.tail _ (.tail _ hpf), List.forall_mem_cons.mpr ⟨.tail _ (.tail _ hX), fun _ hp => .tail _ (.tail _ hp)⟩⟩⟩⟩)
  clear N
  k_dflt cell_enter
  (repeat' (first | (k_unfold; (try dsimp only)) | (k_end; wrow_close) | ((with_reducible show wpAny _ _ (binaryOp Operator.BitAnd (Value.int _ _) (Value.int _ _)) _ _ _); k_here; (refine Mine.andP ?_); intro _ _) | ((with_reducible show wpAny _ _ (binaryOp Operator.BitXor (Value.int _ _) (Value.int _ _)) _ _ _); k_here; (refine Mine.xorI (by omega) (by omega) ?_); intro _ _) | ((with_reducible show wpAny _ _ (binaryOp Operator.LShift (Value.int _ _) (Value.int _ _)) _ _ _); k_here; (refine Mine.shl1 (by omega) (by omega) ?_); intro _ _) | ((with_reducible show wpAny _ _ (call (Value.builtin "len") [Value.ref _]) _ _ _); k_here; k_dflt (refine Mine.len_tup (by k_asm) (by k_mem) (by first | omega | (simp; omega)) ?_; intro _ _)) | ((with_reducible show wpAny _ _ (call (Value.type "reversed") [Value.ref _]) _ _ _); k_here; k_dflt (refine' Mine.rev_rng ?F ?N ?r ?_; (case F => k_asm); (case N => k_asm); (case r => assumption)); intro _ _ _ _ l9'; (try k_lt l9'); (try k_sweep)) | ((with_reducible show wpAny _ _ (compareOp CmpOp.NotEq (Value.int _ _) (Value.int _ _)) _ _ _); k_here; (rename Mine.Mark => stopMark); (refine Mine.ne_int_same (by first | omega | k_dflt rfl) ?_)) | ((with_reducible show wpAny _ _ (getMethod (Value.type "int") _ _) _ _ _); k_here; (refine KFB.getm (by k_asm) (by k_asm) (by k_asm) (by k_is) ?_); intro _ _ _ _ l9'; (try k_lt l9'); (try k_sweep)) | ((with_reducible show wpAny _ _ (pyIter (Value.ref _)) _ _ _); k_here; (rename Mine.Mark => stopMark); refine Mine.stop_at ?_) | ((with_reducible show wpAny _ _ (setItem (Value.ref _) (Value.int _ _) _) _ _ _); k_here; (rename Mine.Mark => stopMark); k_dflt (refine' Mine.set_L ?k1 ?k2 ?k3 ?k4 ?k5 ?z ?_; (case k1 => k_asm); (case k2 => k_asm); (case k3 => k_upd); (case k4 => omega); (case k5 => omega); (case z => omega)); intro _ _ _; (try k_sweep)) | ((with_reducible show wpAny _ _ (subscriptTail (Expr.Name _ _) (Expr.Name _ _) (Value.ref _) (Value.int _ _)) _ _ _); k_here; k_dflt (first | (refine' Mine.item_L ?N ?l ?x ?v ?z ?_; (case N => k_asm); (case l => k_mem); (case v => assumption); (case x => first | rfl | omega); (case z => omega)) | (refine' Mine.item_T ?N ?l ?x ?v ?z ?_; (case N => k_asm); (case l => k_mem); (case v => assumption); (case x => first | rfl | omega); (case z => omega)))) | walk1 | (dsimp only; walk1) | (leave1; walk_say "STEP leave1"; try dsimp only)))
  · (rename _ = (0 : Int) => hx)
    have hx2 : u.toNat ^^^ v.toNat = 0 := by
      rw [om_toNat (x := u.toNat), om_toNat (x := v.toNat)] at hx
      exact Int.ofNat.inj hx
    exact ret0 (UInt8.toNat_inj.mp (xor_zero hx2)) _ _ _ (by assumption) (by (first | assumption | exact cb_drop (by assumption) (by walk_at "mine sub")))
  · (rename _ ≠ (0 : Int) => hx)
    unfold Stop
    (rename Fr _ _ _ _ => lF); (rename News _ _ _ _ => lN)
    have huv : u.toNat ≠ v.toNat := fun e => hx (by rw [om_toNat (x := u.toNat), om_toNat (x := v.toNat), e, Nat.xor_self]; rfl)
    (rename ∀ p ∈ (_ :: _ : List (Addr × Obj)), _ < _ => hltD)
    refine' loop_revr (news := (bl, W.listOf bvs.toArray c) :: (pd, pdOf y (.bytes #[u] tk1) (.bytes va tv) bl f) :: (pf, instObj 111 pd) :: (T8, tupOf nvs) :: rest) (UpJ pf T8 u.toNat v.toNat ((bl, W.listOf bvs.toArray c) :: (pd, pdOf y (.bytes #[u] tk1) (.bytes va tv) bl f) :: (pf, instObj 111 pd) :: (T8, tupOf nvs) :: rest)) rfl lF (cb_drop lN ?sub) ?hof ?j0 ?turn ?done
    case sub => walk_at "mine sub"
    case hof => exact fun p hp => Nat.ne_of_lt (hltD p (.tail _ (.tail _ hp)))
    case j0 => exact ⟨_, rfl, rfl, by show some (Value.int _ _) = _; rw [om_toNat (x := u.toNat), om_toNat (x := v.toNat)], fun j hj => absurd hj (Nat.not_lt_zero j), rfl⟩
    case turn =>
      rintro i tv8 m₁ nx it h1 tk8 hi ⟨tp, e0, e1, e2, hj, rfl⟩ hof F1 N1
      have l3 := gnNe_of hof
      simp only [GnNe] at l3
      have l5 : ∀ p ∈ rest, p.1 ≠ _ := fun p hp => hof p (.tail _ (.tail _ (.tail _ (.tail _ hp))))
      rw [see_all [(Str.ofString "self", .ref pf), (Str.ofString "node_updates", .ref T8), (Str.ofString "path_diff", .int ((u.toNat ^^^ v.toNat : Nat) : Int) tp)]
        (List.forall_mem_cons.mpr ⟨e0, List.forall_mem_cons.mpr ⟨e1, List.forall_mem_cons.mpr ⟨e2, List.forall_mem_nil _⟩⟩⟩)] at F1
      have hup : u.toNat / 2 ^ (7 - i + 1) = v.toNat / 2 ^ (7 - i + 1) := by
        by_cases h0 : i = 0
        · subst h0; rw [show u.toNat / 2 ^ (7 - 0 + 1) = 0 from Nat.div_eq_of_lt hu, show v.toNat / 2 ^ (7 - 0 + 1) = 0 from Nat.div_eq_of_lt hv]
        · have := hj (i - 1) (by omega)
          rw [show 7 - (i - 1) = 7 - i + 1 from ixC hi h0] at this
          exact this
      have hbit := xor_bit hup
      obtain ⟨f1, f2, f3, f4⟩ := ixP hi
      have f5 : 8 - 1 - (7 + (i : Int) * (-1)) < (bvs.length : Int) := by rw [f4, hb8]; exact Int.ofNat_lt.mpr hi
      have e7 : (7 + (i : Int) * (-1)).toNat = 7 - i := ixI hi
      have e8 : (8 - 1 - (7 + (i : Int) * (-1))).toNat = i := ixJ hi
      have hpart : ¬ ((u.toNat ^^^ v.toNat) &&& 2 ^ (7 - i) = 0) → PartAt u.toNat v.toNat i := fun h => ⟨by omega, hj, fun e => h (hbit.mpr e)⟩
      clear lF lN
      show wpAny _ _ _ _ _ _
      k_fold
      by_cases hin : i < nvs.length
      · obtain ⟨nv, hnv⟩ : ∃ nv, nvs[i]? = some nv := ⟨nvs[i], List.getElem?_eq_getElem hin⟩
        (repeat' (first | (k_unfold; (try dsimp only)) | (k_end; wrow_close) | ((with_reducible show wpAny _ _ (binaryOp Operator.BitAnd (Value.int _ _) (Value.int _ _)) _ _ _); k_here; (refine Mine.andP ?_); intro _ _) | ((with_reducible show wpAny _ _ (binaryOp Operator.BitXor (Value.int _ _) (Value.int _ _)) _ _ _); k_here; (refine Mine.xorI (by omega) (by omega) ?_); intro _ _) | ((with_reducible show wpAny _ _ (binaryOp Operator.LShift (Value.int _ _) (Value.int _ _)) _ _ _); k_here; (refine Mine.shl1 (by omega) (by omega) ?_); intro _ _) | ((with_reducible show wpAny _ _ (call (Value.builtin "len") [Value.ref _]) _ _ _); k_here; k_dflt (refine Mine.len_tup (by k_asm) (by k_mem) (by first | omega | (simp; omega)) ?_; intro _ _)) | ((with_reducible show wpAny _ _ (call (Value.type "reversed") [Value.ref _]) _ _ _); k_here; k_dflt (refine' Mine.rev_rng ?F ?N ?r ?_; (case F => k_asm); (case N => k_asm); (case r => assumption)); intro _ _ _ _ l9'; (try k_lt l9'); (try k_sweep)) | ((with_reducible show wpAny _ _ (compareOp CmpOp.NotEq (Value.int _ _) (Value.int _ _)) _ _ _); k_here; (rename Mine.Mark => stopMark); (refine Mine.ne_int_same (by first | omega | k_dflt rfl) ?_)) | ((with_reducible show wpAny _ _ (getMethod (Value.type "int") _ _) _ _ _); k_here; (refine KFB.getm (by k_asm) (by k_asm) (by k_asm) (by k_is) ?_); intro _ _ _ _ l9'; (try k_lt l9'); (try k_sweep)) | ((with_reducible show wpAny _ _ (pyIter (Value.ref _)) _ _ _); k_here; (rename Mine.Mark => stopMark); refine Mine.stop_at ?_) | ((with_reducible show wpAny _ _ (setItem (Value.ref _) (Value.int _ _) _) _ _ _); k_here; (rename Mine.Mark => stopMark); k_dflt (refine' Mine.set_L ?k1 ?k2 ?k3 ?k4 ?k5 ?z ?_; (case k1 => k_asm); (case k2 => k_asm); (case k3 => k_upd); (case k4 => omega); (case k5 => omega); (case z => omega)); intro _ _ _; (try k_sweep)) | ((with_reducible show wpAny _ _ (subscriptTail (Expr.Name _ _) (Expr.Name _ _) (Value.ref _) (Value.int _ _)) _ _ _); k_here; k_dflt (first | (refine' Mine.item_L ?N ?l ?x ?v ?z ?_; (case N => k_asm); (case l => k_mem); (case v => assumption); (case x => first | rfl | omega); (case z => omega)) | (refine' Mine.item_T ?N ?l ?x ?v ?z ?_; (case N => k_asm); (case l => k_mem); (case v => assumption); (case x => first | rfl | omega); (case z => omega)))) | walk1 | (dsimp only; walk1) | (leave1; walk_say "STEP leave1"; try dsimp only)))
        · (rename 0 < _ => hb9)
          rw [e7] at hb9
          (rename News _ _ _ _ => lN)
          rw [e8] at lN
          exact ret1 i nv (hpart (by omega)) hnv _ _ (by assumption) (cb_drop lN (List.forall_mem_cons.mpr ⟨.tail _ (.head _), List.forall_mem_cons.mpr ⟨.tail _ (.tail _ (.head _)), fun p hp => .tail _ (.tail _ (.tail _ (.tail _ (.tail _ hp))))⟩⟩))
        · (rename ¬ 0 < _ => hb9); (rename Fr _ _ _ _ => lF); (rename News _ _ _ _ => lN)
          rw [e7] at hb9
          exact UnrEnd.intro lF lN _ (fun _ hp => hp) hof ⟨tp, rfl, rfl, rfl, fun j hji => (Nat.lt_or_ge j i).elim (hj j) fun h => by rw [show j = i by omega]; exact hbit.mp (by omega), rfl⟩
      · have hb0 : (u.toNat ^^^ v.toNat) &&& 2 ^ (7 - i) = 0 := by
          by_cases hb : (u.toNat ^^^ v.toNat) &&& 2 ^ (7 - i) = 0
          · exact hb
          · exact absurd (hdeep i (hpart hb)) hin
        have hb1 : (u.toNat ^^^ v.toNat) &&& 2 ^ (7 + (i : Int) * (-1)).toNat = 0 := by rw [e7]; exact hb0
        (repeat' (first | (k_unfold; (try dsimp only)) | (k_end; wrow_close) | ((with_reducible show wpAny _ _ (binaryOp Operator.BitAnd (Value.int _ _) (Value.int _ _)) _ _ _); k_here; (refine Mine.andP ?_); intro _ _) | ((with_reducible show wpAny _ _ (binaryOp Operator.BitXor (Value.int _ _) (Value.int _ _)) _ _ _); k_here; (refine Mine.xorI (by omega) (by omega) ?_); intro _ _) | ((with_reducible show wpAny _ _ (binaryOp Operator.LShift (Value.int _ _) (Value.int _ _)) _ _ _); k_here; (refine Mine.shl1 (by omega) (by omega) ?_); intro _ _) | ((with_reducible show wpAny _ _ (call (Value.builtin "len") [Value.ref _]) _ _ _); k_here; k_dflt (refine Mine.len_tup (by k_asm) (by k_mem) (by first | omega | (simp; omega)) ?_; intro _ _)) | ((with_reducible show wpAny _ _ (call (Value.type "reversed") [Value.ref _]) _ _ _); k_here; k_dflt (refine' Mine.rev_rng ?F ?N ?r ?_; (case F => k_asm); (case N => k_asm); (case r => assumption)); intro _ _ _ _ l9'; (try k_lt l9'); (try k_sweep)) | ((with_reducible show wpAny _ _ (compareOp CmpOp.NotEq (Value.int _ _) (Value.int _ _)) _ _ _); k_here; (rename Mine.Mark => stopMark); (refine Mine.ne_int_same (by first | omega | k_dflt rfl) ?_)) | ((with_reducible show wpAny _ _ (getMethod (Value.type "int") _ _) _ _ _); k_here; (refine KFB.getm (by k_asm) (by k_asm) (by k_asm) (by k_is) ?_); intro _ _ _ _ l9'; (try k_lt l9'); (try k_sweep)) | ((with_reducible show wpAny _ _ (pyIter (Value.ref _)) _ _ _); k_here; (rename Mine.Mark => stopMark); refine Mine.stop_at ?_) | ((with_reducible show wpAny _ _ (setItem (Value.ref _) (Value.int _ _) _) _ _ _); k_here; (rename Mine.Mark => stopMark); k_dflt (refine' Mine.set_L ?k1 ?k2 ?k3 ?k4 ?k5 ?z ?_; (case k1 => k_asm); (case k2 => k_asm); (case k3 => k_upd); (case k4 => omega); (case k5 => omega); (case z => omega)); intro _ _ _; (try k_sweep)) | ((with_reducible show wpAny _ _ (subscriptTail (Expr.Name _ _) (Expr.Name _ _) (Value.ref _) (Value.int _ _)) _ _ _); k_here; k_dflt (first | (refine' Mine.item_L ?N ?l ?x ?v ?z ?_; (case N => k_asm); (case l => k_mem); (case v => assumption); (case x => first | rfl | omega); (case z => omega)) | (refine' Mine.item_T ?N ?l ?x ?v ?z ?_; (case N => k_asm); (case l => k_mem); (case v => assumption); (case x => first | rfl | omega); (case z => omega)))) | walk1 | (dsimp only; walk1) | (leave1; walk_say "STEP leave1"; try dsimp only)))
        (rename Fr _ _ _ _ => lF); (rename News _ _ _ _ => lN)
        exact UnrEnd.intro lF lN _ (fun _ hp => hp) hof ⟨tp, rfl, rfl, rfl, fun j hji => (Nat.lt_or_ge j i).elim (hj j) fun h => by rw [show j = i by omega]; exact hbit.mp hb0, rfl⟩
    case done =>
      rintro m₁ nx h1 tk8 ⟨tp, e0, e1, e2, hj, rfl⟩ F1 N1
      have := hj 7 (by omega)
      rw [Nat.sub_self, Nat.pow_zero, Nat.div_one, Nat.div_one] at this
      exact absurd this huv
end Mine
namespace Mine
set_option maxHeartbeats 4000000 in
theorem c_taken (w : World) {gd : Option (List Code)} {cn : Str} {cs : Scope} {a : Addr} {ccd : Value} {A₀ : Around} {h₀ : Heap} {L : Addr} {m mg mb : Str → Option Value}
    {p : Program} {loose : List Str} {mean : ExcName → Option Value} {s : Shared} {R : Result → Shared → Prop} {rest : List (Addr × Obj)} {pf pd bl f T8 : Addr} {y : PD} {u v : UInt8} {tk1 tk2 tv tv2 : Tok} {va vb : Array UInt8} {bvs nvs : List Value} {c : Nat}
    (B : Below A₀ h₀ [] h₀) (F : Fr h₀ L s.heap m) (X : (Mine.z.heap_1_39 w.params).In h₀) (T : Top p loose mean mg mb h₀) (hk : cs.kind = .function) (N : News h₀ L s.heap ((bl, W.listOf bvs.toArray c) :: (pd, pdOf y (.bytes #[u] tk1) (.bytes va tv) bl f) :: rest)) (hoB : ∀ p ∈ rest, p.1 ≠ bl) (hoP : ∀ p ∈ rest, p.1 ≠ pd) (hne : @Ne Nat bl pd)
    (hpf : (pf, instObj 111 pd) ∈ rest) (hX : (T8, tupOf nvs) ∈ rest) (hb8 : bvs.length = 8) (hn8 : nvs.length ≤ 8)
    (ret0 : u = v → ∀ tx h' tk', Fr h₀ L h' m → News h₀ L h' ((bl, W.listOf bvs.toArray c) :: (pd, pdOf y (.bytes #[u] tk1) (.bytes vb tx) bl f) :: rest) → R (.ok (.ret (.bool true))) { s with heap := h', toks := tk' })
    (ret1 : ∀ p nv, PartAt u.toNat v.toNat p → nvs[p]? = some nv → ∀ h' tk', Fr h₀ L h' m → News h₀ L h' ((bl, W.listOf (bvs.set p nv).toArray c) :: (pd, pdOf y (.bytes #[u] tk1) (.bytes va tv) bl f) :: rest) → R (.ok (.ret (.bool true))) { s with heap := h', toks := tk' })
    (retE : ∀ p, PartAt u.toNat v.toNat p → nvs.length ≤ p → ∀ h' tk', Fr h₀ L h' m → News h₀ L h' ((bl, W.listOf bvs.toArray c) :: (pd, pdOf y (.bytes #[u] tk1) (.bytes va tv) bl f) :: rest) → R (.ok (.ret (.bool false))) { s with heap := h', toks := tk' }) :
    codeAny (model PySem.Challenge.rw_iu0037_01.row.prog w) (ctop 700 7000 gd cn cs L a ccd [] []) (.call (.ref 288) ⟨[.ref pf, .bytes #[v] tk2, .bytes vb tv2, .ref T8], []⟩) R s := by
  revert X; k_fill; w_top off; intro X
  have mk9 := Mark.mk
  have hu := u.toNat_lt
  have hv := v.toNat_lt
  have hsz1 : (#[v] : Array UInt8).size = 1 := rfl
  have n1 := hoP _ hpf
  have n2 := hoP _ hX
  have n3 := hoB _ hpf
  have n4 := hoB _ hX
  have N2 : News h₀ L s.heap ((bl, W.listOf bvs.toArray c) :: (pd, pdOf y (.bytes #[u] tk1) (.bytes va tv) bl f) :: (pf, instObj 111 pd) :: (T8, tupOf nvs) :: rest) :=
    cb_drop N (List.forall_mem_cons.mpr ⟨.head _, List.forall_mem_cons.mpr ⟨.tail _ (.head _), List.forall_mem_cons.mpr ⟨.tail _ (.tail _ hpf), List.forall_mem_cons.mpr ⟨.tail _ (.tail _ hX), fun _ hp => .tail _ (.tail _ hp)⟩⟩⟩⟩)
  clear N
  k_dflt (refine' code_defS0 ?k1 ?k2 ?k3 ?k4 ?k5 ?kA ?k6 ?k7 ?k8 ?k9 ?kB ?_ ?cK ?c2 ?c3 ?c4 ?c5; (case kA => exact rfl); (case k2 => k_asm); (case k1 => k_asm); (case k3 => k_asm); (case k4 => k_asm); (case k5 => k_asm); (case k6 => k_is); (case k7 => k_is); (case k8 => ktr_room); (case k9 => first | exact BindsTo.of_eq rfl | exact binds_K (by k_in) rfl (by k_is) rfl rfl rfl); (case kB => exact locs rfl); (case cK => assumption); (case c2 => exact rfl); (case c3 => exact rfl); (case c4 => exact rfl); (case c5 => decide); k_whole; intro _ _ _ _ _ _ B9' _ _ _; (try dsimp only); (try k_lift B9'); (try k_fold))
  (repeat' (first | (k_unfold; (try dsimp only)) | (k_end; wrow_close) | ((with_reducible show wpAny _ _ (binaryOp Operator.BitAnd (Value.int _ _) (Value.int _ _)) _ _ _); k_here; (refine Mine.andP ?_); intro _ _) | ((with_reducible show wpAny _ _ (binaryOp Operator.BitXor (Value.int _ _) (Value.int _ _)) _ _ _); k_here; (refine Mine.xorI (by omega) (by omega) ?_); intro _ _) | ((with_reducible show wpAny _ _ (binaryOp Operator.LShift (Value.int _ _) (Value.int _ _)) _ _ _); k_here; (refine Mine.shl1 (by omega) (by omega) ?_); intro _ _) | ((with_reducible show wpAny _ _ (call (Value.builtin "len") [Value.ref _]) _ _ _); k_here; k_dflt (refine Mine.len_tup (by k_asm) (by k_mem) (by first | omega | (simp; omega)) ?_; intro _ _)) | ((with_reducible show wpAny _ _ (call (Value.type "reversed") [Value.ref _]) _ _ _); k_here; k_dflt (refine' Mine.rev_rng ?F ?N ?r ?_; (case F => k_asm); (case N => k_asm); (case r => assumption)); intro _ _ _ _ l9'; (try k_lt l9'); (try k_sweep)) | ((with_reducible show wpAny _ _ (compareOp CmpOp.NotEq (Value.int _ _) (Value.int _ _)) _ _ _); k_here; (rename Mine.Mark => stopMark); (refine Mine.ne_int_same (by first | omega | k_dflt rfl) ?_)) | ((with_reducible show wpAny _ _ (getMethod (Value.type "int") _ _) _ _ _); k_here; (refine KFB.getm (by k_asm) (by k_asm) (by k_asm) (by k_is) ?_); intro _ _ _ _ l9'; (try k_lt l9'); (try k_sweep)) | ((with_reducible show wpAny _ _ (pyIter (Value.ref _)) _ _ _); k_here; (rename Mine.Mark => stopMark); refine Mine.stop_at ?_) | ((with_reducible show wpAny _ _ (setItem (Value.ref _) (Value.int _ _) _) _ _ _); k_here; (rename Mine.Mark => stopMark); k_dflt (refine' Mine.set_L ?k1 ?k2 ?k3 ?k4 ?k5 ?z ?_; (case k1 => k_asm); (case k2 => k_asm); (case k3 => k_upd); (case k4 => omega); (case k5 => omega); (case z => omega)); intro _ _ _; (try k_sweep)) | ((with_reducible show wpAny _ _ (subscriptTail (Expr.Name _ _) (Expr.Name _ _) (Value.ref _) (Value.int _ _)) _ _ _); k_here; k_dflt (first | (refine' Mine.item_L ?N ?l ?x ?v ?z ?_; (case N => k_asm); (case l => k_mem); (case v => assumption); (case x => first | rfl | omega); (case z => omega)) | (refine' Mine.item_T ?N ?l ?x ?v ?z ?_; (case N => k_asm); (case l => k_mem); (case v => assumption); (case x => first | rfl | omega); (case z => omega)))) | walk1 | (dsimp only; walk1) | (leave1; walk_say "STEP leave1"; try dsimp only)))
  · (rename _ = (0 : Int) => hx)
    have hx2 : u.toNat ^^^ v.toNat = 0 := by
      rw [om_toNat (x := u.toNat), om_toNat (x := v.toNat)] at hx
      exact Int.ofNat.inj hx
    exact ret0 (UInt8.toNat_inj.mp (xor_zero hx2)) _ _ _ (by assumption) (by (first | assumption | exact cb_drop (by assumption) (by walk_at "mine sub")))
  · (rename _ ≠ (0 : Int) => hx)
    unfold Stop
    (rename Fr _ _ _ _ => lF); (rename News _ _ _ _ => lN)
    have huv : u.toNat ≠ v.toNat := fun e => hx (by rw [om_toNat (x := u.toNat), om_toNat (x := v.toNat), e, Nat.xor_self]; rfl)
    (rename ∀ p ∈ (_ :: _ : List (Addr × Obj)), _ < _ => hltD)
    refine' loop_revr (news := (bl, W.listOf bvs.toArray c) :: (pd, pdOf y (.bytes #[u] tk1) (.bytes va tv) bl f) :: (pf, instObj 111 pd) :: (T8, tupOf nvs) :: rest) (UpJ pf T8 u.toNat v.toNat ((bl, W.listOf bvs.toArray c) :: (pd, pdOf y (.bytes #[u] tk1) (.bytes va tv) bl f) :: (pf, instObj 111 pd) :: (T8, tupOf nvs) :: rest)) rfl lF (cb_drop lN ?sub) ?hof ?j0 ?turn ?done
    case sub => walk_at "mine sub"
    case hof => exact fun p hp => Nat.ne_of_lt (hltD p (.tail _ (.tail _ hp)))
    case j0 => exact ⟨_, rfl, rfl, by show some (Value.int _ _) = _; rw [om_toNat (x := u.toNat), om_toNat (x := v.toNat)], fun j hj => absurd hj (Nat.not_lt_zero j), rfl⟩
    case turn =>
      rintro i tv8 m₁ nx it h1 tk8 hi ⟨tp, e0, e1, e2, hj, rfl⟩ hof F1 N1
      have l3 := gnNe_of hof
      simp only [GnNe] at l3
      have l5 : ∀ p ∈ rest, p.1 ≠ _ := fun p hp => hof p (.tail _ (.tail _ (.tail _ (.tail _ hp))))
      rw [see_all [(Str.ofString "self", .ref pf), (Str.ofString "node_updates", .ref T8), (Str.ofString "path_diff", .int ((u.toNat ^^^ v.toNat : Nat) : Int) tp)]
        (List.forall_mem_cons.mpr ⟨e0, List.forall_mem_cons.mpr ⟨e1, List.forall_mem_cons.mpr ⟨e2, List.forall_mem_nil _⟩⟩⟩)] at F1
      have hup : u.toNat / 2 ^ (7 - i + 1) = v.toNat / 2 ^ (7 - i + 1) := by
        by_cases h0 : i = 0
        · subst h0; rw [show u.toNat / 2 ^ (7 - 0 + 1) = 0 from Nat.div_eq_of_lt hu, show v.toNat / 2 ^ (7 - 0 + 1) = 0 from Nat.div_eq_of_lt hv]
        · have := hj (i - 1) (by omega)
          rw [show 7 - (i - 1) = 7 - i + 1 from ixC hi h0] at this
          exact this
      have hbit := xor_bit hup
      obtain ⟨f1, f2, f3, f4⟩ := ixP hi
      have f5 : 8 - 1 - (7 + (i : Int) * (-1)) < (bvs.length : Int) := by rw [f4, hb8]; exact Int.ofNat_lt.mpr hi
      have e7 : (7 + (i : Int) * (-1)).toNat = 7 - i := ixI hi
      have e8 : (8 - 1 - (7 + (i : Int) * (-1))).toNat = i := ixJ hi
      have hpart : ¬ ((u.toNat ^^^ v.toNat) &&& 2 ^ (7 - i) = 0) → PartAt u.toNat v.toNat i := fun h => ⟨by omega, hj, fun e => h (hbit.mpr e)⟩
      clear lF lN
      by_cases hin : i < nvs.length
      · obtain ⟨nv, hnv⟩ : ∃ nv, nvs[i]? = some nv := ⟨nvs[i], List.getElem?_eq_getElem hin⟩
        (repeat' (first | (k_unfold; (try dsimp only)) | (k_end; wrow_close) | ((with_reducible show wpAny _ _ (binaryOp Operator.BitAnd (Value.int _ _) (Value.int _ _)) _ _ _); k_here; (refine Mine.andP ?_); intro _ _) | ((with_reducible show wpAny _ _ (binaryOp Operator.BitXor (Value.int _ _) (Value.int _ _)) _ _ _); k_here; (refine Mine.xorI (by omega) (by omega) ?_); intro _ _) | ((with_reducible show wpAny _ _ (binaryOp Operator.LShift (Value.int _ _) (Value.int _ _)) _ _ _); k_here; (refine Mine.shl1 (by omega) (by omega) ?_); intro _ _) | ((with_reducible show wpAny _ _ (call (Value.builtin "len") [Value.ref _]) _ _ _); k_here; k_dflt (refine Mine.len_tup (by k_asm) (by k_mem) (by first | omega | (simp; omega)) ?_; intro _ _)) | ((with_reducible show wpAny _ _ (call (Value.type "reversed") [Value.ref _]) _ _ _); k_here; k_dflt (refine' Mine.rev_rng ?F ?N ?r ?_; (case F => k_asm); (case N => k_asm); (case r => assumption)); intro _ _ _ _ l9'; (try k_lt l9'); (try k_sweep)) | ((with_reducible show wpAny _ _ (compareOp CmpOp.NotEq (Value.int _ _) (Value.int _ _)) _ _ _); k_here; (rename Mine.Mark => stopMark); (refine Mine.ne_int_same (by first | omega | k_dflt rfl) ?_)) | ((with_reducible show wpAny _ _ (getMethod (Value.type "int") _ _) _ _ _); k_here; (refine KFB.getm (by k_asm) (by k_asm) (by k_asm) (by k_is) ?_); intro _ _ _ _ l9'; (try k_lt l9'); (try k_sweep)) | ((with_reducible show wpAny _ _ (pyIter (Value.ref _)) _ _ _); k_here; (rename Mine.Mark => stopMark); refine Mine.stop_at ?_) | ((with_reducible show wpAny _ _ (setItem (Value.ref _) (Value.int _ _) _) _ _ _); k_here; (rename Mine.Mark => stopMark); k_dflt (refine' Mine.set_L ?k1 ?k2 ?k3 ?k4 ?k5 ?z ?_; (case k1 => k_asm); (case k2 => k_asm); (case k3 => k_upd); (case k4 => omega); (case k5 => omega); (case z => omega)); intro _ _ _; (try k_sweep)) | ((with_reducible show wpAny _ _ (subscriptTail (Expr.Name _ _) (Expr.Name _ _) (Value.ref _) (Value.int _ _)) _ _ _); k_here; k_dflt (first | (refine' Mine.item_L ?N ?l ?x ?v ?z ?_; (case N => k_asm); (case l => k_mem); (case v => assumption); (case x => first | rfl | omega); (case z => omega)) | (refine' Mine.item_T ?N ?l ?x ?v ?z ?_; (case N => k_asm); (case l => k_mem); (case v => assumption); (case x => first | rfl | omega); (case z => omega)))) | walk1 | (dsimp only; walk1) | (leave1; walk_say "STEP leave1"; try dsimp only)))
        · (rename 0 < _ => hb9)
          rw [e7] at hb9
          (rename News _ _ _ _ => lN)
          rw [e8] at lN
          exact ret1 i nv (hpart (by omega)) hnv _ _ (by assumption) (cb_drop lN (List.forall_mem_cons.mpr ⟨.tail _ (.head _), List.forall_mem_cons.mpr ⟨.tail _ (.tail _ (.head _)), fun p hp => .tail _ (.tail _ (.tail _ (.tail _ (.tail _ hp))))⟩⟩))
        · (rename ¬ 0 < _ => hb9); (rename Fr _ _ _ _ => lF); (rename News _ _ _ _ => lN)
          rw [e7] at hb9
          exact UnrEnd.intro lF lN _ (fun _ hp => hp) hof ⟨tp, rfl, rfl, rfl, fun j hji => (Nat.lt_or_ge j i).elim (hj j) fun h => by rw [show j = i by omega]; exact hbit.mp (by omega), rfl⟩
      · (repeat' (first | (k_unfold; (try dsimp only)) | (k_end; wrow_close) | ((with_reducible show wpAny _ _ (binaryOp Operator.BitAnd (Value.int _ _) (Value.int _ _)) _ _ _); k_here; (refine Mine.andP ?_); intro _ _) | ((with_reducible show wpAny _ _ (binaryOp Operator.BitXor (Value.int _ _) (Value.int _ _)) _ _ _); k_here; (refine Mine.xorI (by omega) (by omega) ?_); intro _ _) | ((with_reducible show wpAny _ _ (binaryOp Operator.LShift (Value.int _ _) (Value.int _ _)) _ _ _); k_here; (refine Mine.shl1 (by omega) (by omega) ?_); intro _ _) | ((with_reducible show wpAny _ _ (call (Value.builtin "len") [Value.ref _]) _ _ _); k_here; k_dflt (refine Mine.len_tup (by k_asm) (by k_mem) (by first | omega | (simp; omega)) ?_; intro _ _)) | ((with_reducible show wpAny _ _ (call (Value.type "reversed") [Value.ref _]) _ _ _); k_here; k_dflt (refine' Mine.rev_rng ?F ?N ?r ?_; (case F => k_asm); (case N => k_asm); (case r => assumption)); intro _ _ _ _ l9'; (try k_lt l9'); (try k_sweep)) | ((with_reducible show wpAny _ _ (compareOp CmpOp.NotEq (Value.int _ _) (Value.int _ _)) _ _ _); k_here; (rename Mine.Mark => stopMark); (refine Mine.ne_int_same (by first | omega | k_dflt rfl) ?_)) | ((with_reducible show wpAny _ _ (getMethod (Value.type "int") _ _) _ _ _); k_here; (refine KFB.getm (by k_asm) (by k_asm) (by k_asm) (by k_is) ?_); intro _ _ _ _ l9'; (try k_lt l9'); (try k_sweep)) | ((with_reducible show wpAny _ _ (pyIter (Value.ref _)) _ _ _); k_here; (rename Mine.Mark => stopMark); refine Mine.stop_at ?_) | ((with_reducible show wpAny _ _ (setItem (Value.ref _) (Value.int _ _) _) _ _ _); k_here; (rename Mine.Mark => stopMark); k_dflt (refine' Mine.set_L ?k1 ?k2 ?k3 ?k4 ?k5 ?z ?_; (case k1 => k_asm); (case k2 => k_asm); (case k3 => k_upd); (case k4 => omega); (case k5 => omega); (case z => omega)); intro _ _ _; (try k_sweep)) | ((with_reducible show wpAny _ _ (subscriptTail (Expr.Name _ _) (Expr.Name _ _) (Value.ref _) (Value.int _ _)) _ _ _); k_here; k_dflt (first | (refine' Mine.item_L ?N ?l ?x ?v ?z ?_; (case N => k_asm); (case l => k_mem); (case v => assumption); (case x => first | rfl | omega); (case z => omega)) | (refine' Mine.item_T ?N ?l ?x ?v ?z ?_; (case N => k_asm); (case l => k_mem); (case v => assumption); (case x => first | rfl | omega); (case z => omega)))) | walk1 | (dsimp only; walk1) | (leave1; walk_say "STEP leave1"; try dsimp only)))
        · (rename 0 < _ => hb9)
          rw [e7] at hb9
          refine retE i (hpart (by omega)) (by omega) _ _ (by assumption) (cb_drop (by assumption) ?subE)
          case subE => exact List.forall_mem_cons.mpr ⟨.tail _ (.head _), List.forall_mem_cons.mpr ⟨.tail _ (.tail _ (.head _)), fun p hp => .tail _ (.tail _ (.tail _ (.tail _ (.tail _ hp))))⟩⟩
        · (rename ¬ 0 < _ => hb9); (rename Fr _ _ _ _ => lF); (rename News _ _ _ _ => lN)
          rw [e7] at hb9
          exact UnrEnd.intro lF lN _ (fun _ hp => hp) hof ⟨tp, rfl, rfl, rfl, fun j hji => (Nat.lt_or_ge j i).elim (hj j) fun h => by rw [show j = i by omega]; exact hbit.mp (by omega), rfl⟩
    case done =>
      rintro m₁ nx h1 tk8 ⟨tp, e0, e1, e2, hj, rfl⟩ F1 N1
      have := hj 7 (by omega)
      rw [Nat.sub_self, Nat.pow_zero, Nat.div_one, Nat.div_one] at this
      exact absurd this huv
end Mine
namespace Mine
set_option maxHeartbeats 4000000 in
theorem c_refL (w : World) {gd : Option (List Code)} {cn : Str} {cs : Scope} {a : Addr} {ccd : Value} {A₀ : Around} {h₀ : Heap} {L : Addr} {m mg mb : Str → Option Value}
    {p : Program} {loose : List Str} {mean : ExcName → Option Value} {s : Shared} {R : Result → Shared → Prop} {news : List (Addr × Obj)} {f T8 : Addr} {u : UInt8} {x : Int} {tx tk tv : Tok} {va : Array UInt8} {nvs : List Value}
    (B : Below A₀ h₀ [] h₀) (F : Fr h₀ L s.heap m) (X : (Mine.z.heap_1_39 w.params).In h₀) (T : Top p loose mean mg mb h₀) (hk : cs.kind = .function) (N : News h₀ L s.heap ((T8, tupOf nvs) :: news)) (hn8 : nvs.length ≠ 8) (hn9 : nvs.length ≤ 20)
    (ret : ∀ h' tk', Fr h₀ L h' m → News h₀ L h' ((T8, tupOf nvs) :: news) → R (.ok (.ret (.bool true))) { s with heap := h', toks := tk' }) :
    codeAny (model PySem.Challenge.rw_iu0037_01.row.prog w) (ctop 700 7000 gd cn cs L a ccd [] []) (.call (.ref 295) ⟨[.int x tx, .bytes #[u] tk, .bytes va tv, .ref T8, .ref f], []⟩) R s := by
  revert X; k_fill; w_top off; intro X
  have mkD := MarkD.mk
  have hsz1 : (#[u] : Array UInt8).size = 1 := rfl
  k_dflt (refine' code_defS0 ?k1 ?k2 ?k3 ?k4 ?k5 ?kA ?k6 ?k7 ?k8 ?k9 ?kB ?_ ?cK ?c2 ?c3 ?c4 ?c5; (case kA => exact rfl); (case k2 => k_asm); (case k1 => k_asm); (case k3 => k_asm); (case k4 => k_asm); (case k5 => k_asm); (case k6 => k_is); (case k7 => k_is); (case k8 => ktr_room); (case k9 => first | exact BindsTo.of_eq rfl | exact binds_K (by k_in) rfl (by k_is) rfl rfl rfl); (case kB => exact locs rfl); (case cK => assumption); (case c2 => exact rfl); (case c3 => exact rfl); (case c4 => exact rfl); (case c5 => decide); k_whole; intro _ _ _ _ _ _ B9' _ _ _; (try dsimp only); (try k_lift B9'); (try k_fold))
  (repeat' (first | (k_unfold; (try dsimp only)) | (k_end; wrow_close) | ((with_reducible show wpAny _ _ (call (Value.builtin "len") [Value.ref _]) _ _ _); k_here; k_dflt (refine Mine.len_tup (by k_asm) (by k_mem) (by first | omega | (simp; omega)) ?_; intro _ _)) | ((with_reducible show wpAny _ _ (compareOp CmpOp.NotEq (Value.int _ _) (Value.int _ _)) _ _ _); k_here; (rename Mine.MarkD => stopMarkD); (refine Mine.ne_int_diff (by omega) ?_)) | walk1 | (dsimp only; walk1) | (leave1; walk_say "STEP leave1"; try dsimp only)))
  · exact ret _ _ (by assumption) (by (first | assumption | exact cb_drop (by assumption) (by walk_at "mine sub")))
  · dsimp only [InitBack]
    (repeat' (first | (k_unfold; (try dsimp only)) | (k_end; wrow_close) | ((with_reducible show wpAny _ _ (call (Value.builtin "len") [Value.ref _]) _ _ _); k_here; k_dflt (refine Mine.len_tup (by k_asm) (by k_mem) (by first | omega | (simp; omega)) ?_; intro _ _)) | ((with_reducible show wpAny _ _ (compareOp CmpOp.NotEq (Value.int _ _) (Value.int _ _)) _ _ _); k_here; (rename Mine.MarkD => stopMarkD); (refine Mine.ne_int_diff (by omega) ?_)) | walk1 | (dsimp only; walk1) | (leave1; walk_say "STEP leave1"; try dsimp only)))
    exact ret _ _ (by assumption) (by (first | assumption | exact cb_drop (by assumption) (by walk_at "mine sub")))
set_option maxHeartbeats 4000000 in
theorem c_refV (w : World) {gd : Option (List Code)} {cn : Str} {cs : Scope} {a : Addr} {ccd : Value} {A₀ : Around} {h₀ : Heap} {L : Addr} {m mg mb : Str → Option Value}
    {p : Program} {loose : List Str} {mean : ExcName → Option Value} {s : Shared} {R : Result → Shared → Prop} {news : List (Addr × Obj)} {f T8 : Addr} {u : UInt8} {x : Int} {tx tk tv : Tok} {ws : Str} {nvs : List Value}
    (B : Below A₀ h₀ [] h₀) (F : Fr h₀ L s.heap m) (X : (Mine.z.heap_1_39 w.params).In h₀) (T : Top p loose mean mg mb h₀) (hk : cs.kind = .function) (N : News h₀ L s.heap ((T8, tupOf nvs) :: news))
    (ret : ∀ h' tk', Fr h₀ L h' m → News h₀ L h' ((T8, tupOf nvs) :: news) → R (.ok (.ret (.bool true))) { s with heap := h', toks := tk' }) :
    codeAny (model PySem.Challenge.rw_iu0037_01.row.prog w) (ctop 700 7000 gd cn cs L a ccd [] []) (.call (.ref 295) ⟨[.int x tx, .bytes #[u] tk, .str ws tv, .ref T8, .ref f], []⟩) R s := by
  revert X; k_fill; w_top off; intro X
  k_dflt (refine' code_defS0 ?k1 ?k2 ?k3 ?k4 ?k5 ?kA ?k6 ?k7 ?k8 ?k9 ?kB ?_ ?cK ?c2 ?c3 ?c4 ?c5; (case kA => exact rfl); (case k2 => k_asm); (case k1 => k_asm); (case k3 => k_asm); (case k4 => k_asm); (case k5 => k_asm); (case k6 => k_is); (case k7 => k_is); (case k8 => ktr_room); (case k9 => first | exact BindsTo.of_eq rfl | exact binds_K (by k_in) rfl (by k_is) rfl rfl rfl); (case kB => exact locs rfl); (case cK => assumption); (case c2 => exact rfl); (case c3 => exact rfl); (case c4 => exact rfl); (case c5 => decide); k_whole; intro _ _ _ _ _ _ B9' _ _ _; (try dsimp only); (try k_lift B9'); (try k_fold))
  (repeat' (first | (k_unfold; (try dsimp only)) | (k_end; wrow_close) | ((with_reducible show wpAny _ _ (call (Value.builtin "len") [Value.ref _]) _ _ _); k_here; k_dflt (refine Mine.len_tup (by k_asm) (by k_mem) (by first | omega | (simp; omega)) ?_; intro _ _)) | ((with_reducible show wpAny _ _ (compareOp CmpOp.NotEq (Value.int _ _) (Value.int _ _)) _ _ _); k_here; (rename Mine.MarkD => stopMarkD); (refine Mine.ne_int_diff (by omega) ?_)) | walk1 | (dsimp only; walk1) | (leave1; walk_say "STEP leave1"; try dsimp only)))
  · exact ret _ _ (by assumption) (by (first | assumption | exact cb_drop (by assumption) (by walk_at "mine sub")))
  · dsimp only [InitBack]
    (repeat' (first | (k_unfold; (try dsimp only)) | (k_end; wrow_close) | ((with_reducible show wpAny _ _ (call (Value.builtin "len") [Value.ref _]) _ _ _); k_here; k_dflt (refine Mine.len_tup (by k_asm) (by k_mem) (by first | omega | (simp; omega)) ?_; intro _ _)) | ((with_reducible show wpAny _ _ (compareOp CmpOp.NotEq (Value.int _ _) (Value.int _ _)) _ _ _); k_here; (rename Mine.MarkD => stopMarkD); (refine Mine.ne_int_diff (by omega) ?_)) | walk1 | (dsimp only; walk1) | (leave1; walk_say "STEP leave1"; try dsimp only)))
    exact ret _ _ (by assumption) (by (first | assumption | exact cb_drop (by assumption) (by walk_at "mine sub")))
set_option maxHeartbeats 4000000 in
theorem c_refK (w : World) {gd : Option (List Code)} {cn : Str} {cs : Scope} {a : Addr} {ccd : Value} {A₀ : Around} {h₀ : Heap} {L : Addr} {m mg mb : Str → Option Value}
    {p : Program} {loose : List Str} {mean : ExcName → Option Value} {s : Shared} {R : Result → Shared → Prop} {news : List (Addr × Obj)} {f T8 : Addr} {z : Int} {x : Int} {tx tk tv : Tok} {va : Array UInt8} {nvs : List Value}
    (B : Below A₀ h₀ [] h₀) (F : Fr h₀ L s.heap m) (X : (Mine.z.heap_1_39 w.params).In h₀) (T : Top p loose mean mg mb h₀) (hk : cs.kind = .function) (N : News h₀ L s.heap ((T8, tupOf nvs) :: news))
    (ret : ∀ h' tk', Fr h₀ L h' m → News h₀ L h' ((T8, tupOf nvs) :: news) → R (.ok (.ret (.bool true))) { s with heap := h', toks := tk' }) :
    codeAny (model PySem.Challenge.rw_iu0037_01.row.prog w) (ctop 700 7000 gd cn cs L a ccd [] []) (.call (.ref 295) ⟨[.int x tx, .int z tk, .bytes va tv, .ref T8, .ref f], []⟩) R s := by
  revert X; k_fill; w_top off; intro X
  k_dflt (refine' code_defS0 ?k1 ?k2 ?k3 ?k4 ?k5 ?kA ?k6 ?k7 ?k8 ?k9 ?kB ?_ ?cK ?c2 ?c3 ?c4 ?c5; (case kA => exact rfl); (case k2 => k_asm); (case k1 => k_asm); (case k3 => k_asm); (case k4 => k_asm); (case k5 => k_asm); (case k6 => k_is); (case k7 => k_is); (case k8 => ktr_room); (case k9 => first | exact BindsTo.of_eq rfl | exact binds_K (by k_in) rfl (by k_is) rfl rfl rfl); (case kB => exact locs rfl); (case cK => assumption); (case c2 => exact rfl); (case c3 => exact rfl); (case c4 => exact rfl); (case c5 => decide); k_whole; intro _ _ _ _ _ _ B9' _ _ _; (try dsimp only); (try k_lift B9'); (try k_fold))
  (repeat' (first | (k_unfold; (try dsimp only)) | (k_end; wrow_close) | ((with_reducible show wpAny _ _ (call (Value.builtin "len") [Value.ref _]) _ _ _); k_here; k_dflt (refine Mine.len_tup (by k_asm) (by k_mem) (by first | omega | (simp; omega)) ?_; intro _ _)) | ((with_reducible show wpAny _ _ (compareOp CmpOp.NotEq (Value.int _ _) (Value.int _ _)) _ _ _); k_here; (rename Mine.MarkD => stopMarkD); (refine Mine.ne_int_diff (by omega) ?_)) | walk1 | (dsimp only; walk1) | (leave1; walk_say "STEP leave1"; try dsimp only)))
  · exact ret _ _ (by assumption) (by (first | assumption | exact cb_drop (by assumption) (by walk_at "mine sub")))
  · dsimp only [InitBack]
    (repeat' (first | (k_unfold; (try dsimp only)) | (k_end; wrow_close) | ((with_reducible show wpAny _ _ (call (Value.builtin "len") [Value.ref _]) _ _ _); k_here; k_dflt (refine Mine.len_tup (by k_asm) (by k_mem) (by first | omega | (simp; omega)) ?_; intro _ _)) | ((with_reducible show wpAny _ _ (compareOp CmpOp.NotEq (Value.int _ _) (Value.int _ _)) _ _ _); k_here; (rename Mine.MarkD => stopMarkD); (refine Mine.ne_int_diff (by omega) ?_)) | walk1 | (dsimp only; walk1) | (leave1; walk_say "STEP leave1"; try dsimp only)))
    exact ret _ _ (by assumption) (by (first | assumption | exact cb_drop (by assumption) (by walk_at "mine sub")))
end Mine
namespace Mine
theorem rows_one {bs : List By} {p : Nat} {x : By} (hb8 : bs.length = 8) (hp : p < 8) (hbz : ∀ b ∈ bs, b.length ≤ 100) (hx : x.length ≤ 1000) : (bs.take p ++ [x] ++ bs.drop (p + 1)).length = 8 ∧ ∀ b ∈ bs.take p ++ [x] ++ bs.drop (p + 1), b.length ≤ 1000 := by
  refine ⟨by simp [hb8]; omega, fun b hb => ?_⟩
  rcases List.mem_append.mp hb with hb | hb
  · rcases List.mem_append.mp hb with hb | hb
    · exact Nat.le_trans (hbz _ (List.mem_of_mem_take hb)) (by decide)
    · rw [List.mem_singleton.mp hb]; exact hx
  · exact Nat.le_trans (hbz _ (List.mem_of_mem_drop hb)) (by decide)
set_option maxHeartbeats 4000000 in
theorem c_rows (w : World) {gd : Option (List Code)} {cn : Str} {cs : Scope} {a : Addr} {ccd : Value} {cl : List (Str × Addr)} {outer : List Env} {A₀ : Around} {base h₀ : Heap} {L : Addr} {m mg mb : Str → Option Value}
    {p : Program} {loose : List Str} {mean : ExcName → Option Value} {s : Shared} {R : Result → Shared → Prop} {news : List (Addr × Obj)} {T8 : Addr} {n : Int} {tn to8 : Tok} {oa : Array UInt8} {bvs : List Value} {bs : List By}
    (B : Below A₀ base outer h₀) (F : Fr h₀ L s.heap m) (X : (Mine.z.heap_1_39 w.params).In h₀) (T : Top p loose mean mg mb h₀) (hk : cs.kind = .function) (N : News h₀ L s.heap ((T8, tupOf bvs) :: news)) (hb : BsAre bvs bs) (hb8 : bs.length = 8) (hbz : ∀ b ∈ bs, b.length ≤ 100) (ho : oa.size ≤ 100) (hn : 0 ≤ n)
    (ret : ∀ X rvs rs h' tk', Fr h₀ L h' m → News h₀ L h' ((X, tupOf rvs) :: (T8, tupOf bvs) :: news) → BsAre rvs rs → rs.length = 8 → (∀ b ∈ rs, b.length ≤ 1000) → R (.ok (.ret (.ref X))) { s with heap := h', toks := tk' }) :
    codeAny (model PySem.Challenge.rw_iu0037_01.row.prog w) (ctop 900 9000 gd cn cs L a ccd cl outer) (.call (.ref 302) ⟨[.ref T8, .int n tn, .bytes oa to8], []⟩) R s := by
  revert X; k_fill; w_top off; intro X
  have mk9 := Mark.mk
  have hbl : bvs.length = 8 := by rw [hb.length, hb8]
  obtain ⟨k, rfl⟩ := Int.eq_ofNat_of_zero_le hn
  obtain ⟨p, hp⟩ : ∃ p, k / 8 % 8 = p := ⟨_, rfl⟩
  have hp8 : p < 8 := by omega
  have hpl : ((k : Int).fdiv 8).fmod 8 = (p : Int) := by
    rw [Int.fdiv_eq_ediv_of_nonneg _ (by decide), Int.fmod_eq_emod_of_nonneg _ (by decide)]
    omega
  obtain ⟨b0, t0, hv0, hb0⟩ := hb.at (i := 0) (b := bs[0]'(by omega)) (List.getElem?_eq_getElem _)
  obtain ⟨bp, tp, hvp, hbp⟩ := hb.at (i := p) (b := bs[p]'(by omega)) (List.getElem?_eq_getElem _)
  have hs0 : b0.size ≤ 100 := by rw [← Array.length_toList, hb0]; exact hbz _ (List.getElem_mem _)
  have hsp : bp.size ≤ 100 := by rw [← Array.length_toList, hbp]; exact hbz _ (List.getElem_mem _)
  k_dflt cell_enter
  (repeat' (first | (k_unfold; (try dsimp only)) | (k_end; wrow_close) | ((with_reducible show wpAny _ _ (binaryOp Operator.Add (Value.bytes _ _) (Value.bytes _ _)) _ _ _); k_here; (refine Mine.cat_bytes (by omega) ?_); intro _ _ _ _) | ((with_reducible show wpAny _ _ (binaryOp Operator.Add (Value.ref _) (Value.ref _)) _ _ _); k_here; (rename Mine.Mark => stopMark); (refine Mine.add_TT (by k_asm) (by k_asm) (by k_dflt k_mem) (by k_dflt k_mem) (by (first | omega | (simp only [List.length_append, List.length_take, List.length_drop, List.length_cons, List.length_nil, List.length_reverse]; omega))) ?_); intro _ _ _ _; (try k_sweep)) | ((with_reducible show wpAny _ _ (subscriptTail (Expr.Name _ _) (Expr.Constant _ _ _) (Value.ref _) (Value.int _ _)) _ _ _); k_here; (rename Mine.Mark => stopMark); k_dflt (refine' Mine.item_T (i := 0) ?N ?l ?x ?v ?z ?_; (case N => k_asm); (case l => k_mem); (case v => assumption); (case x => rfl); (case z => omega))) | ((with_reducible show wpAny _ _ (subscriptTail (Expr.Name _ _) (Expr.Name _ _) (Value.ref _) (Value.int _ _)) _ _ _); k_here; k_dflt (first | (refine' Mine.item_L ?N ?l ?x ?v ?z ?_; (case N => k_asm); (case l => k_mem); (case v => assumption); (case x => first | rfl | omega); (case z => omega)) | (refine' Mine.item_T ?N ?l ?x ?v ?z ?_; (case N => k_asm); (case l => k_mem); (case v => assumption); (case x => first | rfl | omega); (case z => omega)))) | ((with_reducible show wpAny _ _ (subscriptTail (Expr.Name _ _) (Expr.Slice _ _ _ _) (Value.ref _) (Value.ref _)) _ _ _); k_here; (rename Mine.Mark => stopMark); (with_reducible rename Fr _ _ _ _ => F9'); (with_reducible rename News _ _ _ _ => N9'); (first | ((with_reducible show wpAny _ _ (subscriptTail _ (Expr.Slice none (some _) none _) _ _) _ _ _); (refine Mine.slice_to (s := ⟨_, _, _, _, _⟩) F9' N9' (by k_dflt k_mem) (by omega) (by (first | omega | (simp only [List.length_append, List.length_take, List.length_drop, List.length_cons, List.length_nil, List.length_reverse]; omega))) (by (first | omega | (simp only [List.length_append, List.length_take, List.length_drop, List.length_cons, List.length_nil, List.length_reverse]; omega))) ?_)) | ((with_reducible show wpAny _ _ (subscriptTail _ (Expr.Slice (some _) none none _) _ _) _ _ _); (refine Mine.slice_from (s := ⟨_, _, _, _, _⟩) F9' N9' (by k_dflt k_mem) (by omega) (by (first | omega | (simp only [List.length_append, List.length_take, List.length_drop, List.length_cons, List.length_nil, List.length_reverse]; omega))) (by (first | omega | (simp only [List.length_append, List.length_take, List.length_drop, List.length_cons, List.length_nil, List.length_reverse]; omega))) ?_)) | ((with_reducible show wpAny _ _ (subscriptTail _ (Expr.Slice none none (some _) _) _ _) _ _ _); (refine Mine.slice_rev (s := ⟨_, _, _, _, _⟩) F9' N9' (by k_dflt k_mem) (by (first | omega | (simp only [List.length_append, List.length_take, List.length_drop, List.length_cons, List.length_nil, List.length_reverse]; omega))) ?_))); intro _ _ _ _; (try k_sweep)) | walk1 | (dsimp only; walk1) | (leave1; walk_say "STEP leave1"; try dsimp only)))
  · (rename News h₀ L _ _ => lN)
    rw [hpl, Int.toNat_natCast, show ((p : Int) + 1).toNat = p + 1 by omega] at lN
    have q := rows_one (x := oa.toList) hb8 hp8 hbz (by rw [Array.length_toList]; omega)
    exact ret _ _ _ _ _ (by assumption) (cb_drop lN (by walk_at "mine sub")) (((hb.take p).append (BsAre.one rfl)).append (hb.drop (p + 1))) q.1 q.2
  · exact ret _ _ _ _ _ (by assumption) (by (first | assumption | exact cb_drop (by assumption) (by walk_at "mine sub"))) hb.reverse (by rw [List.length_reverse]; exact hb8) (fun b h => Nat.le_trans (hbz _ (List.mem_reverse.mp h)) (by decide))
  · (rename News h₀ L _ _ => lN)
    rw [hpl, Int.toNat_natCast, show ((p : Int) + 1).toNat = p + 1 by omega] at lN
    have q := rows_one (x := []) hb8 hp8 hbz (by decide)
    exact ret _ _ _ _ _ (by assumption) (cb_drop lN (by walk_at "mine sub")) (((hb.take p).append (BsAre.one rfl)).append (hb.drop (p + 1))) q.1 q.2
  · exact ret _ _ _ _ _ (by assumption) (by (first | assumption | exact cb_drop (by assumption) (by walk_at "mine sub"))) ((hb.drop 1).append (hb.take 1)) (by simp [hb8]) (fun b h => Nat.le_trans (hbz _ ((List.mem_append.mp h).elim List.mem_of_mem_drop List.mem_of_mem_take)) (by decide))
  · (rename News h₀ L _ _ => lN); (rename Array.toList _ = _ ++ _ => hcat)
    rw [hpl, Int.toNat_natCast, show ((p : Int) + 1).toNat = p + 1 by omega] at lN
    have q := rows_one (x := bp.toList ++ b0.toList) hb8 hp8 hbz (by rw [List.length_append, Array.length_toList, Array.length_toList]; omega)
    exact ret _ _ _ _ _ (by assumption) (cb_drop lN (by walk_at "mine sub")) (((hb.take p).append (BsAre.one hcat)).append (hb.drop (p + 1))) q.1 q.2
  · (rename News h₀ L _ _ => lN)
    exact ret _ _ _ _ _ (by assumption) (fun q hq => (List.mem_cons.mp hq).elim (fun e => e ▸ lN _ (.head _)) (lN q)) hb hb8 (fun b h => Nat.le_trans (hbz _ h) (by decide))
end Mine
namespace Mine
inductive MarkT : Prop where
  | mk
section
variable {prog : Program} {w : World} {A : Around} {E : Value → Shared → Prop} {s : Shared} {x y : Int} {t u : Tok} {Q : Value → Shared → Prop}
theorem gt_yes (e : y < x) (h : Q (.bool true) s) : wpAny (model prog w) A (compareOp .Gt (.int x t) (.int y u)) Q E s := gt_int (by rw [decide_eq_true (show x > y from e)]; exact h)
theorem gt_no (e : ¬ y < x) (h : Q (.bool false) s) : wpAny (model prog w) A (compareOp .Gt (.int x t) (.int y u)) Q E s := gt_int (by rw [decide_eq_false (show ¬ x > y from e)]; exact h)
end
noncomputable def stmtNth : Nat → List Stmt → Stmt
  | 0, s :: _ => s
  | n + 1, _ :: r => stmtNth n r
  | _, [] => default
noncomputable def forBody : Stmt → List Stmt
  | .For _ _ b _ _ => b
  | _ => []
noncomputable def lawStmt : Stmt := fdNamed (Str.ofString "law") PySem.Challenge.pw_iu0037_01.main.body
@[reducible] noncomputable def lawScopeS : {b : Scope // b = fdScope lawStmt} := by
  refine ⟨?b, ?h⟩
  case h => conv => rhs; whnf
@[reducible] noncomputable def lawScope : Scope := lawScopeS.1
/-- the main loop's turn, from «taken» on -/
@[reducible] noncomputable def turnBS : {b : List Stmt // b = (forBody (stmtNth 10 (fdBody lawStmt))).drop 5} := by
  refine ⟨?b, ?h⟩
  case h => conv => rhs; whnf
@[reducible] noncomputable def turnB : List Stmt := turnBS.1
/-- from «if proof.root_hash» on -/
@[reducible] noncomputable def tailBS : {b : List Stmt // b = (fdBody lawStmt).drop 11} := by
  refine ⟨?b, ?h⟩
  case h => conv => rhs; whnf
@[reducible] noncomputable def tailB : List Stmt := tailBS.1
/-- from «mine» on -/
@[reducible] noncomputable def midBS : {b : List Stmt // b = (fdBody lawStmt).drop 6} := by
  refine ⟨?b, ?h⟩
  case h => conv => rhs; whnf
@[reducible] noncomputable def midB : List Stmt := midBS.1
end Mine
namespace Mine
set_option maxHeartbeats 8000000 in
theorem law_turnB (w : World) {gd : Option (List Code)} {a : Addr} {ccd : Value} {A₀ : Around} {h₀ : Heap} {L : Addr} {m mg mb : Str → Option Value}
    {p : Program} {loose : List Str} {mean : ExcName → Option Value} {s : Shared} {Q : Flow → Shared → Prop} {E : Value → Shared → Prop} {base : List (Addr × Obj)} {f r hl t td db bl pd pf : Addr} {x : TD} {y : PD} {da va root : Array UInt8} {dt tv tr tk1 : Tok} {um : UInt8} {bvs : List Value} {c : Nat} {od odb oh : Obj} {kvs kvd kvh : List (By × Value)} {reg : List By} {nd : Nat → Nat → By} {XA : Addr} {avs : List Value} {sz : Int} {ts tn tm tvv : Tok} {u : UInt8} {vb : Array UInt8} {nd' : Nat → Nat → By} {hs : Nat → By}
    (B : Below A₀ h₀ [] h₀) (F : Fr h₀ L s.heap m) (X : (Mine.z.heap_1_39 w.params).In h₀) (T : Top p loose mean mg mb h₀)
    (N : News h₀ L s.heap ((t, instObj 214 td) :: (td, tdOf x (.bytes da dt) f db (.bytes root tr)) :: (db, odb) :: (r, od) :: (hl, oh) :: (bl, W.listOf bvs.toArray c) :: (pd, pdOf y (.bytes #[um] tk1) (.bytes va tv) bl f) :: (pf, instObj 111 pd) :: base)) (ap : Ap td db r hl bl pd base) (H : HashAt base f r)
    (hd : od.IsDictOf (bytesKind PySem.Challenge.rw_iu0037_01.row.prog w) kvs) (hr : RegIs kvs reg) (hz : reg.length ≤ 500000) (hdb : odb.IsDictOf (bytesKind PySem.Challenge.rw_iu0037_01.row.prog w) kvd)
    (D : DbOk reg kvd (put (heldVal kvh da.toList) u.toNat vb.toList) (setNd nd u.toNat hs)) (hnd : Nodes reg (heldVal kvh da.toList) nd) (hroot : root.toList = setNd nd u.toNat hs 8 0)
    (hh : oh.IsDictOf (bytesKind PySem.Challenge.rw_iu0037_01.row.prog w) kvh) (hok : HeldOk kvh) (hhz : kvh.length ≤ 15)
    (hb : BsAre bvs (beside nd um.toNat)) (hva : va.toList = heldVal kvh da.toList um.toNat)
    (hX : (XA, tupOf avs) ∈ base) (hav : BsAre avs (along (setNd nd u.toNat hs) u.toNat)) (hs0 : 0 ≤ sz) (hs8 : sz ≤ 8)
    (m1 : m (Str.ofString "proof") = some (.ref pf)) (m2 : m (Str.ofString "key") = some (.bytes #[u] tn)) (m3 : m (Str.ofString "value") = some (.bytes vb tvv)) (m4 : m (Str.ofString "nodes") = some (.ref XA)) (m5 : m (Str.ofString "size") = some (.int sz ts))
    (m6 : m (Str.ofString "mine") = some (.bytes #[um] tm)) (m7 : m (Str.ofString "held") = some (.ref hl)) (m8 : m (Str.ofString "default") = some (.bytes da dt)) (m9 : m (Str.ofString "hash_of") = some (.ref f))
    (next : ∀ m' (od' oh' : Obj) kvs' reg' bvs' va' tv' h' tk', (∀ z, z ≠ Str.ofString "taken" → m' z = m z) → Fr h₀ L h' m' →
      News h₀ L h' ((t, instObj 214 td) :: (td, tdOf x (.bytes da dt) f db (.bytes root tr)) :: (db, odb) :: (r, od') :: (hl, oh') :: (bl, W.listOf bvs'.toArray c) :: (pd, pdOf y (.bytes #[um] tk1) (.bytes va' tv') bl f) :: (pf, instObj 111 pd) :: base) →
      od'.IsDictOf (bytesKind PySem.Challenge.rw_iu0037_01.row.prog w) kvs' → RegIs kvs' reg' → reg <+: reg' → reg'.length ≤ reg.length + 12000 → oh'.IsDictOf (bytesKind PySem.Challenge.rw_iu0037_01.row.prog w) (stored kvh [u] (.bytes vb tvv)) →
      BsAre bvs' (beside (setNd nd u.toNat hs) um.toNat) → va'.toList = heldVal (stored kvh [u] (.bytes vb tvv)) da.toList um.toNat → Q .next { s with heap := h', toks := tk' }) :
    wpAny (model PySem.Challenge.rw_iu0037_01.row.prog w) (ctop 302 7 gd (Str.ofString "law") lawScope L a ccd [] []) (execs turnB (envOf (Str.ofString "law") lawScope L a ccd)) Q E s := by
  obtain ⟨n1, n2, n3, n4, n5, n6, n7, n8, n9, n10, b1, b2, b3, b4, b5, b6, lo, lo2⟩ := ap
  revert X; k_fill; w_top off; intro X
  have mk9 := Mark.mk
  have mkU := MarkU.mk
  have hb8 : bvs.length = 8 := by rw [hb.length, beside_length]
  have ha8 : avs.length = 8 := by rw [hav.length, along_length]
  have hu := u.toNat_lt
  have hum := um.toNat_lt
  have hm := see_all [(Str.ofString "proof", .ref pf), (Str.ofString "key", .bytes #[u] tn), (Str.ofString "value", .bytes vb tvv), (Str.ofString "nodes", .ref XA), (Str.ofString "size", .int sz ts), (Str.ofString "mine", .bytes #[um] tm), (Str.ofString "held", .ref hl), (Str.ofString "default", .bytes da dt), (Str.ofString "hash_of", .ref f)]
    (List.forall_mem_cons.mpr ⟨m1, List.forall_mem_cons.mpr ⟨m2, List.forall_mem_cons.mpr ⟨m3, List.forall_mem_cons.mpr ⟨m4, List.forall_mem_cons.mpr ⟨m5, List.forall_mem_cons.mpr ⟨m6, List.forall_mem_cons.mpr ⟨m7, List.forall_mem_cons.mpr ⟨m8, List.forall_mem_cons.mpr ⟨m9, List.forall_mem_nil _⟩⟩⟩⟩⟩⟩⟩⟩⟩)
  have hmz : ∀ z, (match List.lookup z [(Str.ofString "proof", .ref pf), (Str.ofString "key", .bytes #[u] tn), (Str.ofString "value", .bytes vb tvv), (Str.ofString "nodes", .ref XA), (Str.ofString "size", .int sz ts), (Str.ofString "mine", .bytes #[um] tm), (Str.ofString "held", .ref hl), (Str.ofString "default", .bytes da dt), (Str.ofString "hash_of", .ref f)] with | some v => some v | none => m z) = m z := fun z => (congrFun hm z).symm
  rw [hm] at F
  clear hm
  have N2 : News h₀ L s.heap ((XA, tupOf avs) :: (t, instObj 214 td) :: (td, tdOf x (.bytes da dt) f db (.bytes root tr)) :: (db, odb) :: (r, od) :: (hl, oh) :: (bl, W.listOf bvs.toArray c) :: (pd, pdOf y (.bytes #[um] tk1) (.bytes va tv) bl f) :: (pf, instObj 111 pd) :: base) := cb_drop N (List.forall_mem_cons.mpr ⟨.tail _ (.tail _ (.tail _ (.tail _ (.tail _ (.tail _ (.tail _ (.tail _ hX))))))), fun _ hp => hp⟩)
  clear N
  (repeat' (first | (k_unfold; (try dsimp only)) | (k_end; wrow_close) | ((with_reducible show wpAny _ _ (call (Value.ref _) _) _ _ _); k_here; (rename Mine.Mark => stopMark); (first | refine Mine.stop_call (by decide) ?_ | ((rename Mine.MarkU => stopMarkU); refine Mine.stop_callU (by decide) ?_))) | ((with_reducible show wpAny _ _ (compareOp CmpOp.Eq (Value.bytes _ _) (Value.bytes _ _)) _ _ _); k_here; (rename Mine.Mark => stopMark); (first | refine Mine.eq_diff (by assumption) ?_ | refine Mine.eq_diff (fun e => absurd (Eq.trans e (by assumption)) (by assumption)) ?_ | refine Mine.eq_same (by k_dflt (first | rfl | assumption | exact Eq.trans (by assumption) (Eq.symm (by assumption)))) ?_)) | ((with_reducible show wpAny _ _ (compareOp CmpOp.Gt (Value.int _ _) (Value.int _ _)) _ _ _); k_here; (rename Mine.MarkU => stopMarkU); (first | refine Mine.gt_yes (by omega) ?_ | refine Mine.gt_no (by omega) ?_)) | ((with_reducible show wpAny _ _ (setItem (Value.ref _) (Value.bytes _ _) _) _ _ _); k_here; k_dflt (refine' kda_set (knd := PySem.W.bytesKind _ _) ?F ?N ?U ?d (Mine.bytes_is _ _ _ _) ?z ?_; (case F => k_asm); (case N => k_asm); (case U => k_updF); (case d => k_asm); (case z => rw [sizeLine_eq]; omega)); intro _ _ _ N9' _; (try dsimp only at N9')) | ((with_reducible show wpAny _ _ (subscriptTail (Expr.Name _ _) (Expr.Slice _ _ _ _) (Value.ref _) (Value.ref _)) _ _ _); k_here; (rename Mine.Mark => stopMark); (with_reducible rename Fr _ _ _ _ => F9'); (with_reducible rename News _ _ _ _ => N9'); (first | ((with_reducible show wpAny _ _ (subscriptTail _ (Expr.Slice none (some _) none _) _ _) _ _ _); (refine Mine.slice_to (s := ⟨_, _, _, _, _⟩) F9' N9' (by k_dflt k_mem) (by omega) (by (first | omega | (simp only [List.length_append, List.length_take, List.length_drop, List.length_cons, List.length_nil, List.length_reverse]; omega))) (by (first | omega | (simp only [List.length_append, List.length_take, List.length_drop, List.length_cons, List.length_nil, List.length_reverse]; omega))) ?_)) | ((with_reducible show wpAny _ _ (subscriptTail _ (Expr.Slice (some _) none none _) _ _) _ _ _); (refine Mine.slice_from (s := ⟨_, _, _, _, _⟩) F9' N9' (by k_dflt k_mem) (by omega) (by (first | omega | (simp only [List.length_append, List.length_take, List.length_drop, List.length_cons, List.length_nil, List.length_reverse]; omega))) (by (first | omega | (simp only [List.length_append, List.length_take, List.length_drop, List.length_cons, List.length_nil, List.length_reverse]; omega))) ?_)) | ((with_reducible show wpAny _ _ (subscriptTail _ (Expr.Slice none none (some _) _) _ _) _ _ _); (refine Mine.slice_rev (s := ⟨_, _, _, _, _⟩) F9' N9' (by k_dflt k_mem) (by (first | omega | (simp only [List.length_append, List.length_take, List.length_drop, List.length_cons, List.length_nil, List.length_reverse]; omega))) ?_))); intro _ _ _ _; (try k_sweep)) | walk1 | (dsimp only; walk1) | (leave1; walk_say "STEP leave1"; try dsimp only)))
  unfold Stop
  rename_i X2 h2 F2 N2
  have q0 : (avs.take sz.toNat).length ≤ 8 := by rw [List.length_take]; omega
  have hbp : @Ne Nat bl pd := by k_ne
  have hkn0 : Nodes reg (heldVal kvh da.toList) nd := hnd
  refine' useC ?frA ?h1A ?h2A ?h3A (c_taken w (bl := bl) (pd := pd) (pf := pf) (T8 := X2) (y := y) (u := um) (v := u) (tk1 := tk1) (tv := tv) (va := va) (f := f) (bvs := bvs) (c := c) (rest := (X2, tupOf (avs.take sz.toNat)) :: (t, instObj 214 td) :: (td, tdOf x (.bytes da dt) f db (.bytes root tr)) :: (db, odb) :: (r, od) :: (hl, oh) :: (pf, instObj 111 pd) :: base) ?BA ?FA ?XA ?TA ?hkA (cb_drop ?NA ?subA) ?hoBA ?hoPA hbp ?hpfA (.head _) hb8 q0 ?ret0A ?ret1A ?retEA)
  case FA => k_asm
  case BA => k_asm
  case XA => k_asm
  case TA => k_asm
  case NA => k_asm
  case subA => walk_at "mine sub"
  case frA => exact rfl
  case h1A => exact rfl
  case hkA => exact rfl
  case h2A => (first | exact Nat.le_of_ble_eq_true rfl | ((simp only [depth_under_make, depth_in1, depth_deeper, units_under_make, units_in1, units_deeper]); exact Nat.le_of_ble_eq_true rfl))
  case h3A => (first | exact Nat.le_of_ble_eq_true rfl | ((simp only [depth_under_make, depth_in1, depth_deeper, units_under_make, units_in1, units_deeper]); exact Nat.le_of_ble_eq_true rfl))
  case hoBA => k_all
  case hoPA => k_all
  case hpfA => k_dflt k_mem
  case ret0A =>
    rintro rfl tx h3 tk3 F3 N3
    show wpAny _ _ _ _ _ _
    (repeat' (first | (k_unfold; (try dsimp only)) | (k_end; wrow_close) | ((with_reducible show wpAny _ _ (call (Value.ref _) _) _ _ _); k_here; (rename Mine.Mark => stopMark); (first | refine Mine.stop_call (by decide) ?_ | ((rename Mine.MarkU => stopMarkU); refine Mine.stop_callU (by decide) ?_))) | ((with_reducible show wpAny _ _ (compareOp CmpOp.Eq (Value.bytes _ _) (Value.bytes _ _)) _ _ _); k_here; (rename Mine.Mark => stopMark); (first | refine Mine.eq_diff (by assumption) ?_ | refine Mine.eq_diff (fun e => absurd (Eq.trans e (by assumption)) (by assumption)) ?_ | refine Mine.eq_same (by k_dflt (first | rfl | assumption | exact Eq.trans (by assumption) (Eq.symm (by assumption)))) ?_)) | ((with_reducible show wpAny _ _ (compareOp CmpOp.Gt (Value.int _ _) (Value.int _ _)) _ _ _); k_here; (rename Mine.MarkU => stopMarkU); (first | refine Mine.gt_yes (by omega) ?_ | refine Mine.gt_no (by omega) ?_)) | ((with_reducible show wpAny _ _ (setItem (Value.ref _) (Value.bytes _ _) _) _ _ _); k_here; k_dflt (refine' kda_set (knd := PySem.W.bytesKind _ _) ?F ?N ?U ?d (Mine.bytes_is _ _ _ _) ?z ?_; (case F => k_asm); (case N => k_asm); (case U => k_updF); (case d => k_asm); (case z => rw [sizeLine_eq]; omega)); intro _ _ _ N9' _; (try dsimp only at N9')) | ((with_reducible show wpAny _ _ (subscriptTail (Expr.Name _ _) (Expr.Slice _ _ _ _) (Value.ref _) (Value.ref _)) _ _ _); k_here; (rename Mine.Mark => stopMark); (with_reducible rename Fr _ _ _ _ => F9'); (with_reducible rename News _ _ _ _ => N9'); (first | ((with_reducible show wpAny _ _ (subscriptTail _ (Expr.Slice none (some _) none _) _ _) _ _ _); (refine Mine.slice_to (s := ⟨_, _, _, _, _⟩) F9' N9' (by k_dflt k_mem) (by omega) (by (first | omega | (simp only [List.length_append, List.length_take, List.length_drop, List.length_cons, List.length_nil, List.length_reverse]; omega))) (by (first | omega | (simp only [List.length_append, List.length_take, List.length_drop, List.length_cons, List.length_nil, List.length_reverse]; omega))) ?_)) | ((with_reducible show wpAny _ _ (subscriptTail _ (Expr.Slice (some _) none none _) _ _) _ _ _); (refine Mine.slice_from (s := ⟨_, _, _, _, _⟩) F9' N9' (by k_dflt k_mem) (by omega) (by (first | omega | (simp only [List.length_append, List.length_take, List.length_drop, List.length_cons, List.length_nil, List.length_reverse]; omega))) (by (first | omega | (simp only [List.length_append, List.length_take, List.length_drop, List.length_cons, List.length_nil, List.length_reverse]; omega))) ?_)) | ((with_reducible show wpAny _ _ (subscriptTail _ (Expr.Slice none none (some _) _) _ _) _ _ _); (refine Mine.slice_rev (s := ⟨_, _, _, _, _⟩) F9' N9' (by k_dflt k_mem) (by (first | omega | (simp only [List.length_append, List.length_take, List.length_drop, List.length_cons, List.length_nil, List.length_reverse]; omega))) ?_))); intro _ _ _ _; (try k_sweep)) | walk1 | (dsimp only; walk1) | (leave1; walk_say "STEP leave1"; try dsimp only)))
    unfold Stop
    (rename Obj.IsDictOf _ _ (stored _ _ _) => hhX)
    obtain ⟨oh2, hoh, hh2⟩ := nameOd hhX
    clear hhX
    subst hoh
    have hb0 : BsAre bvs (beside (setNd nd um.toNat hs) um.toNat) := by rw [beside_set_self]; exact hb
    have hv0 : vb.toList = heldVal (stored kvh [um] (.bytes vb tvv)) da.toList um.toNat := by rw [heldVal_stored hum, if_pos rfl]
    refine' useC ?frB ?h1B ?h2B ?h3B (c_kept w (rest := (t, instObj 214 td) :: (td, tdOf x (.bytes da dt) f db (.bytes root tr)) :: (db, odb) :: (hl, oh2) :: (bl, W.listOf (bvs).toArray c) :: (pd, pdOf y (.bytes #[um] tk1) (.bytes vb tx) bl f) :: (pf, instObj 111 pd) :: base) (pf := pf) (pd := pd) (bl := bl) (hl := hl) (y := y) (c := c) ?BB ?FB ?XB ?TB ?hkB (cb_drop ?NB ?subB) ?hoffB lo ?HB hd hr (by omega) ?hpfB ?hpdB ?hblB ?hmemB hh2 lo2 hok.set ?hhzB hv0 (D.nodes.congr put_held) hb0 ?retB)
    case FB => k_asm
    case BB => k_asm
    case XB => k_asm
    case TB => k_asm
    case NB => k_asm
    case subB => walk_at "mine sub"
    case frB => exact rfl
    case h1B => exact rfl
    case hkB => exact rfl
    case h2B => (first | exact Nat.le_of_ble_eq_true rfl | ((simp only [depth_under_make, depth_in1, depth_deeper, units_under_make, units_in1, units_deeper]); exact Nat.le_of_ble_eq_true rfl))
    case h3B => (first | exact Nat.le_of_ble_eq_true rfl | ((simp only [depth_under_make, depth_in1, depth_deeper, units_under_make, units_in1, units_deeper]); exact Nat.le_of_ble_eq_true rfl))
    case hoffB => k_all
    case HB => exact H.mono fun p hp => .tail _ (.tail _ (.tail _ (.tail _ (.tail _ (.tail _ (.tail _ hp))))))
    case hpfB => k_dflt k_mem
    case hpdB => k_dflt k_mem
    case hblB => k_dflt k_mem
    case hmemB => k_dflt k_mem
    case hhzB => first | omega | exact Nat.le_trans (stored_length_le _ _ _) (by omega)
    case retB =>
      intro od2 kvs2 reg2 h4 tk4 F4 N4 hd2 hr2 hp2 hl2
      show wpAny _ _ _ _ _ _
      (repeat' (first | (k_unfold; (try dsimp only)) | (k_end; wrow_close) | ((with_reducible show wpAny _ _ (call (Value.ref _) _) _ _ _); k_here; (rename Mine.Mark => stopMark); (first | refine Mine.stop_call (by decide) ?_ | ((rename Mine.MarkU => stopMarkU); refine Mine.stop_callU (by decide) ?_))) | ((with_reducible show wpAny _ _ (compareOp CmpOp.Eq (Value.bytes _ _) (Value.bytes _ _)) _ _ _); k_here; (rename Mine.Mark => stopMark); (first | refine Mine.eq_diff (by assumption) ?_ | refine Mine.eq_diff (fun e => absurd (Eq.trans e (by assumption)) (by assumption)) ?_ | refine Mine.eq_same (by k_dflt (first | rfl | assumption | exact Eq.trans (by assumption) (Eq.symm (by assumption)))) ?_)) | ((with_reducible show wpAny _ _ (compareOp CmpOp.Gt (Value.int _ _) (Value.int _ _)) _ _ _); k_here; (rename Mine.MarkU => stopMarkU); (first | refine Mine.gt_yes (by omega) ?_ | refine Mine.gt_no (by omega) ?_)) | ((with_reducible show wpAny _ _ (setItem (Value.ref _) (Value.bytes _ _) _) _ _ _); k_here; k_dflt (refine' kda_set (knd := PySem.W.bytesKind _ _) ?F ?N ?U ?d (Mine.bytes_is _ _ _ _) ?z ?_; (case F => k_asm); (case N => k_asm); (case U => k_updF); (case d => k_asm); (case z => rw [sizeLine_eq]; omega)); intro _ _ _ N9' _; (try dsimp only at N9')) | ((with_reducible show wpAny _ _ (subscriptTail (Expr.Name _ _) (Expr.Slice _ _ _ _) (Value.ref _) (Value.ref _)) _ _ _); k_here; (rename Mine.Mark => stopMark); (with_reducible rename Fr _ _ _ _ => F9'); (with_reducible rename News _ _ _ _ => N9'); (first | ((with_reducible show wpAny _ _ (subscriptTail _ (Expr.Slice none (some _) none _) _ _) _ _ _); (refine Mine.slice_to (s := ⟨_, _, _, _, _⟩) F9' N9' (by k_dflt k_mem) (by omega) (by (first | omega | (simp only [List.length_append, List.length_take, List.length_drop, List.length_cons, List.length_nil, List.length_reverse]; omega))) (by (first | omega | (simp only [List.length_append, List.length_take, List.length_drop, List.length_cons, List.length_nil, List.length_reverse]; omega))) ?_)) | ((with_reducible show wpAny _ _ (subscriptTail _ (Expr.Slice (some _) none none _) _ _) _ _ _); (refine Mine.slice_from (s := ⟨_, _, _, _, _⟩) F9' N9' (by k_dflt k_mem) (by omega) (by (first | omega | (simp only [List.length_append, List.length_take, List.length_drop, List.length_cons, List.length_nil, List.length_reverse]; omega))) (by (first | omega | (simp only [List.length_append, List.length_take, List.length_drop, List.length_cons, List.length_nil, List.length_reverse]; omega))) ?_)) | ((with_reducible show wpAny _ _ (subscriptTail _ (Expr.Slice none none (some _) _) _ _) _ _ _); (refine Mine.slice_rev (s := ⟨_, _, _, _, _⟩) F9' N9' (by k_dflt k_mem) (by (first | omega | (simp only [List.length_append, List.length_take, List.length_drop, List.length_cons, List.length_nil, List.length_reverse]; omega))) ?_))); intro _ _ _ _; (try k_sweep)) | walk1 | (dsimp only; walk1) | (leave1; walk_say "STEP leave1"; try dsimp only)))
      refine next _ od2 oh2 kvs2 reg2 (bvs) vb tx h4 tk4 ?hzB (by assumption) (cb_drop (by assumption) (by walk_at "mine sub")) hd2 hr2 hp2 (by omega) hh2 hb0 hv0
      case hzB =>
        intro z hz9
        show (if z = _ then _ else _) = _
        rw [if_neg hz9]
        exact hmz z
  case ret1A =>
    intro pp nv hpp hnv h3 tk3 F3 N3
    show wpAny _ _ _ _ _ _
    have hne : (#[u] : Array UInt8).toList ≠ (#[um] : Array UInt8).toList := fun e => by
      obtain rfl : u = um := by simpa using e
      exact hpp.2.2 rfl
    have huv : um ≠ u := fun e => hne (by rw [e])
    have hps : (pp : Int) < sz := by
      have := (List.getElem?_eq_some_iff.mp hnv).1
      rw [List.length_take] at this
      omega
    (repeat' (first | (k_unfold; (try dsimp only)) | (k_end; wrow_close) | ((with_reducible show wpAny _ _ (call (Value.ref _) _) _ _ _); k_here; (rename Mine.Mark => stopMark); (first | refine Mine.stop_call (by decide) ?_ | ((rename Mine.MarkU => stopMarkU); refine Mine.stop_callU (by decide) ?_))) | ((with_reducible show wpAny _ _ (compareOp CmpOp.Eq (Value.bytes _ _) (Value.bytes _ _)) _ _ _); k_here; (rename Mine.Mark => stopMark); (first | refine Mine.eq_diff (by assumption) ?_ | refine Mine.eq_diff (fun e => absurd (Eq.trans e (by assumption)) (by assumption)) ?_ | refine Mine.eq_same (by k_dflt (first | rfl | assumption | exact Eq.trans (by assumption) (Eq.symm (by assumption)))) ?_)) | ((with_reducible show wpAny _ _ (compareOp CmpOp.Gt (Value.int _ _) (Value.int _ _)) _ _ _); k_here; (rename Mine.MarkU => stopMarkU); (first | refine Mine.gt_yes (by omega) ?_ | refine Mine.gt_no (by omega) ?_)) | ((with_reducible show wpAny _ _ (setItem (Value.ref _) (Value.bytes _ _) _) _ _ _); k_here; k_dflt (refine' kda_set (knd := PySem.W.bytesKind _ _) ?F ?N ?U ?d (Mine.bytes_is _ _ _ _) ?z ?_; (case F => k_asm); (case N => k_asm); (case U => k_updF); (case d => k_asm); (case z => rw [sizeLine_eq]; omega)); intro _ _ _ N9' _; (try dsimp only at N9')) | ((with_reducible show wpAny _ _ (subscriptTail (Expr.Name _ _) (Expr.Slice _ _ _ _) (Value.ref _) (Value.ref _)) _ _ _); k_here; (rename Mine.Mark => stopMark); (with_reducible rename Fr _ _ _ _ => F9'); (with_reducible rename News _ _ _ _ => N9'); (first | ((with_reducible show wpAny _ _ (subscriptTail _ (Expr.Slice none (some _) none _) _ _) _ _ _); (refine Mine.slice_to (s := ⟨_, _, _, _, _⟩) F9' N9' (by k_dflt k_mem) (by omega) (by (first | omega | (simp only [List.length_append, List.length_take, List.length_drop, List.length_cons, List.length_nil, List.length_reverse]; omega))) (by (first | omega | (simp only [List.length_append, List.length_take, List.length_drop, List.length_cons, List.length_nil, List.length_reverse]; omega))) ?_)) | ((with_reducible show wpAny _ _ (subscriptTail _ (Expr.Slice (some _) none none _) _ _) _ _ _); (refine Mine.slice_from (s := ⟨_, _, _, _, _⟩) F9' N9' (by k_dflt k_mem) (by omega) (by (first | omega | (simp only [List.length_append, List.length_take, List.length_drop, List.length_cons, List.length_nil, List.length_reverse]; omega))) (by (first | omega | (simp only [List.length_append, List.length_take, List.length_drop, List.length_cons, List.length_nil, List.length_reverse]; omega))) ?_)) | ((with_reducible show wpAny _ _ (subscriptTail _ (Expr.Slice none none (some _) _) _ _) _ _ _); (refine Mine.slice_rev (s := ⟨_, _, _, _, _⟩) F9' N9' (by k_dflt k_mem) (by (first | omega | (simp only [List.length_append, List.length_take, List.length_drop, List.length_cons, List.length_nil, List.length_reverse]; omega))) ?_))); intro _ _ _ _; (try k_sweep)) | walk1 | (dsimp only; walk1) | (leave1; walk_say "STEP leave1"; try dsimp only)))
    unfold Stop
    obtain ⟨pa, pt, rfl, hpa⟩ := hav.get (by rw [List.getElem?_take] at hnv; split at hnv; exact hnv; cases hnv)
    have hpa2 : pa.toList = setNd nd u.toNat hs (7 - pp) (u.toNat / 2 ^ (7 - pp)) := by rw [along_get (by have := hpp.1; omega)] at hpa; exact (Option.some.inj hpa).symm
    have hb0 : BsAre (bvs.set pp (.bytes pa pt)) (beside (setNd nd u.toNat hs) um.toNat) := by rw [beside_set hpp hum hu, ← hpa2]; exact hb.set
    have hv0 : va.toList = heldVal (stored kvh [u] (.bytes vb tvv)) da.toList um.toNat := by rw [heldVal_stored hum, if_neg (fun e => huv (UInt8.toNat_inj.mp e))]; exact hva
    refine' useC ?frC ?h1C ?h2C ?h3C (c_parting w  ?BC ?FC ?XC ?TC ?hkC (cb_drop ?NC ?subC) huv ?retC)
    case FC => k_asm
    case BC => k_asm
    case XC => k_asm
    case TC => k_asm
    case NC => k_asm
    case subC => walk_at "mine sub"
    case frC => exact rfl
    case h1C => exact rfl
    case hkC => exact rfl
    case h2C => (first | exact Nat.le_of_ble_eq_true rfl | ((simp only [depth_under_make, depth_in1, depth_deeper, units_under_make, units_in1, units_deeper]); exact Nat.le_of_ble_eq_true rfl))
    case h3C => (first | exact Nat.le_of_ble_eq_true rfl | ((simp only [depth_under_make, depth_in1, depth_deeper, units_under_make, units_in1, units_deeper]); exact Nat.le_of_ble_eq_true rfl))
    case retC =>
      intro pq tq h4 tk4 F4 N4 hpq
      show wpAny _ _ _ _ _ _
      obtain rfl := hpq.uniq hpp
      (repeat' (first | (k_unfold; (try dsimp only)) | (k_end; wrow_close) | ((with_reducible show wpAny _ _ (call (Value.ref _) _) _ _ _); k_here; (rename Mine.Mark => stopMark); (first | refine Mine.stop_call (by decide) ?_ | ((rename Mine.MarkU => stopMarkU); refine Mine.stop_callU (by decide) ?_))) | ((with_reducible show wpAny _ _ (compareOp CmpOp.Eq (Value.bytes _ _) (Value.bytes _ _)) _ _ _); k_here; (rename Mine.Mark => stopMark); (first | refine Mine.eq_diff (by assumption) ?_ | refine Mine.eq_diff (fun e => absurd (Eq.trans e (by assumption)) (by assumption)) ?_ | refine Mine.eq_same (by k_dflt (first | rfl | assumption | exact Eq.trans (by assumption) (Eq.symm (by assumption)))) ?_)) | ((with_reducible show wpAny _ _ (compareOp CmpOp.Gt (Value.int _ _) (Value.int _ _)) _ _ _); k_here; (rename Mine.MarkU => stopMarkU); (first | refine Mine.gt_yes (by omega) ?_ | refine Mine.gt_no (by omega) ?_)) | ((with_reducible show wpAny _ _ (setItem (Value.ref _) (Value.bytes _ _) _) _ _ _); k_here; k_dflt (refine' kda_set (knd := PySem.W.bytesKind _ _) ?F ?N ?U ?d (Mine.bytes_is _ _ _ _) ?z ?_; (case F => k_asm); (case N => k_asm); (case U => k_updF); (case d => k_asm); (case z => rw [sizeLine_eq]; omega)); intro _ _ _ N9' _; (try dsimp only at N9')) | ((with_reducible show wpAny _ _ (subscriptTail (Expr.Name _ _) (Expr.Slice _ _ _ _) (Value.ref _) (Value.ref _)) _ _ _); k_here; (rename Mine.Mark => stopMark); (with_reducible rename Fr _ _ _ _ => F9'); (with_reducible rename News _ _ _ _ => N9'); (first | ((with_reducible show wpAny _ _ (subscriptTail _ (Expr.Slice none (some _) none _) _ _) _ _ _); (refine Mine.slice_to (s := ⟨_, _, _, _, _⟩) F9' N9' (by k_dflt k_mem) (by omega) (by (first | omega | (simp only [List.length_append, List.length_take, List.length_drop, List.length_cons, List.length_nil, List.length_reverse]; omega))) (by (first | omega | (simp only [List.length_append, List.length_take, List.length_drop, List.length_cons, List.length_nil, List.length_reverse]; omega))) ?_)) | ((with_reducible show wpAny _ _ (subscriptTail _ (Expr.Slice (some _) none none _) _ _) _ _ _); (refine Mine.slice_from (s := ⟨_, _, _, _, _⟩) F9' N9' (by k_dflt k_mem) (by omega) (by (first | omega | (simp only [List.length_append, List.length_take, List.length_drop, List.length_cons, List.length_nil, List.length_reverse]; omega))) (by (first | omega | (simp only [List.length_append, List.length_take, List.length_drop, List.length_cons, List.length_nil, List.length_reverse]; omega))) ?_)) | ((with_reducible show wpAny _ _ (subscriptTail _ (Expr.Slice none none (some _) _) _ _) _ _ _); (refine Mine.slice_rev (s := ⟨_, _, _, _, _⟩) F9' N9' (by k_dflt k_mem) (by (first | omega | (simp only [List.length_append, List.length_take, List.length_drop, List.length_cons, List.length_nil, List.length_reverse]; omega))) ?_))); intro _ _ _ _; (try k_sweep)) | walk1 | (dsimp only; walk1) | (leave1; walk_say "STEP leave1"; try dsimp only)))
      unfold Stop
      (rename Obj.IsDictOf _ _ (stored _ _ _) => hhX)
      obtain ⟨oh2, hoh, hh2⟩ := nameOd hhX
      clear hhX
      subst hoh
      refine' useC ?frD ?h1D ?h2D ?h3D (c_kept w (rest := (t, instObj 214 td) :: (td, tdOf x (.bytes da dt) f db (.bytes root tr)) :: (db, odb) :: (hl, oh2) :: (bl, W.listOf (bvs.set pq (.bytes pa pt)).toArray c) :: (pd, pdOf y (.bytes #[um] tk1) (.bytes va tv) bl f) :: (pf, instObj 111 pd) :: base) (pf := pf) (pd := pd) (bl := bl) (hl := hl) (y := y) (c := c) ?BD ?FD ?XD ?TD ?hkD (cb_drop ?ND ?subD) ?hoffD lo ?HD hd hr (by omega) ?hpfD ?hpdD ?hblD ?hmemD hh2 lo2 hok.set ?hhzD hv0 (D.nodes.congr put_held) hb0 ?retD)
      case FD => k_asm
      case BD => k_asm
      case XD => k_asm
      case TD => k_asm
      case ND => k_asm
      case subD => walk_at "mine sub"
      case frD => exact rfl
      case h1D => exact rfl
      case hkD => exact rfl
      case h2D => (first | exact Nat.le_of_ble_eq_true rfl | ((simp only [depth_under_make, depth_in1, depth_deeper, units_under_make, units_in1, units_deeper]); exact Nat.le_of_ble_eq_true rfl))
      case h3D => (first | exact Nat.le_of_ble_eq_true rfl | ((simp only [depth_under_make, depth_in1, depth_deeper, units_under_make, units_in1, units_deeper]); exact Nat.le_of_ble_eq_true rfl))
      case hoffD => k_all
      case HD => exact H.mono fun p hp => .tail _ (.tail _ (.tail _ (.tail _ (.tail _ (.tail _ (.tail _ hp))))))
      case hpfD => k_dflt k_mem
      case hpdD => k_dflt k_mem
      case hblD => k_dflt k_mem
      case hmemD => k_dflt k_mem
      case hhzD => first | omega | exact Nat.le_trans (stored_length_le _ _ _) (by omega)
      case retD =>
        intro od2 kvs2 reg2 h5 tk5 F5 N5 hd2 hr2 hp2 hl2
        show wpAny _ _ _ _ _ _
        (repeat' (first | (k_unfold; (try dsimp only)) | (k_end; wrow_close) | ((with_reducible show wpAny _ _ (call (Value.ref _) _) _ _ _); k_here; (rename Mine.Mark => stopMark); (first | refine Mine.stop_call (by decide) ?_ | ((rename Mine.MarkU => stopMarkU); refine Mine.stop_callU (by decide) ?_))) | ((with_reducible show wpAny _ _ (compareOp CmpOp.Eq (Value.bytes _ _) (Value.bytes _ _)) _ _ _); k_here; (rename Mine.Mark => stopMark); (first | refine Mine.eq_diff (by assumption) ?_ | refine Mine.eq_diff (fun e => absurd (Eq.trans e (by assumption)) (by assumption)) ?_ | refine Mine.eq_same (by k_dflt (first | rfl | assumption | exact Eq.trans (by assumption) (Eq.symm (by assumption)))) ?_)) | ((with_reducible show wpAny _ _ (compareOp CmpOp.Gt (Value.int _ _) (Value.int _ _)) _ _ _); k_here; (rename Mine.MarkU => stopMarkU); (first | refine Mine.gt_yes (by omega) ?_ | refine Mine.gt_no (by omega) ?_)) | ((with_reducible show wpAny _ _ (setItem (Value.ref _) (Value.bytes _ _) _) _ _ _); k_here; k_dflt (refine' kda_set (knd := PySem.W.bytesKind _ _) ?F ?N ?U ?d (Mine.bytes_is _ _ _ _) ?z ?_; (case F => k_asm); (case N => k_asm); (case U => k_updF); (case d => k_asm); (case z => rw [sizeLine_eq]; omega)); intro _ _ _ N9' _; (try dsimp only at N9')) | ((with_reducible show wpAny _ _ (subscriptTail (Expr.Name _ _) (Expr.Slice _ _ _ _) (Value.ref _) (Value.ref _)) _ _ _); k_here; (rename Mine.Mark => stopMark); (with_reducible rename Fr _ _ _ _ => F9'); (with_reducible rename News _ _ _ _ => N9'); (first | ((with_reducible show wpAny _ _ (subscriptTail _ (Expr.Slice none (some _) none _) _ _) _ _ _); (refine Mine.slice_to (s := ⟨_, _, _, _, _⟩) F9' N9' (by k_dflt k_mem) (by omega) (by (first | omega | (simp only [List.length_append, List.length_take, List.length_drop, List.length_cons, List.length_nil, List.length_reverse]; omega))) (by (first | omega | (simp only [List.length_append, List.length_take, List.length_drop, List.length_cons, List.length_nil, List.length_reverse]; omega))) ?_)) | ((with_reducible show wpAny _ _ (subscriptTail _ (Expr.Slice (some _) none none _) _ _) _ _ _); (refine Mine.slice_from (s := ⟨_, _, _, _, _⟩) F9' N9' (by k_dflt k_mem) (by omega) (by (first | omega | (simp only [List.length_append, List.length_take, List.length_drop, List.length_cons, List.length_nil, List.length_reverse]; omega))) (by (first | omega | (simp only [List.length_append, List.length_take, List.length_drop, List.length_cons, List.length_nil, List.length_reverse]; omega))) ?_)) | ((with_reducible show wpAny _ _ (subscriptTail _ (Expr.Slice none none (some _) _) _ _) _ _ _); (refine Mine.slice_rev (s := ⟨_, _, _, _, _⟩) F9' N9' (by k_dflt k_mem) (by (first | omega | (simp only [List.length_append, List.length_take, List.length_drop, List.length_cons, List.length_nil, List.length_reverse]; omega))) ?_))); intro _ _ _ _; (try k_sweep)) | walk1 | (dsimp only; walk1) | (leave1; walk_say "STEP leave1"; try dsimp only)))
        refine next _ od2 oh2 kvs2 reg2 (bvs.set pq (.bytes pa pt)) va tv h5 tk5 ?hzD (by assumption) (cb_drop (by assumption) (by walk_at "mine sub")) hd2 hr2 hp2 (by omega) hh2 hb0 hv0
        case hzD =>
          intro z hz9
          show (if z = _ then _ else _) = _
          rw [if_neg hz9]
          exact hmz z
  case retEA =>
    intro pp hpp hnl h3 tk3 F3 N3
    show wpAny _ _ _ _ _ _
    have hne : (#[u] : Array UInt8).toList ≠ (#[um] : Array UInt8).toList := fun e => by
      obtain rfl : u = um := by simpa using e
      exact hpp.2.2 rfl
    have huv : um ≠ u := fun e => hne (by rw [e])
    have hps : ¬ (pp : Int) < sz := by
      rw [List.length_take] at hnl
      have := hpp.1
      omega
    (repeat' (first | (k_unfold; (try dsimp only)) | (k_end; wrow_close) | ((with_reducible show wpAny _ _ (call (Value.ref _) _) _ _ _); k_here; (rename Mine.Mark => stopMark); (first | refine Mine.stop_call (by decide) ?_ | ((rename Mine.MarkU => stopMarkU); refine Mine.stop_callU (by decide) ?_))) | ((with_reducible show wpAny _ _ (compareOp CmpOp.Eq (Value.bytes _ _) (Value.bytes _ _)) _ _ _); k_here; (rename Mine.Mark => stopMark); (first | refine Mine.eq_diff (by assumption) ?_ | refine Mine.eq_diff (fun e => absurd (Eq.trans e (by assumption)) (by assumption)) ?_ | refine Mine.eq_same (by k_dflt (first | rfl | assumption | exact Eq.trans (by assumption) (Eq.symm (by assumption)))) ?_)) | ((with_reducible show wpAny _ _ (compareOp CmpOp.Gt (Value.int _ _) (Value.int _ _)) _ _ _); k_here; (rename Mine.MarkU => stopMarkU); (first | refine Mine.gt_yes (by omega) ?_ | refine Mine.gt_no (by omega) ?_)) | ((with_reducible show wpAny _ _ (setItem (Value.ref _) (Value.bytes _ _) _) _ _ _); k_here; k_dflt (refine' kda_set (knd := PySem.W.bytesKind _ _) ?F ?N ?U ?d (Mine.bytes_is _ _ _ _) ?z ?_; (case F => k_asm); (case N => k_asm); (case U => k_updF); (case d => k_asm); (case z => rw [sizeLine_eq]; omega)); intro _ _ _ N9' _; (try dsimp only at N9')) | ((with_reducible show wpAny _ _ (subscriptTail (Expr.Name _ _) (Expr.Slice _ _ _ _) (Value.ref _) (Value.ref _)) _ _ _); k_here; (rename Mine.Mark => stopMark); (with_reducible rename Fr _ _ _ _ => F9'); (with_reducible rename News _ _ _ _ => N9'); (first | ((with_reducible show wpAny _ _ (subscriptTail _ (Expr.Slice none (some _) none _) _ _) _ _ _); (refine Mine.slice_to (s := ⟨_, _, _, _, _⟩) F9' N9' (by k_dflt k_mem) (by omega) (by (first | omega | (simp only [List.length_append, List.length_take, List.length_drop, List.length_cons, List.length_nil, List.length_reverse]; omega))) (by (first | omega | (simp only [List.length_append, List.length_take, List.length_drop, List.length_cons, List.length_nil, List.length_reverse]; omega))) ?_)) | ((with_reducible show wpAny _ _ (subscriptTail _ (Expr.Slice (some _) none none _) _ _) _ _ _); (refine Mine.slice_from (s := ⟨_, _, _, _, _⟩) F9' N9' (by k_dflt k_mem) (by omega) (by (first | omega | (simp only [List.length_append, List.length_take, List.length_drop, List.length_cons, List.length_nil, List.length_reverse]; omega))) (by (first | omega | (simp only [List.length_append, List.length_take, List.length_drop, List.length_cons, List.length_nil, List.length_reverse]; omega))) ?_)) | ((with_reducible show wpAny _ _ (subscriptTail _ (Expr.Slice none none (some _) _) _ _) _ _ _); (refine Mine.slice_rev (s := ⟨_, _, _, _, _⟩) F9' N9' (by k_dflt k_mem) (by (first | omega | (simp only [List.length_append, List.length_take, List.length_drop, List.length_cons, List.length_nil, List.length_reverse]; omega))) ?_))); intro _ _ _ _; (try k_sweep)) | walk1 | (dsimp only; walk1) | (leave1; walk_say "STEP leave1"; try dsimp only)))
    unfold Stop
    have hv0 : va.toList = heldVal (stored kvh [u] (.bytes vb tvv)) da.toList um.toNat := by rw [heldVal_stored hum, if_neg (fun e => huv (UInt8.toNat_inj.mp e))]; exact hva
    refine' useC ?frE ?h1E ?h2E ?h3E (c_parting w  ?BE ?FE ?XE ?TE ?hkE (cb_drop ?NE ?subE) huv ?retE)
    case FE => k_asm
    case BE => k_asm
    case XE => k_asm
    case TE => k_asm
    case NE => k_asm
    case subE => walk_at "mine sub"
    case frE => exact rfl
    case h1E => exact rfl
    case hkE => exact rfl
    case h2E => (first | exact Nat.le_of_ble_eq_true rfl | ((simp only [depth_under_make, depth_in1, depth_deeper, units_under_make, units_in1, units_deeper]); exact Nat.le_of_ble_eq_true rfl))
    case h3E => (first | exact Nat.le_of_ble_eq_true rfl | ((simp only [depth_under_make, depth_in1, depth_deeper, units_under_make, units_in1, units_deeper]); exact Nat.le_of_ble_eq_true rfl))
    case retE =>
      intro pq tq h4 tk4 F4 N4 hpq
      show wpAny _ _ _ _ _ _
      obtain rfl := hpq.uniq hpp
      (repeat' (first | (k_unfold; (try dsimp only)) | (k_end; wrow_close) | ((with_reducible show wpAny _ _ (call (Value.ref _) _) _ _ _); k_here; (rename Mine.Mark => stopMark); (first | refine Mine.stop_call (by decide) ?_ | ((rename Mine.MarkU => stopMarkU); refine Mine.stop_callU (by decide) ?_))) | ((with_reducible show wpAny _ _ (compareOp CmpOp.Eq (Value.bytes _ _) (Value.bytes _ _)) _ _ _); k_here; (rename Mine.Mark => stopMark); (first | refine Mine.eq_diff (by assumption) ?_ | refine Mine.eq_diff (fun e => absurd (Eq.trans e (by assumption)) (by assumption)) ?_ | refine Mine.eq_same (by k_dflt (first | rfl | assumption | exact Eq.trans (by assumption) (Eq.symm (by assumption)))) ?_)) | ((with_reducible show wpAny _ _ (compareOp CmpOp.Gt (Value.int _ _) (Value.int _ _)) _ _ _); k_here; (rename Mine.MarkU => stopMarkU); (first | refine Mine.gt_yes (by omega) ?_ | refine Mine.gt_no (by omega) ?_)) | ((with_reducible show wpAny _ _ (setItem (Value.ref _) (Value.bytes _ _) _) _ _ _); k_here; k_dflt (refine' kda_set (knd := PySem.W.bytesKind _ _) ?F ?N ?U ?d (Mine.bytes_is _ _ _ _) ?z ?_; (case F => k_asm); (case N => k_asm); (case U => k_updF); (case d => k_asm); (case z => rw [sizeLine_eq]; omega)); intro _ _ _ N9' _; (try dsimp only at N9')) | ((with_reducible show wpAny _ _ (subscriptTail (Expr.Name _ _) (Expr.Slice _ _ _ _) (Value.ref _) (Value.ref _)) _ _ _); k_here; (rename Mine.Mark => stopMark); (with_reducible rename Fr _ _ _ _ => F9'); (with_reducible rename News _ _ _ _ => N9'); (first | ((with_reducible show wpAny _ _ (subscriptTail _ (Expr.Slice none (some _) none _) _ _) _ _ _); (refine Mine.slice_to (s := ⟨_, _, _, _, _⟩) F9' N9' (by k_dflt k_mem) (by omega) (by (first | omega | (simp only [List.length_append, List.length_take, List.length_drop, List.length_cons, List.length_nil, List.length_reverse]; omega))) (by (first | omega | (simp only [List.length_append, List.length_take, List.length_drop, List.length_cons, List.length_nil, List.length_reverse]; omega))) ?_)) | ((with_reducible show wpAny _ _ (subscriptTail _ (Expr.Slice (some _) none none _) _ _) _ _ _); (refine Mine.slice_from (s := ⟨_, _, _, _, _⟩) F9' N9' (by k_dflt k_mem) (by omega) (by (first | omega | (simp only [List.length_append, List.length_take, List.length_drop, List.length_cons, List.length_nil, List.length_reverse]; omega))) (by (first | omega | (simp only [List.length_append, List.length_take, List.length_drop, List.length_cons, List.length_nil, List.length_reverse]; omega))) ?_)) | ((with_reducible show wpAny _ _ (subscriptTail _ (Expr.Slice none none (some _) _) _ _) _ _ _); (refine Mine.slice_rev (s := ⟨_, _, _, _, _⟩) F9' N9' (by k_dflt k_mem) (by (first | omega | (simp only [List.length_append, List.length_take, List.length_drop, List.length_cons, List.length_nil, List.length_reverse]; omega))) ?_))); intro _ _ _ _; (try k_sweep)) | walk1 | (dsimp only; walk1) | (leave1; walk_say "STEP leave1"; try dsimp only)))
      unfold Stop
      refine' useC ?frG ?h1G ?h2G ?h3G (c_kept w (rest := (t, instObj 214 td) :: (td, tdOf x (.bytes da dt) f db (.bytes root tr)) :: (db, odb) :: (hl, oh) :: (bl, W.listOf (bvs).toArray c) :: (pd, pdOf y (.bytes #[um] tk1) (.bytes va tv) bl f) :: (pf, instObj 111 pd) :: base) (pf := pf) (pd := pd) (bl := bl) (hl := hl) (y := y) (c := c) ?BG ?FG ?XG ?TG ?hkG (cb_drop ?NG ?subG) ?hoffG lo ?HG hd hr (by omega) ?hpfG ?hpdG ?hblG ?hmemG hh lo2 hok ?hhzG hva hnd hb ?retG)
      case FG => k_asm
      case BG => k_asm
      case XG => k_asm
      case TG => k_asm
      case NG => k_asm
      case subG => walk_at "mine sub"
      case frG => exact rfl
      case h1G => exact rfl
      case hkG => exact rfl
      case h2G => (first | exact Nat.le_of_ble_eq_true rfl | ((simp only [depth_under_make, depth_in1, depth_deeper, units_under_make, units_in1, units_deeper]); exact Nat.le_of_ble_eq_true rfl))
      case h3G => (first | exact Nat.le_of_ble_eq_true rfl | ((simp only [depth_under_make, depth_in1, depth_deeper, units_under_make, units_in1, units_deeper]); exact Nat.le_of_ble_eq_true rfl))
      case hoffG => k_all
      case HG => exact H.mono fun p hp => .tail _ (.tail _ (.tail _ (.tail _ (.tail _ (.tail _ (.tail _ hp))))))
      case hpfG => k_dflt k_mem
      case hpdG => k_dflt k_mem
      case hblG => k_dflt k_mem
      case hmemG => k_dflt k_mem
      case hhzG => first | omega | exact Nat.le_trans (stored_length_le _ _ _) (by omega)
      case retG =>
        intro od2 kvs2 reg2 h5 tk5 F5 N5 hd2 hr2 hp2 hl2
        show wpAny _ _ _ _ _ _
        have N6 : News h₀ L h5 ((XA, tupOf avs) :: (t, instObj 214 td) :: (td, tdOf x (.bytes da dt) f db (.bytes root tr)) :: (db, odb) :: (r, od2) :: (hl, oh) :: (bl, W.listOf bvs.toArray c) :: (pd, pdOf y (.bytes #[um] tk1) (.bytes va tv) bl f) :: (pf, instObj 111 pd) :: base) :=
          cb_drop N5 (List.forall_mem_cons.mpr ⟨.tail _ (.tail _ (.tail _ (.tail _ (.tail _ (.tail _ (.tail _ (.tail _ hX))))))), by walk_at "mine sub"⟩)
        clear N5
        (repeat' (first | (k_unfold; (try dsimp only)) | (k_end; wrow_close) | ((with_reducible show wpAny _ _ (call (Value.ref _) _) _ _ _); k_here; (rename Mine.Mark => stopMark); (first | refine Mine.stop_call (by decide) ?_ | ((rename Mine.MarkU => stopMarkU); refine Mine.stop_callU (by decide) ?_))) | ((with_reducible show wpAny _ _ (compareOp CmpOp.Eq (Value.bytes _ _) (Value.bytes _ _)) _ _ _); k_here; (rename Mine.Mark => stopMark); (first | refine Mine.eq_diff (by assumption) ?_ | refine Mine.eq_diff (fun e => absurd (Eq.trans e (by assumption)) (by assumption)) ?_ | refine Mine.eq_same (by k_dflt (first | rfl | assumption | exact Eq.trans (by assumption) (Eq.symm (by assumption)))) ?_)) | ((with_reducible show wpAny _ _ (compareOp CmpOp.Gt (Value.int _ _) (Value.int _ _)) _ _ _); k_here; (rename Mine.MarkU => stopMarkU); (first | refine Mine.gt_yes (by omega) ?_ | refine Mine.gt_no (by omega) ?_)) | ((with_reducible show wpAny _ _ (setItem (Value.ref _) (Value.bytes _ _) _) _ _ _); k_here; k_dflt (refine' kda_set (knd := PySem.W.bytesKind _ _) ?F ?N ?U ?d (Mine.bytes_is _ _ _ _) ?z ?_; (case F => k_asm); (case N => k_asm); (case U => k_updF); (case d => k_asm); (case z => rw [sizeLine_eq]; omega)); intro _ _ _ N9' _; (try dsimp only at N9')) | ((with_reducible show wpAny _ _ (subscriptTail (Expr.Name _ _) (Expr.Slice _ _ _ _) (Value.ref _) (Value.ref _)) _ _ _); k_here; (rename Mine.Mark => stopMark); (with_reducible rename Fr _ _ _ _ => F9'); (with_reducible rename News _ _ _ _ => N9'); (first | ((with_reducible show wpAny _ _ (subscriptTail _ (Expr.Slice none (some _) none _) _ _) _ _ _); (refine Mine.slice_to (s := ⟨_, _, _, _, _⟩) F9' N9' (by k_dflt k_mem) (by omega) (by (first | omega | (simp only [List.length_append, List.length_take, List.length_drop, List.length_cons, List.length_nil, List.length_reverse]; omega))) (by (first | omega | (simp only [List.length_append, List.length_take, List.length_drop, List.length_cons, List.length_nil, List.length_reverse]; omega))) ?_)) | ((with_reducible show wpAny _ _ (subscriptTail _ (Expr.Slice (some _) none none _) _ _) _ _ _); (refine Mine.slice_from (s := ⟨_, _, _, _, _⟩) F9' N9' (by k_dflt k_mem) (by omega) (by (first | omega | (simp only [List.length_append, List.length_take, List.length_drop, List.length_cons, List.length_nil, List.length_reverse]; omega))) (by (first | omega | (simp only [List.length_append, List.length_take, List.length_drop, List.length_cons, List.length_nil, List.length_reverse]; omega))) ?_)) | ((with_reducible show wpAny _ _ (subscriptTail _ (Expr.Slice none none (some _) _) _ _) _ _ _); (refine Mine.slice_rev (s := ⟨_, _, _, _, _⟩) F9' N9' (by k_dflt k_mem) (by (first | omega | (simp only [List.length_append, List.length_take, List.length_drop, List.length_cons, List.length_nil, List.length_reverse]; omega))) ?_))); intro _ _ _ _; (try k_sweep)) | walk1 | (dsimp only; walk1) | (leave1; walk_say "STEP leave1"; try dsimp only)))
        unfold Stop
        have hdp : ∀ p, PartAt um.toNat u.toNat p → p < avs.length := fun p hp => by
          have := hp.1
          omega
        refine' useC ?frI ?h1I ?h2I ?h3I (c_update w (bl := bl) (pd := pd) (pf := pf) (T8 := XA) (y := y) (u := um) (v := u) (tk1 := tk1) (tv := tv) (va := va) (f := f) (bvs := bvs) (c := c) (nvs := avs) (rest := (XA, tupOf avs) :: (t, instObj 214 td) :: (td, tdOf x (.bytes da dt) f db (.bytes root tr)) :: (db, odb) :: (r, od2) :: (hl, oh) :: (pf, instObj 111 pd) :: base) ?BI ?FI ?XI ?TI ?hkI (cb_drop ?NI ?subI) ?hoBI ?hoPI hbp ?hpfI (.head _) hb8 (by omega) hdp ?ret0I ?ret1I)
        case FI => k_asm
        case BI => k_asm
        case XI => k_asm
        case TI => k_asm
        case NI => k_asm
        case subI => walk_at "mine sub"
        case frI => exact rfl
        case h1I => exact rfl
        case hkI => exact rfl
        case h2I => (first | exact Nat.le_of_ble_eq_true rfl | ((simp only [depth_under_make, depth_in1, depth_deeper, units_under_make, units_in1, units_deeper]); exact Nat.le_of_ble_eq_true rfl))
        case h3I => (first | exact Nat.le_of_ble_eq_true rfl | ((simp only [depth_under_make, depth_in1, depth_deeper, units_under_make, units_in1, units_deeper]); exact Nat.le_of_ble_eq_true rfl))
        case hoBI => k_all
        case hoPI => k_all
        case hpfI => k_dflt k_mem
        case ret0I => exact fun e => absurd e huv
        case ret1I =>
          intro pr nv hppr hnv h6 tk6 F6 N6
          dsimp only
          obtain rfl := hppr.uniq hpq
          obtain ⟨pa, pt, rfl, hpa⟩ := hav.get hnv
          have hpa2 : pa.toList = setNd nd u.toNat hs (7 - pr) (u.toNat / 2 ^ (7 - pr)) := by rw [along_get (by have := hppr.1; omega)] at hpa; exact (Option.some.inj hpa).symm
          have hb0 : BsAre (bvs.set pr (.bytes pa pt)) (beside (setNd nd u.toNat hs) um.toNat) := by rw [beside_set hppr hum hu, ← hpa2]; exact hb.set
          (repeat' (first | (k_unfold; (try dsimp only)) | (k_end; wrow_close) | ((with_reducible show wpAny _ _ (call (Value.ref _) _) _ _ _); k_here; (rename Mine.Mark => stopMark); (first | refine Mine.stop_call (by decide) ?_ | ((rename Mine.MarkU => stopMarkU); refine Mine.stop_callU (by decide) ?_))) | ((with_reducible show wpAny _ _ (compareOp CmpOp.Eq (Value.bytes _ _) (Value.bytes _ _)) _ _ _); k_here; (rename Mine.Mark => stopMark); (first | refine Mine.eq_diff (by assumption) ?_ | refine Mine.eq_diff (fun e => absurd (Eq.trans e (by assumption)) (by assumption)) ?_ | refine Mine.eq_same (by k_dflt (first | rfl | assumption | exact Eq.trans (by assumption) (Eq.symm (by assumption)))) ?_)) | ((with_reducible show wpAny _ _ (compareOp CmpOp.Gt (Value.int _ _) (Value.int _ _)) _ _ _); k_here; (rename Mine.MarkU => stopMarkU); (first | refine Mine.gt_yes (by omega) ?_ | refine Mine.gt_no (by omega) ?_)) | ((with_reducible show wpAny _ _ (setItem (Value.ref _) (Value.bytes _ _) _) _ _ _); k_here; k_dflt (refine' kda_set (knd := PySem.W.bytesKind _ _) ?F ?N ?U ?d (Mine.bytes_is _ _ _ _) ?z ?_; (case F => k_asm); (case N => k_asm); (case U => k_updF); (case d => k_asm); (case z => rw [sizeLine_eq]; omega)); intro _ _ _ N9' _; (try dsimp only at N9')) | ((with_reducible show wpAny _ _ (subscriptTail (Expr.Name _ _) (Expr.Slice _ _ _ _) (Value.ref _) (Value.ref _)) _ _ _); k_here; (rename Mine.Mark => stopMark); (with_reducible rename Fr _ _ _ _ => F9'); (with_reducible rename News _ _ _ _ => N9'); (first | ((with_reducible show wpAny _ _ (subscriptTail _ (Expr.Slice none (some _) none _) _ _) _ _ _); (refine Mine.slice_to (s := ⟨_, _, _, _, _⟩) F9' N9' (by k_dflt k_mem) (by omega) (by (first | omega | (simp only [List.length_append, List.length_take, List.length_drop, List.length_cons, List.length_nil, List.length_reverse]; omega))) (by (first | omega | (simp only [List.length_append, List.length_take, List.length_drop, List.length_cons, List.length_nil, List.length_reverse]; omega))) ?_)) | ((with_reducible show wpAny _ _ (subscriptTail _ (Expr.Slice (some _) none none _) _ _) _ _ _); (refine Mine.slice_from (s := ⟨_, _, _, _, _⟩) F9' N9' (by k_dflt k_mem) (by omega) (by (first | omega | (simp only [List.length_append, List.length_take, List.length_drop, List.length_cons, List.length_nil, List.length_reverse]; omega))) (by (first | omega | (simp only [List.length_append, List.length_take, List.length_drop, List.length_cons, List.length_nil, List.length_reverse]; omega))) ?_)) | ((with_reducible show wpAny _ _ (subscriptTail _ (Expr.Slice none none (some _) _) _ _) _ _ _); (refine Mine.slice_rev (s := ⟨_, _, _, _, _⟩) F9' N9' (by k_dflt k_mem) (by (first | omega | (simp only [List.length_append, List.length_take, List.length_drop, List.length_cons, List.length_nil, List.length_reverse]; omega))) ?_))); intro _ _ _ _; (try k_sweep)) | walk1 | (dsimp only; walk1) | (leave1; walk_say "STEP leave1"; try dsimp only)))
          unfold Stop
          (rename Obj.IsDictOf _ _ (stored _ _ _) => hhX)
          obtain ⟨oh2, hoh, hh2⟩ := nameOd hhX
          clear hhX
          subst hoh
          refine' useC ?frJ ?h1J ?h2J ?h3J (c_kept w (rest := (t, instObj 214 td) :: (td, tdOf x (.bytes da dt) f db (.bytes root tr)) :: (db, odb) :: (hl, oh2) :: (bl, W.listOf (bvs.set pr (.bytes pa pt)).toArray c) :: (pd, pdOf y (.bytes #[um] tk1) (.bytes va tv) bl f) :: (pf, instObj 111 pd) :: base) (pf := pf) (pd := pd) (bl := bl) (hl := hl) (y := y) (c := c) ?BJ ?FJ ?XJ ?TJ ?hkJ (cb_drop ?NJ ?subJ) ?hoffJ lo ?HJ hd2 hr2 (by omega) ?hpfJ ?hpdJ ?hblJ ?hmemJ hh2 lo2 hok.set ?hhzJ hv0 ((D.nodes.mono hp2).congr put_held) hb0 ?retJ)
          case FJ => k_asm
          case BJ => k_asm
          case XJ => k_asm
          case TJ => k_asm
          case NJ => k_asm
          case subJ => walk_at "mine sub"
          case frJ => exact rfl
          case h1J => exact rfl
          case hkJ => exact rfl
          case h2J => (first | exact Nat.le_of_ble_eq_true rfl | ((simp only [depth_under_make, depth_in1, depth_deeper, units_under_make, units_in1, units_deeper]); exact Nat.le_of_ble_eq_true rfl))
          case h3J => (first | exact Nat.le_of_ble_eq_true rfl | ((simp only [depth_under_make, depth_in1, depth_deeper, units_under_make, units_in1, units_deeper]); exact Nat.le_of_ble_eq_true rfl))
          case hoffJ => k_all
          case HJ => exact H.mono fun p hp => .tail _ (.tail _ (.tail _ (.tail _ (.tail _ (.tail _ (.tail _ hp))))))
          case hpfJ => k_dflt k_mem
          case hpdJ => k_dflt k_mem
          case hblJ => k_dflt k_mem
          case hmemJ => k_dflt k_mem
          case hhzJ => first | omega | exact Nat.le_trans (stored_length_le _ _ _) (by omega)
          case retJ =>
            intro od3 kvs3 reg3 h7 tk7 F7 N7 hd3 hr3 hp3 hl3
            show wpAny _ _ _ _ _ _
            (repeat' (first | (k_unfold; (try dsimp only)) | (k_end; wrow_close) | ((with_reducible show wpAny _ _ (call (Value.ref _) _) _ _ _); k_here; (rename Mine.Mark => stopMark); (first | refine Mine.stop_call (by decide) ?_ | ((rename Mine.MarkU => stopMarkU); refine Mine.stop_callU (by decide) ?_))) | ((with_reducible show wpAny _ _ (compareOp CmpOp.Eq (Value.bytes _ _) (Value.bytes _ _)) _ _ _); k_here; (rename Mine.Mark => stopMark); (first | refine Mine.eq_diff (by assumption) ?_ | refine Mine.eq_diff (fun e => absurd (Eq.trans e (by assumption)) (by assumption)) ?_ | refine Mine.eq_same (by k_dflt (first | rfl | assumption | exact Eq.trans (by assumption) (Eq.symm (by assumption)))) ?_)) | ((with_reducible show wpAny _ _ (compareOp CmpOp.Gt (Value.int _ _) (Value.int _ _)) _ _ _); k_here; (rename Mine.MarkU => stopMarkU); (first | refine Mine.gt_yes (by omega) ?_ | refine Mine.gt_no (by omega) ?_)) | ((with_reducible show wpAny _ _ (setItem (Value.ref _) (Value.bytes _ _) _) _ _ _); k_here; k_dflt (refine' kda_set (knd := PySem.W.bytesKind _ _) ?F ?N ?U ?d (Mine.bytes_is _ _ _ _) ?z ?_; (case F => k_asm); (case N => k_asm); (case U => k_updF); (case d => k_asm); (case z => rw [sizeLine_eq]; omega)); intro _ _ _ N9' _; (try dsimp only at N9')) | ((with_reducible show wpAny _ _ (subscriptTail (Expr.Name _ _) (Expr.Slice _ _ _ _) (Value.ref _) (Value.ref _)) _ _ _); k_here; (rename Mine.Mark => stopMark); (with_reducible rename Fr _ _ _ _ => F9'); (with_reducible rename News _ _ _ _ => N9'); (first | ((with_reducible show wpAny _ _ (subscriptTail _ (Expr.Slice none (some _) none _) _ _) _ _ _); (refine Mine.slice_to (s := ⟨_, _, _, _, _⟩) F9' N9' (by k_dflt k_mem) (by omega) (by (first | omega | (simp only [List.length_append, List.length_take, List.length_drop, List.length_cons, List.length_nil, List.length_reverse]; omega))) (by (first | omega | (simp only [List.length_append, List.length_take, List.length_drop, List.length_cons, List.length_nil, List.length_reverse]; omega))) ?_)) | ((with_reducible show wpAny _ _ (subscriptTail _ (Expr.Slice (some _) none none _) _ _) _ _ _); (refine Mine.slice_from (s := ⟨_, _, _, _, _⟩) F9' N9' (by k_dflt k_mem) (by omega) (by (first | omega | (simp only [List.length_append, List.length_take, List.length_drop, List.length_cons, List.length_nil, List.length_reverse]; omega))) (by (first | omega | (simp only [List.length_append, List.length_take, List.length_drop, List.length_cons, List.length_nil, List.length_reverse]; omega))) ?_)) | ((with_reducible show wpAny _ _ (subscriptTail _ (Expr.Slice none none (some _) _) _ _) _ _ _); (refine Mine.slice_rev (s := ⟨_, _, _, _, _⟩) F9' N9' (by k_dflt k_mem) (by (first | omega | (simp only [List.length_append, List.length_take, List.length_drop, List.length_cons, List.length_nil, List.length_reverse]; omega))) ?_))); intro _ _ _ _; (try k_sweep)) | walk1 | (dsimp only; walk1) | (leave1; walk_say "STEP leave1"; try dsimp only)))
            refine next _ od3 oh2 kvs3 reg3 (bvs.set pr (.bytes pa pt)) va tv h7 tk7 ?hzJ (by assumption) (cb_drop (by assumption) (by walk_at "mine sub")) hd3 hr3 (hp2.trans hp3) (by omega) hh2 hb0 hv0
            case hzJ =>
              intro z hz9
              show (if z = _ then _ else _) = _
              rw [if_neg hz9]
              exact hmz z
end Mine
namespace Mine
@[reducible] noncomputable def turnAS : {b : List Stmt // b = forBody (stmtNth 10 (fdBody lawStmt))} := by
  refine ⟨?b, ?h⟩
  case h => conv => rhs; whnf
@[reducible] noncomputable def turnA : List Stmt := turnAS.1
noncomputable def turnNames : List Str := [Str.ofString "number", Str.ofString "key", Str.ofString "value", Str.ofString "nodes", Str.ofString "size", Str.ofString "taken"]
theorem fmod9 (x : Int) : 0 ≤ x.fmod 9 ∧ x.fmod 9 ≤ 8 := by rw [Int.fmod_eq_emod_of_nonneg _ (by decide)]; omega
theorem fdiv_nn {x k : Int} (h : 0 ≤ x) (hk : 0 ≤ k) : 0 ≤ x.fdiv k := by rw [Int.fdiv_eq_ediv_of_nonneg _ hk]; exact Int.ediv_nonneg h hk
set_option maxHeartbeats 8000000 in
theorem law_turnA (w : World) {gd : Option (List Code)} {a : Addr} {ccd : Value} {A₀ : Around} {h₀ : Heap} {L : Addr} {m mg mb : Str → Option Value}
    {p : Program} {loose : List Str} {mean : ExcName → Option Value} {s : Shared} {Q : Flow → Shared → Prop} {E : Value → Shared → Prop} {base : List (Addr × Obj)} {f r hl t td db bl pd pf : Addr} {x : TD} {y : PD} {da va root : Array UInt8} {dt tv tr tk1 : Tok} {um : UInt8} {bvs : List Value} {c : Nat} {od odb oh : Obj} {kvs kvd kvh : List (By × Value)} {reg : List By} {nd : Nat → Nat → By} {sc : Addr} {svs : List Value} {ns : List Int} {kk : Int} {tkk tm : Tok}
    (B : Below A₀ h₀ [] h₀) (F : Fr h₀ L s.heap m) (X : (Mine.z.heap_1_39 w.params).In h₀) (T : Top p loose mean mg mb h₀)
    (N : News h₀ L s.heap ((t, instObj 214 td) :: (td, tdOf x (.bytes da dt) f db (.bytes root tr)) :: (db, odb) :: (r, od) :: (hl, oh) :: (bl, W.listOf bvs.toArray c) :: (pd, pdOf y (.bytes #[um] tk1) (.bytes va tv) bl f) :: (pf, instObj 111 pd) :: base)) (ap : Ap td db r hl bl pd base) (H : HashAt base f r)
    (hd : od.IsDictOf (bytesKind PySem.Challenge.rw_iu0037_01.row.prog w) kvs) (hr : RegIs kvs reg) (hdb : odb.IsDictOf (bytesKind PySem.Challenge.rw_iu0037_01.row.prog w) kvd)
    (D : DbOk reg kvd (heldVal kvh da.toList) nd) (hroot : root.toList = nd 8 0) (hh : oh.IsDictOf (bytesKind PySem.Challenge.rw_iu0037_01.row.prog w) kvh) (hok : HeldOk kvh)
    (hb : BsAre bvs (beside nd um.toNat)) (hva : va.toList = heldVal kvh da.toList um.toNat)
    (hz : reg.length ≤ 400000) (hzd : kvd.length ≤ 900000) (hhz : kvh.length ≤ 14)
    (hsc : h₀.IsList sc svs.toArray) (hI : IntsAre svs ns) (hns : ns.length ≤ 63) (hk4 : 4 ≤ kk) (hkn : kk < (ns.length : Int))
    (m1 : m (Str.ofString "proof") = some (.ref pf)) (m2 : m (Str.ofString "tree") = some (.ref t)) (m3 : m (Str.ofString "script") = some (.ref sc)) (m4 : m (Str.ofString "k") = some (.int kk tkk))
    (m6 : m (Str.ofString "mine") = some (.bytes #[um] tm)) (m7 : m (Str.ofString "held") = some (.ref hl)) (m8 : m (Str.ofString "default") = some (.bytes da dt)) (m9 : m (Str.ofString "hash_of") = some (.ref f))
    (next : ∀ m' nd' (root' : Array UInt8) tr' (od' odb' oh' : Obj) kvs' kvd' kvh' reg' bvs' (va' : Array UInt8) tv' h' tk', (∀ z, z ∉ turnNames → m' z = m z) → Fr h₀ L h' m' →
      News h₀ L h' ((t, instObj 214 td) :: (td, tdOf x (.bytes da dt) f db (.bytes root' tr')) :: (db, odb') :: (r, od') :: (hl, oh') :: (bl, W.listOf bvs'.toArray c) :: (pd, pdOf y (.bytes #[um] tk1) (.bytes va' tv') bl f) :: (pf, instObj 111 pd) :: base) →
      od'.IsDictOf (bytesKind PySem.Challenge.rw_iu0037_01.row.prog w) kvs' → RegIs kvs' reg' → reg <+: reg' → reg'.length ≤ reg.length + 13000 → odb'.IsDictOf (bytesKind PySem.Challenge.rw_iu0037_01.row.prog w) kvd' → kvd'.length ≤ kvd.length + 9 →
      DbOk reg' kvd' (heldVal kvh' da.toList) nd' → root'.toList = nd' 8 0 → oh'.IsDictOf (bytesKind PySem.Challenge.rw_iu0037_01.row.prog w) kvh' → HeldOk kvh' → kvh'.length ≤ kvh.length + 1 →
      BsAre bvs' (beside nd' um.toNat) → va'.toList = heldVal kvh' da.toList um.toNat → Q .next { s with heap := h', toks := tk' }) :
    wpAny (model PySem.Challenge.rw_iu0037_01.row.prog w) (ctop 302 7 gd (Str.ofString "law") lawScope L a ccd [] []) (execs turnA (envOf (Str.ofString "law") lawScope L a ccd)) Q E s := by
  have ap0 := ap
  obtain ⟨n1, n2, n3, n4, n5, n6, n7, n8, n9, n10, b1, b2, b3, b4, b5, b6, lo, lo2⟩ := ap
  revert X; k_fill; w_top off; intro X
  have mk9 := Mark.mk
  have mkU := MarkU.mk
  have mkT := MarkT.mk
  have hb8 : bvs.length = 8 := by rw [hb.length, beside_length]
  have hum := um.toNat_lt
  have hm := see_all [(Str.ofString "proof", .ref pf), (Str.ofString "tree", .ref t), (Str.ofString "script", .ref sc), (Str.ofString "k", .int kk tkk), (Str.ofString "mine", .bytes #[um] tm), (Str.ofString "held", .ref hl), (Str.ofString "default", .bytes da dt), (Str.ofString "hash_of", .ref f)]
    (List.forall_mem_cons.mpr ⟨m1, List.forall_mem_cons.mpr ⟨m2, List.forall_mem_cons.mpr ⟨m3, List.forall_mem_cons.mpr ⟨m4, List.forall_mem_cons.mpr ⟨m6, List.forall_mem_cons.mpr ⟨m7, List.forall_mem_cons.mpr ⟨m8, List.forall_mem_cons.mpr ⟨m9, List.forall_mem_nil _⟩⟩⟩⟩⟩⟩⟩⟩)
  have hmz : ∀ z, (match List.lookup z [(Str.ofString "proof", .ref pf), (Str.ofString "tree", .ref t), (Str.ofString "script", .ref sc), (Str.ofString "k", .int kk tkk), (Str.ofString "mine", .bytes #[um] tm), (Str.ofString "held", .ref hl), (Str.ofString "default", .bytes da dt), (Str.ofString "hash_of", .ref f)] with | some v => some v | none => m z) = m z := fun z => (congrFun hm z).symm
  rw [hm] at F
  clear hm
  (repeat' (first | (k_unfold; (try dsimp only)) | (k_end; wrow_close) | ((with_reducible show wpAny _ _ (call (Value.ref _) _) _ _ _); k_here; (rename Mine.Mark => stopMark); (first | refine Mine.stop_call (by decide) ?_ | ((rename Mine.MarkU => stopMarkU); refine Mine.stop_callU (by decide) ?_))) | ((with_reducible show wpAny _ _ (execs (Stmt.Assign [Expr.Name (PySem.Str.ofString "taken") _] _ _ :: _) _) _ _ _); k_here; (rename Mine.MarkT => stopMarkT); refine Mine.stop_at ?_) | walk1 | (dsimp only; walk1) | (leave1; walk_say "STEP leave1"; try dsimp only)))
  unfold Stop
  refine' useC ?frA ?h1A ?h2A ?h3A (c_octet w  ?BA ?FA ?XA ?TA ?hkA (cb_drop ?NA ?subA) ?hxA ?retA)
  case FA => k_asm
  case BA => k_asm
  case XA => k_asm
  case TA => k_asm
  case NA => k_asm
  case subA => walk_at "mine sub"
  case frA => exact rfl
  case h1A => exact rfl
  case hkA => exact rfl
  case h2A => (first | exact Nat.le_of_ble_eq_true rfl | ((simp only [depth_under_make, depth_in1, depth_deeper, units_under_make, units_in1, units_deeper]); exact Nat.le_of_ble_eq_true rfl))
  case h3A => (first | exact Nat.le_of_ble_eq_true rfl | ((simp only [depth_under_make, depth_in1, depth_deeper, units_under_make, units_in1, units_deeper]); exact Nat.le_of_ble_eq_true rfl))
  case hxA => split <;> omega
  case retA =>
    intro u tu h2 tk2 F2 N2
    show wpAny _ _ _ _ _ _
    (repeat' (first | (k_unfold; (try dsimp only)) | (k_end; wrow_close) | ((with_reducible show wpAny _ _ (call (Value.ref _) _) _ _ _); k_here; (rename Mine.Mark => stopMark); (first | refine Mine.stop_call (by decide) ?_ | ((rename Mine.MarkU => stopMarkU); refine Mine.stop_callU (by decide) ?_))) | ((with_reducible show wpAny _ _ (execs (Stmt.Assign [Expr.Name (PySem.Str.ofString "taken") _] _ _ :: _) _) _ _ _); k_here; (rename Mine.MarkT => stopMarkT); refine Mine.stop_at ?_) | walk1 | (dsimp only; walk1) | (leave1; walk_say "STEP leave1"; try dsimp only)))
    · unfold Stop
      refine' useC ?frB1 ?h1B1 ?h2B1 ?h3B1 (c_value w  ?BB1 ?FB1 ?XB1 ?TB1 ?hkB1 (cb_drop ?NB1 ?subB1) ?hxB1 ?retB1)
      case FB1 => k_asm
      case BB1 => k_asm
      case XB1 => k_asm
      case TB1 => k_asm
      case NB1 => k_asm
      case subB1 => walk_at "mine sub"
      case frB1 => exact rfl
      case h1B1 => exact rfl
      case hkB1 => exact rfl
      case h2B1 => (first | exact Nat.le_of_ble_eq_true rfl | ((simp only [depth_under_make, depth_in1, depth_deeper, units_under_make, units_in1, units_deeper]); exact Nat.le_of_ble_eq_true rfl))
      case h3B1 => (first | exact Nat.le_of_ble_eq_true rfl | ((simp only [depth_under_make, depth_in1, depth_deeper, units_under_make, units_in1, units_deeper]); exact Nat.le_of_ble_eq_true rfl))
      case hxB1 => exact fdiv_nn (by split <;> omega) (by decide)
      case retB1 =>
        intro vb tvb h3 tk3 F3 N3
        show wpAny _ _ _ _ _ _
        (repeat' (first | (k_unfold; (try dsimp only)) | (k_end; wrow_close) | ((with_reducible show wpAny _ _ (call (Value.ref _) _) _ _ _); k_here; (rename Mine.Mark => stopMark); (first | refine Mine.stop_call (by decide) ?_ | ((rename Mine.MarkU => stopMarkU); refine Mine.stop_callU (by decide) ?_))) | ((with_reducible show wpAny _ _ (execs (Stmt.Assign [Expr.Name (PySem.Str.ofString "taken") _] _ _ :: _) _) _ _ _); k_here; (rename Mine.MarkT => stopMarkT); refine Mine.stop_at ?_) | walk1 | (dsimp only; walk1) | (leave1; walk_say "STEP leave1"; try dsimp only)))
        unfold Stop
        refine' useC ?frC1 ?h1C1 ?h2C1 ?h3C1 (c_set w (rest := (hl, oh) :: (bl, W.listOf bvs.toArray c) :: (pd, pdOf y (.bytes #[um] tk1) (.bytes va tv) bl f) :: (pf, instObj 111 pd) :: base) ?BC1 ?FC1 ?XC1 ?TC1 ?hkC1 (cb_drop ?NC1 ?subC1) ⟨n1, n2, n5, ?b1C1, ?b2C1, ?b3C1, lo⟩ ?HC1 hd hr (by omega) hdb (by omega) D hroot ?retC1)
        case FC1 => k_asm
        case BC1 => k_asm
        case XC1 => k_asm
        case TC1 => k_asm
        case NC1 => k_asm
        case subC1 => walk_at "mine sub"
        case frC1 => exact rfl
        case h1C1 => exact rfl
        case hkC1 => exact rfl
        case h2C1 => (first | exact Nat.le_of_ble_eq_true rfl | ((simp only [depth_under_make, depth_in1, depth_deeper, units_under_make, units_in1, units_deeper]); exact Nat.le_of_ble_eq_true rfl))
        case h3C1 => (first | exact Nat.le_of_ble_eq_true rfl | ((simp only [depth_under_make, depth_in1, depth_deeper, units_under_make, units_in1, units_deeper]); exact Nat.le_of_ble_eq_true rfl))
        case b1C1 => k_all
        case b2C1 => k_all
        case b3C1 => k_all
        case HC1 => exact H.mono fun p hp => .tail _ (.tail _ (.tail _ (.tail _ hp)))
        case retC1 =>
          intro XA avs root' tr' od' odb' kvs' kvd' reg' hs h4 tk4 F4 N4 hd' hr' hpx hlx hdb' hzd' D' hroot' hav
          show wpAny _ _ _ _ _ _
          (repeat' (first | (k_unfold; (try dsimp only)) | (k_end; wrow_close) | ((with_reducible show wpAny _ _ (call (Value.ref _) _) _ _ _); k_here; (rename Mine.Mark => stopMark); (first | refine Mine.stop_call (by decide) ?_ | ((rename Mine.MarkU => stopMarkU); refine Mine.stop_callU (by decide) ?_))) | ((with_reducible show wpAny _ _ (execs (Stmt.Assign [Expr.Name (PySem.Str.ofString "taken") _] _ _ :: _) _) _ _ _); k_here; (rename Mine.MarkT => stopMarkT); refine Mine.stop_at ?_) | walk1 | (dsimp only; walk1) | (leave1; walk_say "STEP leave1"; try dsimp only)))
          all_goals (try (exfalso; omega))
          unfold Stop
          have apX : Ap td db r hl bl pd ((XA, tupOf avs) :: base) := ⟨n1, n2, n3, n4, n5, n6, n7, n8, n9, n10, List.forall_mem_cons.mpr ⟨by k_ne, b1⟩, List.forall_mem_cons.mpr ⟨by k_ne, b2⟩, List.forall_mem_cons.mpr ⟨by k_ne, b3⟩, List.forall_mem_cons.mpr ⟨by k_ne, b4⟩, List.forall_mem_cons.mpr ⟨by k_ne, b5⟩, List.forall_mem_cons.mpr ⟨by k_ne, b6⟩, lo, lo2⟩
          refine law_turnB w (base := (XA, tupOf avs) :: base) (t := t) (td := td) (db := db) (r := r) (hl := hl) (bl := bl) (pd := pd) (pf := pf) (x := x) (y := y) (od := od') (odb := odb') (oh := oh) (root := root') (tr := tr') (nd := nd) (hs := hs) (nd' := nd) (by k_asm) (by k_asm) (by k_asm) (by k_asm)
            (by exact cb_drop (by k_asm) (by walk_at "mine sub")) apX (H.mono fun p hp => .tail _ hp) hd' hr' (by omega) hdb' D' (D.nodes.mono hpx) hroot' hh hok (by omega) hb hva (.head _) hav (fmod9 _).1 (fmod9 _).2 (by exact rfl) (by exact rfl) (by exact rfl) (by exact rfl) (by exact rfl) (by exact rfl) (by exact rfl) (by exact rfl) (by exact rfl) ?nextD1
          case nextD1 =>
            intro m' od2 oh2 kvs2 reg2 bvs2 va2 tv2 h5 tk5 hm' F5 N5 hd2 hr2 hp2 hl2 hh2 hb2 hva2
            refine next m' (setNd nd u.toNat hs) root' tr' od2 odb' oh2 kvs2 kvd' _ reg2 bvs2 va2 tv2 h5 tk5 ?hz1 F5 (cb_drop N5 ?sub1) hd2 hr2 (hpx.trans hp2) (by omega) hdb' hzd' ((D'.mono hp2).congr put_held) hroot' hh2 hok.set (stored_length_le _ _ _) hb2 hva2
            case sub1 => walk_at "mine sub"
            case hz1 =>
              intro z hz9
              simp only [turnNames, List.mem_cons, List.not_mem_nil, or_false, not_or] at hz9
              obtain ⟨g1, g2, g3, g4, g5, g6⟩ := hz9
              rw [hm' z g6]
              show (if z = Str.ofString "size" then _ else if z = Str.ofString "nodes" then _ else if z = Str.ofString "value" then _ else if z = Str.ofString "key" then _ else if z = Str.ofString "number" then _ else _) = _
              rw [if_neg g5, if_neg g4, if_neg g3, if_neg g2, if_neg g1]
              exact hmz z
    · unfold Stop
      refine' useC ?frB2 ?h1B2 ?h2B2 ?h3B2 (c_value w  ?BB2 ?FB2 ?XB2 ?TB2 ?hkB2 (cb_drop ?NB2 ?subB2) ?hxB2 ?retB2)
      case FB2 => k_asm
      case BB2 => k_asm
      case XB2 => k_asm
      case TB2 => k_asm
      case NB2 => k_asm
      case subB2 => walk_at "mine sub"
      case frB2 => exact rfl
      case h1B2 => exact rfl
      case hkB2 => exact rfl
      case h2B2 => (first | exact Nat.le_of_ble_eq_true rfl | ((simp only [depth_under_make, depth_in1, depth_deeper, units_under_make, units_in1, units_deeper]); exact Nat.le_of_ble_eq_true rfl))
      case h3B2 => (first | exact Nat.le_of_ble_eq_true rfl | ((simp only [depth_under_make, depth_in1, depth_deeper, units_under_make, units_in1, units_deeper]); exact Nat.le_of_ble_eq_true rfl))
      case hxB2 => exact Int.le_refl 0
      case retB2 =>
        intro vb tvb h3 tk3 F3 N3
        show wpAny _ _ _ _ _ _
        (repeat' (first | (k_unfold; (try dsimp only)) | (k_end; wrow_close) | ((with_reducible show wpAny _ _ (call (Value.ref _) _) _ _ _); k_here; (rename Mine.Mark => stopMark); (first | refine Mine.stop_call (by decide) ?_ | ((rename Mine.MarkU => stopMarkU); refine Mine.stop_callU (by decide) ?_))) | ((with_reducible show wpAny _ _ (execs (Stmt.Assign [Expr.Name (PySem.Str.ofString "taken") _] _ _ :: _) _) _ _ _); k_here; (rename Mine.MarkT => stopMarkT); refine Mine.stop_at ?_) | walk1 | (dsimp only; walk1) | (leave1; walk_say "STEP leave1"; try dsimp only)))
        unfold Stop
        refine' useC ?frC2 ?h1C2 ?h2C2 ?h3C2 (c_set w (rest := (hl, oh) :: (bl, W.listOf bvs.toArray c) :: (pd, pdOf y (.bytes #[um] tk1) (.bytes va tv) bl f) :: (pf, instObj 111 pd) :: base) ?BC2 ?FC2 ?XC2 ?TC2 ?hkC2 (cb_drop ?NC2 ?subC2) ⟨n1, n2, n5, ?b1C2, ?b2C2, ?b3C2, lo⟩ ?HC2 hd hr (by omega) hdb (by omega) D hroot ?retC2)
        case FC2 => k_asm
        case BC2 => k_asm
        case XC2 => k_asm
        case TC2 => k_asm
        case NC2 => k_asm
        case subC2 => walk_at "mine sub"
        case frC2 => exact rfl
        case h1C2 => exact rfl
        case hkC2 => exact rfl
        case h2C2 => (first | exact Nat.le_of_ble_eq_true rfl | ((simp only [depth_under_make, depth_in1, depth_deeper, units_under_make, units_in1, units_deeper]); exact Nat.le_of_ble_eq_true rfl))
        case h3C2 => (first | exact Nat.le_of_ble_eq_true rfl | ((simp only [depth_under_make, depth_in1, depth_deeper, units_under_make, units_in1, units_deeper]); exact Nat.le_of_ble_eq_true rfl))
        case b1C2 => k_all
        case b2C2 => k_all
        case b3C2 => k_all
        case HC2 => exact H.mono fun p hp => .tail _ (.tail _ (.tail _ (.tail _ hp)))
        case retC2 =>
          intro XA avs root' tr' od' odb' kvs' kvd' reg' hs h4 tk4 F4 N4 hd' hr' hpx hlx hdb' hzd' D' hroot' hav
          show wpAny _ _ _ _ _ _
          (repeat' (first | (k_unfold; (try dsimp only)) | (k_end; wrow_close) | ((with_reducible show wpAny _ _ (call (Value.ref _) _) _ _ _); k_here; (rename Mine.Mark => stopMark); (first | refine Mine.stop_call (by decide) ?_ | ((rename Mine.MarkU => stopMarkU); refine Mine.stop_callU (by decide) ?_))) | ((with_reducible show wpAny _ _ (execs (Stmt.Assign [Expr.Name (PySem.Str.ofString "taken") _] _ _ :: _) _) _ _ _); k_here; (rename Mine.MarkT => stopMarkT); refine Mine.stop_at ?_) | walk1 | (dsimp only; walk1) | (leave1; walk_say "STEP leave1"; try dsimp only)))
          all_goals (try (exfalso; omega))
          unfold Stop
          have apX : Ap td db r hl bl pd ((XA, tupOf avs) :: base) := ⟨n1, n2, n3, n4, n5, n6, n7, n8, n9, n10, List.forall_mem_cons.mpr ⟨by k_ne, b1⟩, List.forall_mem_cons.mpr ⟨by k_ne, b2⟩, List.forall_mem_cons.mpr ⟨by k_ne, b3⟩, List.forall_mem_cons.mpr ⟨by k_ne, b4⟩, List.forall_mem_cons.mpr ⟨by k_ne, b5⟩, List.forall_mem_cons.mpr ⟨by k_ne, b6⟩, lo, lo2⟩
          refine law_turnB w (base := (XA, tupOf avs) :: base) (t := t) (td := td) (db := db) (r := r) (hl := hl) (bl := bl) (pd := pd) (pf := pf) (x := x) (y := y) (od := od') (odb := odb') (oh := oh) (root := root') (tr := tr') (nd := nd) (hs := hs) (nd' := nd) (sz := 8) (by k_asm) (by k_asm) (by k_asm) (by k_asm)
            (by exact cb_drop (by k_asm) (by walk_at "mine sub")) apX (H.mono fun p hp => .tail _ hp) hd' hr' (by omega) hdb' D' (D.nodes.mono hpx) hroot' hh hok (by omega) hb hva (.head _) hav (by decide) (by decide) (by exact rfl) (by exact rfl) (by exact rfl) (by exact rfl) (by exact rfl) (by exact rfl) (by exact rfl) (by exact rfl) (by exact rfl) ?nextD2
          case nextD2 =>
            intro m' od2 oh2 kvs2 reg2 bvs2 va2 tv2 h5 tk5 hm' F5 N5 hd2 hr2 hp2 hl2 hh2 hb2 hva2
            refine next m' (setNd nd u.toNat hs) root' tr' od2 odb' oh2 kvs2 kvd' _ reg2 bvs2 va2 tv2 h5 tk5 ?hz2 F5 (cb_drop N5 ?sub2) hd2 hr2 (hpx.trans hp2) (by omega) hdb' hzd' ((D'.mono hp2).congr put_held) hroot' hh2 hok.set (stored_length_le _ _ _) hb2 hva2
            case sub2 => walk_at "mine sub"
            case hz2 =>
              intro z hz9
              simp only [turnNames, List.mem_cons, List.not_mem_nil, or_false, not_or] at hz9
              obtain ⟨g1, g2, g3, g4, g5, g6⟩ := hz9
              rw [hm' z g6]
              show (if z = Str.ofString "size" then _ else if z = Str.ofString "nodes" then _ else if z = Str.ofString "value" then _ else if z = Str.ofString "key" then _ else if z = Str.ofString "number" then _ else _) = _
              rw [if_neg g5, if_neg g4, if_neg g3, if_neg g2, if_neg g1]
              exact hmz z
end Mine
namespace Mine
inductive MarkW : Prop where
  | mk
/-- from «for which» on -/
@[reducible] noncomputable def tail4S : {b : List Stmt // b = (fdBody lawStmt).drop 20} := by
  refine ⟨?b, ?h⟩
  case h => conv => rhs; whnf
@[reducible] noncomputable def tail4 : List Stmt := tail4S.1
/-- the last loop -/
inductive EndJ (f XR : Addr) (u : UInt8) (wa : Array UInt8) (nl : List (Addr × Obj)) (i : Nat) (m : Str → Option Value) (nx : List (Addr × Obj)) : Prop where
  | mk (tu tw : Tok) (e0 : m (Str.ofString "key") = some (.bytes #[u] tu)) (e1 : m (Str.ofString "value") = some (.bytes wa tw)) (e2 : m (Str.ofString "row") = some (.ref XR)) (e3 : m (Str.ofString "hash_of") = some (.ref f)) (hnx : nx = nl) : EndJ f XR u wa nl i m nx
set_option maxHeartbeats 8000000 in
theorem law_tail4 (w : World) {gd : Option (List Code)} {a : Addr} {ccd : Value} {A₀ : Around} {h₀ : Heap} {L : Addr} {m mg mb : Str → Option Value}
    {p : Program} {loose : List Str} {mean : ExcName → Option Value} {s : Shared} {Q : Flow → Shared → Prop} {E : Value → Shared → Prop} {base : List (Addr × Obj)} {f XR : Addr} {u : UInt8} {wa : Array UInt8} {tu tw : Tok} {rvs : List Value}
    (B : Below A₀ h₀ [] h₀) (F : Fr h₀ L s.heap m) (X : (Mine.z.heap_1_39 w.params).In h₀) (T : Top p loose mean mg mb h₀) (hE : PassesOwn (model PySem.Challenge.rw_iu0037_01.row.prog w) (ctop 302 7 gd (Str.ofString "law") lawScope L a ccd [] []) (envOf (Str.ofString "law") lawScope L a ccd) E) (N : News h₀ L s.heap ((XR, tupOf rvs) :: base)) (hr8 : rvs.length = 8)
    (m1 : m (Str.ofString "key") = some (.bytes #[u] tu)) (m2 : m (Str.ofString "value") = some (.bytes wa tw)) (m3 : m (Str.ofString "row") = some (.ref XR)) (m4 : m (Str.ofString "hash_of") = some (.ref f))
    (ret : ∀ m' h' tk', Fr h₀ L h' m' → News h₀ L h' base → Q (.ret (.bool true)) { s with heap := h', toks := tk' }) :
    wpAny (model PySem.Challenge.rw_iu0037_01.row.prog w) (ctop 302 7 gd (Str.ofString "law") lawScope L a ccd [] []) (execs tail4 (envOf (Str.ofString "law") lawScope L a ccd)) Q E s := by
  revert X; k_fill; w_top off; intro X
  have mk9 := Mark.mk
  have hm := see_all [(Str.ofString "key", .bytes #[u] tu), (Str.ofString "value", .bytes wa tw), (Str.ofString "row", .ref XR), (Str.ofString "hash_of", .ref f)]
    (List.forall_mem_cons.mpr ⟨m1, List.forall_mem_cons.mpr ⟨m2, List.forall_mem_cons.mpr ⟨m3, List.forall_mem_cons.mpr ⟨m4, List.forall_mem_nil _⟩⟩⟩⟩)
  rw [hm] at F
  clear hm
  (repeat' (first | (k_unfold; (try dsimp only)) | (k_end; wrow_close) | ((with_reducible show wpAny _ _ (binaryOp Operator.Add (Value.ref _) (Value.ref _)) _ _ _); k_here; (rename Mine.Mark => stopMark); (refine Mine.add_TT (by k_asm) (by k_asm) (by k_dflt k_mem) (by k_dflt k_mem) (by (first | omega | (simp only [List.length_append, List.length_take, List.length_drop, List.length_cons, List.length_nil, List.length_reverse]; omega))) ?_); intro _ _ _ _; (try k_sweep)) | ((with_reducible show wpAny _ _ (call (Value.ref _) _) _ _ _); k_here; (rename Mine.Mark => stopMark); (first | refine Mine.stop_call (by decide) ?_ | ((rename Mine.MarkU => stopMarkU); refine Mine.stop_callU (by decide) ?_))) | ((with_reducible show wpAny _ _ (exec (Stmt.For (Expr.Name _ _) (Expr.Call _ _ _ _) _ [] _) _) _ _ _); k_here; (rename Mine.Mark => stopMark); (rename Fr _ _ _ _ => lF'); (rename PassesOwn _ _ _ _ => lE'); (with_unfolding_all refine' For_invVF lF' ?k1 ?k2 ?_ (hE := lE'); (case k1 => k_dflt exact rfl); (case k2 => k_dflt exact rfl); k_whole)) | ((with_reducible show wpAny _ _ (pyIter (Value.ref _)) _ _ _); k_here; (rename Mine.Mark => stopMark); refine Mine.stop_at ?_) | ((with_reducible show wpAny _ _ (subscriptTail (Expr.Name _ _) (Expr.Slice _ _ _ _) (Value.ref _) (Value.ref _)) _ _ _); k_here; (rename Mine.Mark => stopMark); (with_reducible rename Fr _ _ _ _ => F9'); (with_reducible rename News _ _ _ _ => N9'); (first | ((with_reducible show wpAny _ _ (subscriptTail _ (Expr.Slice none (some _) none _) _ _) _ _ _); (refine Mine.slice_to (s := ⟨_, _, _, _, _⟩) F9' N9' (by k_dflt k_mem) (by omega) (by (first | omega | (simp only [List.length_append, List.length_take, List.length_drop, List.length_cons, List.length_nil, List.length_reverse]; omega))) (by (first | omega | (simp only [List.length_append, List.length_take, List.length_drop, List.length_cons, List.length_nil, List.length_reverse]; omega))) ?_)) | ((with_reducible show wpAny _ _ (subscriptTail _ (Expr.Slice (some _) none none _) _ _) _ _ _); (refine Mine.slice_from (s := ⟨_, _, _, _, _⟩) F9' N9' (by k_dflt k_mem) (by omega) (by (first | omega | (simp only [List.length_append, List.length_take, List.length_drop, List.length_cons, List.length_nil, List.length_reverse]; omega))) (by (first | omega | (simp only [List.length_append, List.length_take, List.length_drop, List.length_cons, List.length_nil, List.length_reverse]; omega))) ?_)) | ((with_reducible show wpAny _ _ (subscriptTail _ (Expr.Slice none none (some _) _) _ _) _ _ _); (refine Mine.slice_rev (s := ⟨_, _, _, _, _⟩) F9' N9' (by k_dflt k_mem) (by (first | omega | (simp only [List.length_append, List.length_take, List.length_drop, List.length_cons, List.length_nil, List.length_reverse]; omega))) ?_))); intro _ _ _ _; (try k_sweep)) | walk1 | (dsimp only; walk1) | (leave1; walk_say "STEP leave1"; try dsimp only)))
  unfold Stop
  (rename Fr _ _ _ _ => lF); (rename News _ _ _ _ => lN); (rename IsRange _ _ _ _ _ _ _ _ => lR)
  refine' loop_range (n := 2) (EndJ f XR u wa ((XR, tupOf rvs) :: base)) rfl lR (by decide) (by decide) lF (cb_drop lN ?sub) ?j0 ?turn ?done
  case j0 => exact ⟨_, _, rfl, rfl, rfl, rfl, rfl⟩
  case sub => walk_at "mine sub"
  case turn =>
    rintro i I tv m₁ nx it h1 tk1 hi ⟨tu2, tw2, e0, e1, e2, e3, rfl⟩ hof F1 N1
    have l3 := gnNe_of hof
    simp only [GnNe] at l3
    rw [see_all [(Str.ofString "key", .bytes #[u] tu2), (Str.ofString "value", .bytes wa tw2), (Str.ofString "row", .ref XR), (Str.ofString "hash_of", .ref f)]
      (List.forall_mem_cons.mpr ⟨e0, List.forall_mem_cons.mpr ⟨e1, List.forall_mem_cons.mpr ⟨e2, List.forall_mem_cons.mpr ⟨e3, List.forall_mem_nil _⟩⟩⟩⟩)] at F1
    clear lF lN lR
    (repeat' (first | (k_unfold; (try dsimp only)) | (k_end; wrow_close) | ((with_reducible show wpAny _ _ (binaryOp Operator.Add (Value.ref _) (Value.ref _)) _ _ _); k_here; (rename Mine.Mark => stopMark); (refine Mine.add_TT (by k_asm) (by k_asm) (by k_dflt k_mem) (by k_dflt k_mem) (by (first | omega | (simp only [List.length_append, List.length_take, List.length_drop, List.length_cons, List.length_nil, List.length_reverse]; omega))) ?_); intro _ _ _ _; (try k_sweep)) | ((with_reducible show wpAny _ _ (call (Value.ref _) _) _ _ _); k_here; (rename Mine.Mark => stopMark); (first | refine Mine.stop_call (by decide) ?_ | ((rename Mine.MarkU => stopMarkU); refine Mine.stop_callU (by decide) ?_))) | ((with_reducible show wpAny _ _ (exec (Stmt.For (Expr.Name _ _) (Expr.Call _ _ _ _) _ [] _) _) _ _ _); k_here; (rename Mine.Mark => stopMark); (rename Fr _ _ _ _ => lF'); (rename PassesOwn _ _ _ _ => lE'); (with_unfolding_all refine' For_invVF lF' ?k1 ?k2 ?_ (hE := lE'); (case k1 => k_dflt exact rfl); (case k2 => k_dflt exact rfl); k_whole)) | ((with_reducible show wpAny _ _ (pyIter (Value.ref _)) _ _ _); k_here; (rename Mine.Mark => stopMark); refine Mine.stop_at ?_) | ((with_reducible show wpAny _ _ (subscriptTail (Expr.Name _ _) (Expr.Slice _ _ _ _) (Value.ref _) (Value.ref _)) _ _ _); k_here; (rename Mine.Mark => stopMark); (with_reducible rename Fr _ _ _ _ => F9'); (with_reducible rename News _ _ _ _ => N9'); (first | ((with_reducible show wpAny _ _ (subscriptTail _ (Expr.Slice none (some _) none _) _ _) _ _ _); (refine Mine.slice_to (s := ⟨_, _, _, _, _⟩) F9' N9' (by k_dflt k_mem) (by omega) (by (first | omega | (simp only [List.length_append, List.length_take, List.length_drop, List.length_cons, List.length_nil, List.length_reverse]; omega))) (by (first | omega | (simp only [List.length_append, List.length_take, List.length_drop, List.length_cons, List.length_nil, List.length_reverse]; omega))) ?_)) | ((with_reducible show wpAny _ _ (subscriptTail _ (Expr.Slice (some _) none none _) _ _) _ _ _); (refine Mine.slice_from (s := ⟨_, _, _, _, _⟩) F9' N9' (by k_dflt k_mem) (by omega) (by (first | omega | (simp only [List.length_append, List.length_take, List.length_drop, List.length_cons, List.length_nil, List.length_reverse]; omega))) (by (first | omega | (simp only [List.length_append, List.length_take, List.length_drop, List.length_cons, List.length_nil, List.length_reverse]; omega))) ?_)) | ((with_reducible show wpAny _ _ (subscriptTail _ (Expr.Slice none none (some _) _) _ _) _ _ _); (refine Mine.slice_rev (s := ⟨_, _, _, _, _⟩) F9' N9' (by k_dflt k_mem) (by (first | omega | (simp only [List.length_append, List.length_take, List.length_drop, List.length_cons, List.length_nil, List.length_reverse]; omega))) ?_))); intro _ _ _ _; (try k_sweep)) | walk1 | (dsimp only; walk1) | (leave1; walk_say "STEP leave1"; try dsimp only)))
    unfold Stop
    rename_i X2 h2 F2 N2
    have q1 : (rvs.drop (Int.toNat 1)).length = 7 := by rw [List.length_drop, hr8]; rfl
    refine' useC ?frA ?h1A ?h2A ?h3A (c_refL w (T8 := X2) (nvs := rvs.drop (Int.toNat 1)) (news := (XR, tupOf rvs) :: (I, it) :: base) ?BA ?FA ?XA ?TA ?hkA (cb_drop ?NA ?subA) (by rw [q1]; decide) (by rw [q1]; decide) ?retA)
    case FA => k_asm
    case BA => k_asm
    case XA => k_asm
    case TA => k_asm
    case NA => k_asm
    case subA => walk_at "mine sub"
    case frA => exact rfl
    case h1A => exact rfl
    case hkA => exact rfl
    case h2A => (first | exact Nat.le_of_ble_eq_true rfl | ((simp only [depth_under_make, depth_in1, depth_deeper, units_under_make, units_in1, units_deeper]); exact Nat.le_of_ble_eq_true rfl))
    case h3A => (first | exact Nat.le_of_ble_eq_true rfl | ((simp only [depth_under_make, depth_in1, depth_deeper, units_under_make, units_in1, units_deeper]); exact Nat.le_of_ble_eq_true rfl))
    case retA =>
      intro h3 tk3 F3 N3
      show wpAny _ _ _ _ _ _
      have N4 : News h₀ L h3 ((XR, tupOf rvs) :: (I, it) :: base) := cb_drop N3 (by walk_at "mine sub")
      clear N3
      (repeat' (first | (k_unfold; (try dsimp only)) | (k_end; wrow_close) | ((with_reducible show wpAny _ _ (binaryOp Operator.Add (Value.ref _) (Value.ref _)) _ _ _); k_here; (rename Mine.Mark => stopMark); (refine Mine.add_TT (by k_asm) (by k_asm) (by k_dflt k_mem) (by k_dflt k_mem) (by (first | omega | (simp only [List.length_append, List.length_take, List.length_drop, List.length_cons, List.length_nil, List.length_reverse]; omega))) ?_); intro _ _ _ _; (try k_sweep)) | ((with_reducible show wpAny _ _ (call (Value.ref _) _) _ _ _); k_here; (rename Mine.Mark => stopMark); (first | refine Mine.stop_call (by decide) ?_ | ((rename Mine.MarkU => stopMarkU); refine Mine.stop_callU (by decide) ?_))) | ((with_reducible show wpAny _ _ (exec (Stmt.For (Expr.Name _ _) (Expr.Call _ _ _ _) _ [] _) _) _ _ _); k_here; (rename Mine.Mark => stopMark); (rename Fr _ _ _ _ => lF'); (rename PassesOwn _ _ _ _ => lE'); (with_unfolding_all refine' For_invVF lF' ?k1 ?k2 ?_ (hE := lE'); (case k1 => k_dflt exact rfl); (case k2 => k_dflt exact rfl); k_whole)) | ((with_reducible show wpAny _ _ (pyIter (Value.ref _)) _ _ _); k_here; (rename Mine.Mark => stopMark); refine Mine.stop_at ?_) | ((with_reducible show wpAny _ _ (subscriptTail (Expr.Name _ _) (Expr.Slice _ _ _ _) (Value.ref _) (Value.ref _)) _ _ _); k_here; (rename Mine.Mark => stopMark); (with_reducible rename Fr _ _ _ _ => F9'); (with_reducible rename News _ _ _ _ => N9'); (first | ((with_reducible show wpAny _ _ (subscriptTail _ (Expr.Slice none (some _) none _) _ _) _ _ _); (refine Mine.slice_to (s := ⟨_, _, _, _, _⟩) F9' N9' (by k_dflt k_mem) (by omega) (by (first | omega | (simp only [List.length_append, List.length_take, List.length_drop, List.length_cons, List.length_nil, List.length_reverse]; omega))) (by (first | omega | (simp only [List.length_append, List.length_take, List.length_drop, List.length_cons, List.length_nil, List.length_reverse]; omega))) ?_)) | ((with_reducible show wpAny _ _ (subscriptTail _ (Expr.Slice (some _) none none _) _ _) _ _ _); (refine Mine.slice_from (s := ⟨_, _, _, _, _⟩) F9' N9' (by k_dflt k_mem) (by omega) (by (first | omega | (simp only [List.length_append, List.length_take, List.length_drop, List.length_cons, List.length_nil, List.length_reverse]; omega))) (by (first | omega | (simp only [List.length_append, List.length_take, List.length_drop, List.length_cons, List.length_nil, List.length_reverse]; omega))) ?_)) | ((with_reducible show wpAny _ _ (subscriptTail _ (Expr.Slice none none (some _) _) _ _) _ _ _); (refine Mine.slice_rev (s := ⟨_, _, _, _, _⟩) F9' N9' (by k_dflt k_mem) (by (first | omega | (simp only [List.length_append, List.length_take, List.length_drop, List.length_cons, List.length_nil, List.length_reverse]; omega))) ?_))); intro _ _ _ _; (try k_sweep)) | walk1 | (dsimp only; walk1) | (leave1; walk_say "STEP leave1"; try dsimp only)))
      unfold Stop
      refine' useC ?frC ?h1C ?h2C ?h3C (c_refV w (T8 := XR) (news := (I, it) :: base) ?BC ?FC ?XC ?TC ?hkC (cb_drop ?NC ?subC) ?retC)
      case FC => k_asm
      case BC => k_asm
      case XC => k_asm
      case TC => k_asm
      case NC => k_asm
      case subC => walk_at "mine sub"
      case frC => exact rfl
      case h1C => exact rfl
      case hkC => exact rfl
      case h2C => (first | exact Nat.le_of_ble_eq_true rfl | ((simp only [depth_under_make, depth_in1, depth_deeper, units_under_make, units_in1, units_deeper]); exact Nat.le_of_ble_eq_true rfl))
      case h3C => (first | exact Nat.le_of_ble_eq_true rfl | ((simp only [depth_under_make, depth_in1, depth_deeper, units_under_make, units_in1, units_deeper]); exact Nat.le_of_ble_eq_true rfl))
      case retC =>
        intro h4 tk4 F4 N4
        show wpAny _ _ _ _ _ _
        (repeat' (first | (k_unfold; (try dsimp only)) | (k_end; wrow_close) | ((with_reducible show wpAny _ _ (binaryOp Operator.Add (Value.ref _) (Value.ref _)) _ _ _); k_here; (rename Mine.Mark => stopMark); (refine Mine.add_TT (by k_asm) (by k_asm) (by k_dflt k_mem) (by k_dflt k_mem) (by (first | omega | (simp only [List.length_append, List.length_take, List.length_drop, List.length_cons, List.length_nil, List.length_reverse]; omega))) ?_); intro _ _ _ _; (try k_sweep)) | ((with_reducible show wpAny _ _ (call (Value.ref _) _) _ _ _); k_here; (rename Mine.Mark => stopMark); (first | refine Mine.stop_call (by decide) ?_ | ((rename Mine.MarkU => stopMarkU); refine Mine.stop_callU (by decide) ?_))) | ((with_reducible show wpAny _ _ (exec (Stmt.For (Expr.Name _ _) (Expr.Call _ _ _ _) _ [] _) _) _ _ _); k_here; (rename Mine.Mark => stopMark); (rename Fr _ _ _ _ => lF'); (rename PassesOwn _ _ _ _ => lE'); (with_unfolding_all refine' For_invVF lF' ?k1 ?k2 ?_ (hE := lE'); (case k1 => k_dflt exact rfl); (case k2 => k_dflt exact rfl); k_whole)) | ((with_reducible show wpAny _ _ (pyIter (Value.ref _)) _ _ _); k_here; (rename Mine.Mark => stopMark); refine Mine.stop_at ?_) | ((with_reducible show wpAny _ _ (subscriptTail (Expr.Name _ _) (Expr.Slice _ _ _ _) (Value.ref _) (Value.ref _)) _ _ _); k_here; (rename Mine.Mark => stopMark); (with_reducible rename Fr _ _ _ _ => F9'); (with_reducible rename News _ _ _ _ => N9'); (first | ((with_reducible show wpAny _ _ (subscriptTail _ (Expr.Slice none (some _) none _) _ _) _ _ _); (refine Mine.slice_to (s := ⟨_, _, _, _, _⟩) F9' N9' (by k_dflt k_mem) (by omega) (by (first | omega | (simp only [List.length_append, List.length_take, List.length_drop, List.length_cons, List.length_nil, List.length_reverse]; omega))) (by (first | omega | (simp only [List.length_append, List.length_take, List.length_drop, List.length_cons, List.length_nil, List.length_reverse]; omega))) ?_)) | ((with_reducible show wpAny _ _ (subscriptTail _ (Expr.Slice (some _) none none _) _ _) _ _ _); (refine Mine.slice_from (s := ⟨_, _, _, _, _⟩) F9' N9' (by k_dflt k_mem) (by omega) (by (first | omega | (simp only [List.length_append, List.length_take, List.length_drop, List.length_cons, List.length_nil, List.length_reverse]; omega))) (by (first | omega | (simp only [List.length_append, List.length_take, List.length_drop, List.length_cons, List.length_nil, List.length_reverse]; omega))) ?_)) | ((with_reducible show wpAny _ _ (subscriptTail _ (Expr.Slice none none (some _) _) _ _) _ _ _); (refine Mine.slice_rev (s := ⟨_, _, _, _, _⟩) F9' N9' (by k_dflt k_mem) (by (first | omega | (simp only [List.length_append, List.length_take, List.length_drop, List.length_cons, List.length_nil, List.length_reverse]; omega))) ?_))); intro _ _ _ _; (try k_sweep)) | walk1 | (dsimp only; walk1) | (leave1; walk_say "STEP leave1"; try dsimp only)))
        unfold Stop
        refine' useC ?frD ?h1D ?h2D ?h3D (c_refK w (T8 := XR) (news := (I, it) :: base) ?BD ?FD ?XD ?TD ?hkD (cb_drop ?ND ?subD) ?retD)
        case FD => k_asm
        case BD => k_asm
        case XD => k_asm
        case TD => k_asm
        case ND => k_asm
        case subD => walk_at "mine sub"
        case frD => exact rfl
        case h1D => exact rfl
        case hkD => exact rfl
        case h2D => (first | exact Nat.le_of_ble_eq_true rfl | ((simp only [depth_under_make, depth_in1, depth_deeper, units_under_make, units_in1, units_deeper]); exact Nat.le_of_ble_eq_true rfl))
        case h3D => (first | exact Nat.le_of_ble_eq_true rfl | ((simp only [depth_under_make, depth_in1, depth_deeper, units_under_make, units_in1, units_deeper]); exact Nat.le_of_ble_eq_true rfl))
        case retD =>
          intro h5 tk5 F5 N5
          show wpAny _ _ _ _ _ _
          (repeat' (first | (k_unfold; (try dsimp only)) | (k_end; wrow_close) | ((with_reducible show wpAny _ _ (binaryOp Operator.Add (Value.ref _) (Value.ref _)) _ _ _); k_here; (rename Mine.Mark => stopMark); (refine Mine.add_TT (by k_asm) (by k_asm) (by k_dflt k_mem) (by k_dflt k_mem) (by (first | omega | (simp only [List.length_append, List.length_take, List.length_drop, List.length_cons, List.length_nil, List.length_reverse]; omega))) ?_); intro _ _ _ _; (try k_sweep)) | ((with_reducible show wpAny _ _ (call (Value.ref _) _) _ _ _); k_here; (rename Mine.Mark => stopMark); (first | refine Mine.stop_call (by decide) ?_ | ((rename Mine.MarkU => stopMarkU); refine Mine.stop_callU (by decide) ?_))) | ((with_reducible show wpAny _ _ (exec (Stmt.For (Expr.Name _ _) (Expr.Call _ _ _ _) _ [] _) _) _ _ _); k_here; (rename Mine.Mark => stopMark); (rename Fr _ _ _ _ => lF'); (rename PassesOwn _ _ _ _ => lE'); (with_unfolding_all refine' For_invVF lF' ?k1 ?k2 ?_ (hE := lE'); (case k1 => k_dflt exact rfl); (case k2 => k_dflt exact rfl); k_whole)) | ((with_reducible show wpAny _ _ (pyIter (Value.ref _)) _ _ _); k_here; (rename Mine.Mark => stopMark); refine Mine.stop_at ?_) | ((with_reducible show wpAny _ _ (subscriptTail (Expr.Name _ _) (Expr.Slice _ _ _ _) (Value.ref _) (Value.ref _)) _ _ _); k_here; (rename Mine.Mark => stopMark); (with_reducible rename Fr _ _ _ _ => F9'); (with_reducible rename News _ _ _ _ => N9'); (first | ((with_reducible show wpAny _ _ (subscriptTail _ (Expr.Slice none (some _) none _) _ _) _ _ _); (refine Mine.slice_to (s := ⟨_, _, _, _, _⟩) F9' N9' (by k_dflt k_mem) (by omega) (by (first | omega | (simp only [List.length_append, List.length_take, List.length_drop, List.length_cons, List.length_nil, List.length_reverse]; omega))) (by (first | omega | (simp only [List.length_append, List.length_take, List.length_drop, List.length_cons, List.length_nil, List.length_reverse]; omega))) ?_)) | ((with_reducible show wpAny _ _ (subscriptTail _ (Expr.Slice (some _) none none _) _ _) _ _ _); (refine Mine.slice_from (s := ⟨_, _, _, _, _⟩) F9' N9' (by k_dflt k_mem) (by omega) (by (first | omega | (simp only [List.length_append, List.length_take, List.length_drop, List.length_cons, List.length_nil, List.length_reverse]; omega))) (by (first | omega | (simp only [List.length_append, List.length_take, List.length_drop, List.length_cons, List.length_nil, List.length_reverse]; omega))) ?_)) | ((with_reducible show wpAny _ _ (subscriptTail _ (Expr.Slice none none (some _) _) _ _) _ _ _); (refine Mine.slice_rev (s := ⟨_, _, _, _, _⟩) F9' N9' (by k_dflt k_mem) (by (first | omega | (simp only [List.length_append, List.length_take, List.length_drop, List.length_cons, List.length_nil, List.length_reverse]; omega))) ?_))); intro _ _ _ _; (try k_sweep)) | walk1 | (dsimp only; walk1) | (leave1; walk_say "STEP leave1"; try dsimp only)))
          unfold Stop
          rename_i X3 h6 F6 N6
          have q2 : (rvs ++ rvs.take (Int.toNat 1)).length = 9 := by rw [List.length_append, List.length_take, hr8]; rfl
          refine' useC ?frG ?h1G ?h2G ?h3G (c_refL w (T8 := X3) (nvs := rvs ++ rvs.take (Int.toNat 1)) (news := (XR, tupOf rvs) :: (I, it) :: base) ?BG ?FG ?XG ?TG ?hkG (cb_drop ?NG ?subG) (by rw [q2]; decide) (by rw [q2]; decide) ?retG)
          case FG => k_asm
          case BG => k_asm
          case XG => k_asm
          case TG => k_asm
          case NG => k_asm
          case subG => walk_at "mine sub"
          case frG => exact rfl
          case h1G => exact rfl
          case hkG => exact rfl
          case h2G => (first | exact Nat.le_of_ble_eq_true rfl | ((simp only [depth_under_make, depth_in1, depth_deeper, units_under_make, units_in1, units_deeper]); exact Nat.le_of_ble_eq_true rfl))
          case h3G => (first | exact Nat.le_of_ble_eq_true rfl | ((simp only [depth_under_make, depth_in1, depth_deeper, units_under_make, units_in1, units_deeper]); exact Nat.le_of_ble_eq_true rfl))
          case retG =>
            intro h7 tk7 F7 N7
            show wpAny _ _ _ _ _ _
            (repeat' (first | (k_unfold; (try dsimp only)) | (k_end; wrow_close) | ((with_reducible show wpAny _ _ (binaryOp Operator.Add (Value.ref _) (Value.ref _)) _ _ _); k_here; (rename Mine.Mark => stopMark); (refine Mine.add_TT (by k_asm) (by k_asm) (by k_dflt k_mem) (by k_dflt k_mem) (by (first | omega | (simp only [List.length_append, List.length_take, List.length_drop, List.length_cons, List.length_nil, List.length_reverse]; omega))) ?_); intro _ _ _ _; (try k_sweep)) | ((with_reducible show wpAny _ _ (call (Value.ref _) _) _ _ _); k_here; (rename Mine.Mark => stopMark); (first | refine Mine.stop_call (by decide) ?_ | ((rename Mine.MarkU => stopMarkU); refine Mine.stop_callU (by decide) ?_))) | ((with_reducible show wpAny _ _ (exec (Stmt.For (Expr.Name _ _) (Expr.Call _ _ _ _) _ [] _) _) _ _ _); k_here; (rename Mine.Mark => stopMark); (rename Fr _ _ _ _ => lF'); (rename PassesOwn _ _ _ _ => lE'); (with_unfolding_all refine' For_invVF lF' ?k1 ?k2 ?_ (hE := lE'); (case k1 => k_dflt exact rfl); (case k2 => k_dflt exact rfl); k_whole)) | ((with_reducible show wpAny _ _ (pyIter (Value.ref _)) _ _ _); k_here; (rename Mine.Mark => stopMark); refine Mine.stop_at ?_) | ((with_reducible show wpAny _ _ (subscriptTail (Expr.Name _ _) (Expr.Slice _ _ _ _) (Value.ref _) (Value.ref _)) _ _ _); k_here; (rename Mine.Mark => stopMark); (with_reducible rename Fr _ _ _ _ => F9'); (with_reducible rename News _ _ _ _ => N9'); (first | ((with_reducible show wpAny _ _ (subscriptTail _ (Expr.Slice none (some _) none _) _ _) _ _ _); (refine Mine.slice_to (s := ⟨_, _, _, _, _⟩) F9' N9' (by k_dflt k_mem) (by omega) (by (first | omega | (simp only [List.length_append, List.length_take, List.length_drop, List.length_cons, List.length_nil, List.length_reverse]; omega))) (by (first | omega | (simp only [List.length_append, List.length_take, List.length_drop, List.length_cons, List.length_nil, List.length_reverse]; omega))) ?_)) | ((with_reducible show wpAny _ _ (subscriptTail _ (Expr.Slice (some _) none none _) _ _) _ _ _); (refine Mine.slice_from (s := ⟨_, _, _, _, _⟩) F9' N9' (by k_dflt k_mem) (by omega) (by (first | omega | (simp only [List.length_append, List.length_take, List.length_drop, List.length_cons, List.length_nil, List.length_reverse]; omega))) (by (first | omega | (simp only [List.length_append, List.length_take, List.length_drop, List.length_cons, List.length_nil, List.length_reverse]; omega))) ?_)) | ((with_reducible show wpAny _ _ (subscriptTail _ (Expr.Slice none none (some _) _) _ _) _ _ _); (refine Mine.slice_rev (s := ⟨_, _, _, _, _⟩) F9' N9' (by k_dflt k_mem) (by (first | omega | (simp only [List.length_append, List.length_take, List.length_drop, List.length_cons, List.length_nil, List.length_reverse]; omega))) ?_))); intro _ _ _ _; (try k_sweep)) | walk1 | (dsimp only; walk1) | (leave1; walk_say "STEP leave1"; try dsimp only)))
            (rename Fr _ _ _ _ => lF); (rename News _ _ _ _ => lN)
            exact UnrEnd.intro lF lN ((XR, tupOf rvs) :: base) (by walk_at "mine sub") hof ⟨tu2, tw2, rfl, rfl, rfl, rfl, rfl⟩
  case done =>
    rintro m₁ nx h1 tk1 ⟨tu2, tw2, e0, e1, e2, e3, rfl⟩ F1 N1
    clear lF lN lR
    (repeat' (first | (k_unfold; (try dsimp only)) | (k_end; wrow_close) | ((with_reducible show wpAny _ _ (binaryOp Operator.Add (Value.ref _) (Value.ref _)) _ _ _); k_here; (rename Mine.Mark => stopMark); (refine Mine.add_TT (by k_asm) (by k_asm) (by k_dflt k_mem) (by k_dflt k_mem) (by (first | omega | (simp only [List.length_append, List.length_take, List.length_drop, List.length_cons, List.length_nil, List.length_reverse]; omega))) ?_); intro _ _ _ _; (try k_sweep)) | ((with_reducible show wpAny _ _ (call (Value.ref _) _) _ _ _); k_here; (rename Mine.Mark => stopMark); (first | refine Mine.stop_call (by decide) ?_ | ((rename Mine.MarkU => stopMarkU); refine Mine.stop_callU (by decide) ?_))) | ((with_reducible show wpAny _ _ (exec (Stmt.For (Expr.Name _ _) (Expr.Call _ _ _ _) _ [] _) _) _ _ _); k_here; (rename Mine.Mark => stopMark); (rename Fr _ _ _ _ => lF'); (rename PassesOwn _ _ _ _ => lE'); (with_unfolding_all refine' For_invVF lF' ?k1 ?k2 ?_ (hE := lE'); (case k1 => k_dflt exact rfl); (case k2 => k_dflt exact rfl); k_whole)) | ((with_reducible show wpAny _ _ (pyIter (Value.ref _)) _ _ _); k_here; (rename Mine.Mark => stopMark); refine Mine.stop_at ?_) | ((with_reducible show wpAny _ _ (subscriptTail (Expr.Name _ _) (Expr.Slice _ _ _ _) (Value.ref _) (Value.ref _)) _ _ _); k_here; (rename Mine.Mark => stopMark); (with_reducible rename Fr _ _ _ _ => F9'); (with_reducible rename News _ _ _ _ => N9'); (first | ((with_reducible show wpAny _ _ (subscriptTail _ (Expr.Slice none (some _) none _) _ _) _ _ _); (refine Mine.slice_to (s := ⟨_, _, _, _, _⟩) F9' N9' (by k_dflt k_mem) (by omega) (by (first | omega | (simp only [List.length_append, List.length_take, List.length_drop, List.length_cons, List.length_nil, List.length_reverse]; omega))) (by (first | omega | (simp only [List.length_append, List.length_take, List.length_drop, List.length_cons, List.length_nil, List.length_reverse]; omega))) ?_)) | ((with_reducible show wpAny _ _ (subscriptTail _ (Expr.Slice (some _) none none _) _ _) _ _ _); (refine Mine.slice_from (s := ⟨_, _, _, _, _⟩) F9' N9' (by k_dflt k_mem) (by omega) (by (first | omega | (simp only [List.length_append, List.length_take, List.length_drop, List.length_cons, List.length_nil, List.length_reverse]; omega))) (by (first | omega | (simp only [List.length_append, List.length_take, List.length_drop, List.length_cons, List.length_nil, List.length_reverse]; omega))) ?_)) | ((with_reducible show wpAny _ _ (subscriptTail _ (Expr.Slice none none (some _) _) _ _) _ _ _); (refine Mine.slice_rev (s := ⟨_, _, _, _, _⟩) F9' N9' (by k_dflt k_mem) (by (first | omega | (simp only [List.length_append, List.length_take, List.length_drop, List.length_cons, List.length_nil, List.length_reverse]; omega))) ?_))); intro _ _ _ _; (try k_sweep)) | walk1 | (dsimp only; walk1) | (leave1; walk_say "STEP leave1"; try dsimp only)))
    exact ret _ _ _ (by k_asm) (cb_drop (by k_asm) (by walk_at "mine sub"))
end Mine
namespace Mine
inductive MarkV : Prop where
  | mk
inductive MarkK : Prop where
  | mk
@[reducible] noncomputable def tail3S : {b : List Stmt // b = (fdBody lawStmt).drop 19} := by
  refine ⟨?b, ?h⟩
  case h => conv => rhs; whnf
@[reducible] noncomputable def tail3 : List Stmt := tail3S.1
set_option maxHeartbeats 8000000 in
theorem law_tail3 (w : World) {gd : Option (List Code)} {a : Addr} {ccd : Value} {A₀ : Around} {h₀ : Heap} {L : Addr} {m mg mb : Str → Option Value}
    {p : Program} {loose : List Str} {mean : ExcName → Option Value} {s : Shared} {Q : Flow → Shared → Prop} {E : Value → Shared → Prop} {base : List (Addr × Obj)} {f r t td db XR : Addr} {x : TD} {dflt : Value} {u u2 : UInt8} {wa root : Array UInt8} {tu tu2 tw tr : Tok} {rvs : List Value} {rs : List By} {od : Obj} {kvs : List (By × Value)} {reg : List By} {val : Nat → By} {nd : Nat → Nat → By} {b : Bool}
    (B : Below A₀ h₀ [] h₀) (F : Fr h₀ L s.heap m) (X : (Mine.z.heap_1_39 w.params).In h₀) (T : Top p loose mean mg mb h₀) (hE : PassesOwn (model PySem.Challenge.rw_iu0037_01.row.prog w) (ctop 302 7 gd (Str.ofString "law") lawScope L a ccd [] []) (envOf (Str.ofString "law") lawScope L a ccd) E) (N : News h₀ L s.heap ((XR, tupOf rvs) :: (t, instObj 214 td) :: (td, tdOf x dflt f db (.bytes root tr)) :: (r, od) :: base)) (hoff : ∀ p ∈ base, p.1 ≠ r) (hne : @Ne Nat td r) (hlo : (r == sysModules) = false) (H : HashAt base f r)
    (hd : od.IsDictOf (bytesKind PySem.Challenge.rw_iu0037_01.row.prog w) kvs) (hr : RegIs kvs reg) (hz : reg.length ≤ 900000) (hnd : Nodes reg val nd) (hroot : root.toList = nd 8 0)
    (hb : BsAre rvs rs) (hb8 : rs.length = 8) (hbz : ∀ b ∈ rs, b.length ≤ 1000) (hright : b = true ↔ (wa.toList = val u2.toNat ∧ rs = beside nd u2.toNat))
    (m1 : m (Str.ofString "key") = some (.bytes #[u] tu)) (m2 : m (Str.ofString "value") = some (.bytes wa tw)) (m3 : m (Str.ofString "row") = some (.ref XR)) (m4 : m (Str.ofString "hash_of") = some (.ref f))
    (m5 : m (Str.ofString "told") = some (.bytes #[u2] tu2)) (m6 : m (Str.ofString "tree") = some (.ref t)) (m7 : m (Str.ofString "right") = some (.bool b))
    (ret : ∀ m' h' tk', Fr h₀ L h' m' → News h₀ L h' base → Q (.ret (.bool true)) { s with heap := h', toks := tk' }) :
    wpAny (model PySem.Challenge.rw_iu0037_01.row.prog w) (ctop 302 7 gd (Str.ofString "law") lawScope L a ccd [] []) (execs tail3 (envOf (Str.ofString "law") lawScope L a ccd)) Q E s := by
  revert X; k_fill; w_top off; intro X
  have mk9 := Mark.mk
  have mkU := MarkU.mk
  have mkW := MarkW.mk
  have hrl : rvs.length = 8 := by rw [hb.length, hb8]
  have hu2 := u2.toNat_lt
  have hm := see_all [(Str.ofString "key", .bytes #[u] tu), (Str.ofString "value", .bytes wa tw), (Str.ofString "row", .ref XR), (Str.ofString "hash_of", .ref f), (Str.ofString "told", .bytes #[u2] tu2), (Str.ofString "tree", .ref t), (Str.ofString "right", .bool b)]
    (List.forall_mem_cons.mpr ⟨m1, List.forall_mem_cons.mpr ⟨m2, List.forall_mem_cons.mpr ⟨m3, List.forall_mem_cons.mpr ⟨m4, List.forall_mem_cons.mpr ⟨m5, List.forall_mem_cons.mpr ⟨m6, List.forall_mem_cons.mpr ⟨m7, List.forall_mem_nil _⟩⟩⟩⟩⟩⟩⟩)
  rw [hm] at F
  clear hm
  (repeat' (first | (k_unfold; (try dsimp only)) | (k_end; wrow_close) | ((with_reducible show wpAny _ _ (call (Value.ref _) _) _ _ _); k_here; (rename Mine.Mark => stopMark); (first | refine Mine.stop_call (by decide) ?_ | ((rename Mine.MarkU => stopMarkU); refine Mine.stop_callU (by decide) ?_))) | ((with_reducible show wpAny _ _ (compareOp CmpOp.Eq (Value.bytes _ _) (Value.bytes _ _)) _ _ _); k_here; (rename Mine.Mark => stopMark); (first | refine Mine.eq_diff (by assumption) ?_ | refine Mine.eq_diff (fun e => absurd (Eq.trans e (by assumption)) (by assumption)) ?_ | refine Mine.eq_same (by k_dflt (first | rfl | assumption | exact Eq.trans (by assumption) (Eq.symm (by assumption)))) ?_)) | ((with_reducible show wpAny _ _ (execs (Stmt.For _ _ _ _ _ :: _) _) _ _ _); k_here; (rename Mine.MarkW => stopMarkW); refine Mine.stop_at ?_) | walk1 | (dsimp only; walk1) | (leave1; walk_say "STEP leave1"; try dsimp only)))
  unfold Stop
  refine' useC ?frA ?h1A ?h2A ?h3A (c_calc w (bt := XR) (bvs := rvs) (rest := (t, instObj 214 td) :: (td, tdOf x dflt f db (.bytes root tr)) :: base) (bs := rs) ?BA ?FA ?XA ?TA ?hkA (cb_drop ?NA ?subA) ?hoffA hlo ?HA hd hr (by omega) hb hb8 hbz ?retA)
  case FA => k_asm
  case BA => k_asm
  case XA => k_asm
  case TA => k_asm
  case NA => k_asm
  case subA => walk_at "mine sub"
  case frA => exact rfl
  case h1A => exact rfl
  case hkA => exact rfl
  case h2A => (first | exact Nat.le_of_ble_eq_true rfl | ((simp only [depth_under_make, depth_in1, depth_deeper, units_under_make, units_in1, units_deeper]); exact Nat.le_of_ble_eq_true rfl))
  case h3A => (first | exact Nat.le_of_ble_eq_true rfl | ((simp only [depth_under_make, depth_in1, depth_deeper, units_under_make, units_in1, units_deeper]); exact Nat.le_of_ble_eq_true rfl))
  case hoffA => k_all
  case HA => exact H.mono fun p hp => .tail _ (.tail _ hp)
  case retA =>
    intro rb trb od2 kvs2 reg2 hs h2 tk2 F2 N2 hd2 hr2 hp2 hl2 hw hrb
    show wpAny _ _ _ _ _ _
    have hiff : rb.toList = root.toList ↔ b = true := by
      rw [hright, hrb, hroot]
      constructor
      · intro e
        exact hw.only (by omega) (hnd.mono hp2) hu2 hb8 e
      · rintro ⟨e1, e2⟩
        rw [e2] at hw
        exact hw.root hr2.nodup (hnd.mono hp2) hu2 e1
    cases b with
    | true =>
      have hq : rb.toList = root.toList := hiff.mpr rfl
      (repeat' (first | (k_unfold; (try dsimp only)) | (k_end; wrow_close) | ((with_reducible show wpAny _ _ (call (Value.ref _) _) _ _ _); k_here; (rename Mine.Mark => stopMark); (first | refine Mine.stop_call (by decide) ?_ | ((rename Mine.MarkU => stopMarkU); refine Mine.stop_callU (by decide) ?_))) | ((with_reducible show wpAny _ _ (compareOp CmpOp.Eq (Value.bytes _ _) (Value.bytes _ _)) _ _ _); k_here; (rename Mine.Mark => stopMark); (first | refine Mine.eq_diff (by assumption) ?_ | refine Mine.eq_diff (fun e => absurd (Eq.trans e (by assumption)) (by assumption)) ?_ | refine Mine.eq_same (by k_dflt (first | rfl | assumption | exact Eq.trans (by assumption) (Eq.symm (by assumption)))) ?_)) | ((with_reducible show wpAny _ _ (execs (Stmt.For _ _ _ _ _ :: _) _) _ _ _); k_here; (rename Mine.MarkW => stopMarkW); refine Mine.stop_at ?_) | walk1 | (dsimp only; walk1) | (leave1; walk_say "STEP leave1"; try dsimp only)))
      unfold Stop
      exact law_tail4 w (by k_asm) (by k_asm) (by k_asm) (by k_asm) hE (by exact cb_drop N2 (by walk_at "mine sub")) hrl (by exact rfl) (by exact rfl) (by exact rfl) (by exact rfl) fun m' h' tk' F9 N9 => ret m' h' tk' F9 (cb_drop N9 (by walk_at "mine sub"))
    | false =>
      have hq : rb.toList ≠ root.toList := fun e => Bool.noConfusion (hiff.mp e)
      (repeat' (first | (k_unfold; (try dsimp only)) | (k_end; wrow_close) | ((with_reducible show wpAny _ _ (call (Value.ref _) _) _ _ _); k_here; (rename Mine.Mark => stopMark); (first | refine Mine.stop_call (by decide) ?_ | ((rename Mine.MarkU => stopMarkU); refine Mine.stop_callU (by decide) ?_))) | ((with_reducible show wpAny _ _ (compareOp CmpOp.Eq (Value.bytes _ _) (Value.bytes _ _)) _ _ _); k_here; (rename Mine.Mark => stopMark); (first | refine Mine.eq_diff (by assumption) ?_ | refine Mine.eq_diff (fun e => absurd (Eq.trans e (by assumption)) (by assumption)) ?_ | refine Mine.eq_same (by k_dflt (first | rfl | assumption | exact Eq.trans (by assumption) (Eq.symm (by assumption)))) ?_)) | ((with_reducible show wpAny _ _ (execs (Stmt.For _ _ _ _ _ :: _) _) _ _ _); k_here; (rename Mine.MarkW => stopMarkW); refine Mine.stop_at ?_) | walk1 | (dsimp only; walk1) | (leave1; walk_say "STEP leave1"; try dsimp only)))
      unfold Stop
      exact law_tail4 w (by k_asm) (by k_asm) (by k_asm) (by k_asm) hE (by exact cb_drop N2 (by walk_at "mine sub")) hrl (by exact rfl) (by exact rfl) (by exact rfl) (by exact rfl) fun m' h' tk' F9 N9 => ret m' h' tk' F9 (cb_drop N9 (by walk_at "mine sub"))
end Mine
namespace Mine
@[reducible] noncomputable def tail2S : {b : List Stmt // b = (fdBody lawStmt).drop 14} := by
  refine ⟨?b, ?h⟩
  case h => conv => rhs; whnf
@[reducible] noncomputable def tail2 : List Stmt := tail2S.1
theorem fmod4 (x : Int) : 0 ≤ x.fmod 4 ∧ x.fmod 4 < 4 := by rw [Int.fmod_eq_emod_of_nonneg _ (by decide)]; omega
theorem fmod3 (x : Int) : 0 ≤ x.fmod 3 ∧ x.fmod 3 < 3 := by rw [Int.fmod_eq_emod_of_nonneg _ (by decide)]; omega
theorem beside_100 {reg : List By} {val : Nat → By} {nd : Nat → Nat → By} {u : Nat} (h : Nodes reg val nd) (hu : u < 256) : ∀ b ∈ beside nd u, b.length ≤ 100 := fun b hb => by
  obtain ⟨i, hi, rfl⟩ := List.mem_map.mp hb
  have := List.mem_range.mp hi
  rw [h.len _ _ (by omega) (sib_lt8 hu (by omega))]
  decide
set_option maxHeartbeats 8000000 in
theorem law_tail2 (w : World) {gd : Option (List Code)} {a : Addr} {ccd : Value} {A₀ : Around} {h₀ : Heap} {L : Addr} {m mg mb : Str → Option Value}
    {p : Program} {loose : List Str} {mean : ExcName → Option Value} {s : Shared} {Q : Flow → Shared → Prop} {E : Value → Shared → Prop} {base kn : List (Addr × Obj)} {f r t td db hl kt : Addr} {x : TD} {da root : Array UInt8} {dt tr tn tf : Tok} {n n1 : Int} {od oh : Obj} {kvs kvh : List (By × Value)} {reg : List By} {nd : Nat → Nat → By}
    (B : Below A₀ h₀ [] h₀) (F : Fr h₀ L s.heap m) (X : (Mine.z.heap_1_39 w.params).In h₀) (T : Top p loose mean mg mb h₀) (hE : PassesOwn (model PySem.Challenge.rw_iu0037_01.row.prog w) (ctop 302 7 gd (Str.ofString "law") lawScope L a ccd [] []) (envOf (Str.ofString "law") lawScope L a ccd) E) (N : News h₀ L s.heap ((t, instObj 214 td) :: (td, tdOf x (.bytes da dt) f db (.bytes root tr)) :: (r, od) :: base)) (hoff : ∀ p ∈ base, p.1 ≠ r) (hne : @Ne Nat td r) (hlo : (r == sysModules) = false) (H : HashAt base f r)
    (hd : od.IsDictOf (bytesKind PySem.Challenge.rw_iu0037_01.row.prog w) kvs) (hr : RegIs kvs reg) (hz : reg.length ≤ 800000) (hnd : Nodes reg (heldVal kvh da.toList) nd) (hroot : root.toList = nd 8 0)
    (hmem : (hl, oh) ∈ base) (hh : oh.IsDictOf (bytesKind PySem.Challenge.rw_iu0037_01.row.prog w) kvh) (hhlo : (hl == sysModules) = false) (hok : HeldOk kvh) (hkn : ∀ p ∈ kn, p ∈ base) (KA : KnownAt w kn kt nd) (hn : 0 ≤ n) (hn1 : 0 ≤ n1)
    (m1 : m (Str.ofString "number") = some (.int n tn)) (m2 : m (Str.ofString "first") = some (.int n1 tf)) (m3 : m (Str.ofString "held") = some (.ref hl)) (m4 : m (Str.ofString "hash_of") = some (.ref f))
    (m5 : m (Str.ofString "default") = some (.bytes da dt)) (m6 : m (Str.ofString "tree") = some (.ref t)) (m7 : m (Str.ofString "known") = some (.ref kt))
    (ret : ∀ m' h' tk', Fr h₀ L h' m' → News h₀ L h' base → Q (.ret (.bool true)) { s with heap := h', toks := tk' }) :
    wpAny (model PySem.Challenge.rw_iu0037_01.row.prog w) (ctop 302 7 gd (Str.ofString "law") lawScope L a ccd [] []) (execs tail2 (envOf (Str.ofString "law") lawScope L a ccd)) Q E s := by
  revert X; k_fill; w_top off; intro X
  have mk9 := Mark.mk
  have mkU := MarkU.mk
  have mkV := MarkV.mk
  have H0 := H
  have f4 := fmod4 (n1.fdiv 8)
  have f3 := fmod3 (n1.fdiv 24)
  have d64 := fdiv_nn hn (k := 64) (by decide)
  have hm := see_all [(Str.ofString "number", .int n tn), (Str.ofString "first", .int n1 tf), (Str.ofString "held", .ref hl), (Str.ofString "hash_of", .ref f), (Str.ofString "default", .bytes da dt), (Str.ofString "tree", .ref t), (Str.ofString "known", .ref kt)]
    (List.forall_mem_cons.mpr ⟨m1, List.forall_mem_cons.mpr ⟨m2, List.forall_mem_cons.mpr ⟨m3, List.forall_mem_cons.mpr ⟨m4, List.forall_mem_cons.mpr ⟨m5, List.forall_mem_cons.mpr ⟨m6, List.forall_mem_cons.mpr ⟨m7, List.forall_mem_nil _⟩⟩⟩⟩⟩⟩⟩)
  rw [hm] at F
  clear hm
  (repeat' (first | (k_unfold; (try dsimp only)) | (k_end; wrow_close) | ((with_reducible show FnAt _ _); k_here; (rename Mine.HashAt _ _ _ => hHash9); k_dflt (exact Mine.HashAt.fnAt hHash9 (by k_asm) (by walk_at "mine sub"))) | ((with_reducible show wpAny _ _ (call (Value.builtin "dict.get") [Value.ref _, Value.bytes _ _, Value.bytes _ _]) _ _ _); k_here; k_dflt (refine' Mine.held_get ?N ?m ?d ?lo ?ok ?_; (case N => k_asm); (case m => (first | k_mem | walk_at "mine tail")); (case d => k_asm); (case lo => k_asm); (case ok => k_asm)); intro _ _ _ _) | ((with_reducible show wpAny _ _ (call (Value.ref _) [Value.bytes _ _]) _ _ _); k_here; (rename Mine.HashAt _ _ _ => hHash9); k_dflt (refine' Mine.hashU ?B ?F ?X ?N ?T ?fr ?h1 ?h2 ?h3 ?hk hHash9 ?off ?lo ?U ?sub ?d ?r ?z ?_; (case F => k_asm); (case B => k_asm); (case X => k_asm); (case N => k_asm); (case T => k_asm); (case fr => exact rfl); (case h1 => exact rfl); (case h2 => (first | exact Nat.le_of_ble_eq_true rfl | ((simp only [depth_under_make, depth_in1, depth_deeper, units_under_make, units_in1, units_deeper]); exact Nat.le_of_ble_eq_true rfl))); (case h3 => (first | exact Nat.le_of_ble_eq_true rfl | ((simp only [depth_under_make, depth_in1, depth_deeper, units_under_make, units_in1, units_deeper]); exact Nat.le_of_ble_eq_true rfl))); (case hk => exact rfl); (case off => assumption); (case lo => k_asm); (case U => k_updF); (case sub => walk_at "mine sub"); (case d => k_asm); (case r => k_asm); (case z => omega)); intro _ _ _ _ _ _ _ _ N9' _ _ _ _ h9'; (have _ := Mine.Hs.size h9'); (try dsimp only at N9'); (try k_sweep)) | ((with_reducible show wpAny _ _ (call (Value.ref _) _) _ _ _); k_here; (rename Mine.Mark => stopMark); (first | refine Mine.stop_call (by decide) ?_ | ((rename Mine.MarkU => stopMarkU); refine Mine.stop_callU (by decide) ?_))) | ((with_reducible show wpAny _ _ (callWith _ (Value.ref _) _ _ _) _ _ _); k_here; (rename Mine.HashAt _ _ _ => hHash9); k_dflt (refine' callWith_F ?k1 ?_; (case k1 => exact Mine.HashAt.fnAt hHash9 (by k_asm) (by walk_at "mine sub")); k_whole)) | ((with_reducible show wpAny _ _ (compareOp CmpOp.Eq (Value.bytes _ _) (Value.bytes _ _)) _ _ _); k_here; (rename Mine.Mark => stopMark); (first | refine Mine.eq_diff (by assumption) ?_ | refine Mine.eq_diff (fun e => absurd (Eq.trans e (by assumption)) (by assumption)) ?_ | refine Mine.eq_same (by k_dflt (first | rfl | assumption | exact Eq.trans (by assumption) (Eq.symm (by assumption)))) ?_)) | ((with_reducible show wpAny _ _ (compareOp CmpOp.Eq (Value.ref _) (Value.ref _)) _ _ _); k_here; (rename Mine.Mark => stopMark); (refine Mine.eq_TT (by k_asm) (by k_dflt (first | k_mem | walk_at "mine tail")) (by k_dflt (first | k_mem | walk_at "mine tail")) (by assumption) (by assumption) (by k_dflt (first | exact Nat.le_of_ble_eq_true rfl | ((have hcl9 := cLine_is); (simp only [units_under_make, units_in1, units_deeper, cLine] at *; omega)))) ?_)) | ((with_reducible show wpAny _ _ (execs (Stmt.If _ _ _ _ :: _) _) _ _ _); k_here; (rename Mine.MarkV => stopMarkV); refine Mine.stop_at ?_) | ((with_reducible show wpAny _ _ (getMethod (Value.ref _) (PySem.Str.ofString "get") _) _ _ _); k_here; (first | refine kdg_method (knd := PySem.intKind _ _) (by k_asm) (by k_mem) (by k_asm) ?_ | refine kdg_method (knd := PySem.W.bytesKind _ _) (by k_asm) (by (first | k_mem | walk_at "mine tail")) (by k_asm) ?_)) | ((with_reducible show wpAny _ _ (subscriptTail (Expr.Name _ _) (Expr.BinOp _ _ _ _) (Value.ref _) (Value.int _ _)) _ _ _); k_here; (rename Mine.MarkU => stopMarkU); k_dflt (refine' Mine.item_any ?N ?l ?v ?a ?b ?z ?_; (case N => k_asm); (case l => k_mem); (case v => (intro v hv; (repeat (first | exact absurd hv List.not_mem_nil | (rcases List.mem_cons.mp hv with rfl | hv; exact ⟨_, _, rfl⟩))))); (case a => omega); (case b => simp; omega); (case z => simp)); intro _ _) | walk1 | (dsimp only; walk1) | (leave1; walk_say "STEP leave1"; try dsimp only)))
  unfold Stop
  refine' useC ?frA ?h1A ?h2A ?h3A (c_octet w  ?BA ?FA ?XA ?TA ?hkA (cb_drop ?NA ?subA) (by omega) ?retA)
  case FA => k_asm
  case BA => k_asm
  case XA => k_asm
  case TA => k_asm
  case NA => k_asm
  case subA => walk_at "mine sub"
  case frA => exact rfl
  case h1A => exact rfl
  case hkA => exact rfl
  case h2A => (first | exact Nat.le_of_ble_eq_true rfl | ((simp only [depth_under_make, depth_in1, depth_deeper, units_under_make, units_in1, units_deeper]); exact Nat.le_of_ble_eq_true rfl))
  case h3A => (first | exact Nat.le_of_ble_eq_true rfl | ((simp only [depth_under_make, depth_in1, depth_deeper, units_under_make, units_in1, units_deeper]); exact Nat.le_of_ble_eq_true rfl))
  case retA =>
    intro u1 tu1 h2 tk2 F2 N2
    show wpAny _ _ _ _ _ _
    (repeat' (first | (k_unfold; (try dsimp only)) | (k_end; wrow_close) | ((with_reducible show FnAt _ _); k_here; (rename Mine.HashAt _ _ _ => hHash9); k_dflt (exact Mine.HashAt.fnAt hHash9 (by k_asm) (by walk_at "mine sub"))) | ((with_reducible show wpAny _ _ (call (Value.builtin "dict.get") [Value.ref _, Value.bytes _ _, Value.bytes _ _]) _ _ _); k_here; k_dflt (refine' Mine.held_get ?N ?m ?d ?lo ?ok ?_; (case N => k_asm); (case m => (first | k_mem | walk_at "mine tail")); (case d => k_asm); (case lo => k_asm); (case ok => k_asm)); intro _ _ _ _) | ((with_reducible show wpAny _ _ (call (Value.ref _) [Value.bytes _ _]) _ _ _); k_here; (rename Mine.HashAt _ _ _ => hHash9); k_dflt (refine' Mine.hashU ?B ?F ?X ?N ?T ?fr ?h1 ?h2 ?h3 ?hk hHash9 ?off ?lo ?U ?sub ?d ?r ?z ?_; (case F => k_asm); (case B => k_asm); (case X => k_asm); (case N => k_asm); (case T => k_asm); (case fr => exact rfl); (case h1 => exact rfl); (case h2 => (first | exact Nat.le_of_ble_eq_true rfl | ((simp only [depth_under_make, depth_in1, depth_deeper, units_under_make, units_in1, units_deeper]); exact Nat.le_of_ble_eq_true rfl))); (case h3 => (first | exact Nat.le_of_ble_eq_true rfl | ((simp only [depth_under_make, depth_in1, depth_deeper, units_under_make, units_in1, units_deeper]); exact Nat.le_of_ble_eq_true rfl))); (case hk => exact rfl); (case off => assumption); (case lo => k_asm); (case U => k_updF); (case sub => walk_at "mine sub"); (case d => k_asm); (case r => k_asm); (case z => omega)); intro _ _ _ _ _ _ _ _ N9' _ _ _ _ h9'; (have _ := Mine.Hs.size h9'); (try dsimp only at N9'); (try k_sweep)) | ((with_reducible show wpAny _ _ (call (Value.ref _) _) _ _ _); k_here; (rename Mine.Mark => stopMark); (first | refine Mine.stop_call (by decide) ?_ | ((rename Mine.MarkU => stopMarkU); refine Mine.stop_callU (by decide) ?_))) | ((with_reducible show wpAny _ _ (callWith _ (Value.ref _) _ _ _) _ _ _); k_here; (rename Mine.HashAt _ _ _ => hHash9); k_dflt (refine' callWith_F ?k1 ?_; (case k1 => exact Mine.HashAt.fnAt hHash9 (by k_asm) (by walk_at "mine sub")); k_whole)) | ((with_reducible show wpAny _ _ (compareOp CmpOp.Eq (Value.bytes _ _) (Value.bytes _ _)) _ _ _); k_here; (rename Mine.Mark => stopMark); (first | refine Mine.eq_diff (by assumption) ?_ | refine Mine.eq_diff (fun e => absurd (Eq.trans e (by assumption)) (by assumption)) ?_ | refine Mine.eq_same (by k_dflt (first | rfl | assumption | exact Eq.trans (by assumption) (Eq.symm (by assumption)))) ?_)) | ((with_reducible show wpAny _ _ (compareOp CmpOp.Eq (Value.ref _) (Value.ref _)) _ _ _); k_here; (rename Mine.Mark => stopMark); (refine Mine.eq_TT (by k_asm) (by k_dflt (first | k_mem | walk_at "mine tail")) (by k_dflt (first | k_mem | walk_at "mine tail")) (by assumption) (by assumption) (by k_dflt (first | exact Nat.le_of_ble_eq_true rfl | ((have hcl9 := cLine_is); (simp only [units_under_make, units_in1, units_deeper, cLine] at *; omega)))) ?_)) | ((with_reducible show wpAny _ _ (execs (Stmt.If _ _ _ _ :: _) _) _ _ _); k_here; (rename Mine.MarkV => stopMarkV); refine Mine.stop_at ?_) | ((with_reducible show wpAny _ _ (getMethod (Value.ref _) (PySem.Str.ofString "get") _) _ _ _); k_here; (first | refine kdg_method (knd := PySem.intKind _ _) (by k_asm) (by k_mem) (by k_asm) ?_ | refine kdg_method (knd := PySem.W.bytesKind _ _) (by k_asm) (by (first | k_mem | walk_at "mine tail")) (by k_asm) ?_)) | ((with_reducible show wpAny _ _ (subscriptTail (Expr.Name _ _) (Expr.BinOp _ _ _ _) (Value.ref _) (Value.int _ _)) _ _ _); k_here; (rename Mine.MarkU => stopMarkU); k_dflt (refine' Mine.item_any ?N ?l ?v ?a ?b ?z ?_; (case N => k_asm); (case l => k_mem); (case v => (intro v hv; (repeat (first | exact absurd hv List.not_mem_nil | (rcases List.mem_cons.mp hv with rfl | hv; exact ⟨_, _, rfl⟩))))); (case a => omega); (case b => simp; omega); (case z => simp)); intro _ _) | walk1 | (dsimp only; walk1) | (leave1; walk_say "STEP leave1"; try dsimp only)))
    unfold Stop
    refine' useC ?frB ?h1B ?h2B ?h3B (c_octet w  ?BB ?FB ?XB ?TB ?hkB (cb_drop ?NB ?subB) (by omega) ?retB)
    case FB => k_asm
    case BB => k_asm
    case XB => k_asm
    case TB => k_asm
    case NB => k_asm
    case subB => walk_at "mine sub"
    case frB => exact rfl
    case h1B => exact rfl
    case hkB => exact rfl
    case h2B => (first | exact Nat.le_of_ble_eq_true rfl | ((simp only [depth_under_make, depth_in1, depth_deeper, units_under_make, units_in1, units_deeper]); exact Nat.le_of_ble_eq_true rfl))
    case h3B => (first | exact Nat.le_of_ble_eq_true rfl | ((simp only [depth_under_make, depth_in1, depth_deeper, units_under_make, units_in1, units_deeper]); exact Nat.le_of_ble_eq_true rfl))
    case retB =>
      intro u2 tu2 h3 tk3 F3 N3
      show wpAny _ _ _ _ _ _
      have hu2 := u2.toNat_lt
      (repeat' (first | (k_unfold; (try dsimp only)) | (k_end; wrow_close) | ((with_reducible show FnAt _ _); k_here; (rename Mine.HashAt _ _ _ => hHash9); k_dflt (exact Mine.HashAt.fnAt hHash9 (by k_asm) (by walk_at "mine sub"))) | ((with_reducible show wpAny _ _ (call (Value.builtin "dict.get") [Value.ref _, Value.bytes _ _, Value.bytes _ _]) _ _ _); k_here; k_dflt (refine' Mine.held_get ?N ?m ?d ?lo ?ok ?_; (case N => k_asm); (case m => (first | k_mem | walk_at "mine tail")); (case d => k_asm); (case lo => k_asm); (case ok => k_asm)); intro _ _ _ _) | ((with_reducible show wpAny _ _ (call (Value.ref _) [Value.bytes _ _]) _ _ _); k_here; (rename Mine.HashAt _ _ _ => hHash9); k_dflt (refine' Mine.hashU ?B ?F ?X ?N ?T ?fr ?h1 ?h2 ?h3 ?hk hHash9 ?off ?lo ?U ?sub ?d ?r ?z ?_; (case F => k_asm); (case B => k_asm); (case X => k_asm); (case N => k_asm); (case T => k_asm); (case fr => exact rfl); (case h1 => exact rfl); (case h2 => (first | exact Nat.le_of_ble_eq_true rfl | ((simp only [depth_under_make, depth_in1, depth_deeper, units_under_make, units_in1, units_deeper]); exact Nat.le_of_ble_eq_true rfl))); (case h3 => (first | exact Nat.le_of_ble_eq_true rfl | ((simp only [depth_under_make, depth_in1, depth_deeper, units_under_make, units_in1, units_deeper]); exact Nat.le_of_ble_eq_true rfl))); (case hk => exact rfl); (case off => assumption); (case lo => k_asm); (case U => k_updF); (case sub => walk_at "mine sub"); (case d => k_asm); (case r => k_asm); (case z => omega)); intro _ _ _ _ _ _ _ _ N9' _ _ _ _ h9'; (have _ := Mine.Hs.size h9'); (try dsimp only at N9'); (try k_sweep)) | ((with_reducible show wpAny _ _ (call (Value.ref _) _) _ _ _); k_here; (rename Mine.Mark => stopMark); (first | refine Mine.stop_call (by decide) ?_ | ((rename Mine.MarkU => stopMarkU); refine Mine.stop_callU (by decide) ?_))) | ((with_reducible show wpAny _ _ (callWith _ (Value.ref _) _ _ _) _ _ _); k_here; (rename Mine.HashAt _ _ _ => hHash9); k_dflt (refine' callWith_F ?k1 ?_; (case k1 => exact Mine.HashAt.fnAt hHash9 (by k_asm) (by walk_at "mine sub")); k_whole)) | ((with_reducible show wpAny _ _ (compareOp CmpOp.Eq (Value.bytes _ _) (Value.bytes _ _)) _ _ _); k_here; (rename Mine.Mark => stopMark); (first | refine Mine.eq_diff (by assumption) ?_ | refine Mine.eq_diff (fun e => absurd (Eq.trans e (by assumption)) (by assumption)) ?_ | refine Mine.eq_same (by k_dflt (first | rfl | assumption | exact Eq.trans (by assumption) (Eq.symm (by assumption)))) ?_)) | ((with_reducible show wpAny _ _ (compareOp CmpOp.Eq (Value.ref _) (Value.ref _)) _ _ _); k_here; (rename Mine.Mark => stopMark); (refine Mine.eq_TT (by k_asm) (by k_dflt (first | k_mem | walk_at "mine tail")) (by k_dflt (first | k_mem | walk_at "mine tail")) (by assumption) (by assumption) (by k_dflt (first | exact Nat.le_of_ble_eq_true rfl | ((have hcl9 := cLine_is); (simp only [units_under_make, units_in1, units_deeper, cLine] at *; omega)))) ?_)) | ((with_reducible show wpAny _ _ (execs (Stmt.If _ _ _ _ :: _) _) _ _ _); k_here; (rename Mine.MarkV => stopMarkV); refine Mine.stop_at ?_) | ((with_reducible show wpAny _ _ (getMethod (Value.ref _) (PySem.Str.ofString "get") _) _ _ _); k_here; (first | refine kdg_method (knd := PySem.intKind _ _) (by k_asm) (by k_mem) (by k_asm) ?_ | refine kdg_method (knd := PySem.W.bytesKind _ _) (by k_asm) (by (first | k_mem | walk_at "mine tail")) (by k_asm) ?_)) | ((with_reducible show wpAny _ _ (subscriptTail (Expr.Name _ _) (Expr.BinOp _ _ _ _) (Value.ref _) (Value.int _ _)) _ _ _); k_here; (rename Mine.MarkU => stopMarkU); k_dflt (refine' Mine.item_any ?N ?l ?v ?a ?b ?z ?_; (case N => k_asm); (case l => k_mem); (case v => (intro v hv; (repeat (first | exact absurd hv List.not_mem_nil | (rcases List.mem_cons.mp hv with rfl | hv; exact ⟨_, _, rfl⟩))))); (case a => omega); (case b => simp; omega); (case z => simp)); intro _ _) | walk1 | (dsimp only; walk1) | (leave1; walk_say "STEP leave1"; try dsimp only)))
      unfold Stop
      rename_i wa tw hZ FZ NZ
      have wa9 : Array UInt8 := wa
      clear wa9
      refine' useC ?frC ?h1C ?h2C ?h3C (c_beside w (kn := kn) (nd := nd) ?BC ?FC ?XC ?TC ?hkC (cb_drop ?NC ?subC) ?knC KA ?retC)
      case FC => k_asm
      case BC => k_asm
      case XC => k_asm
      case TC => k_asm
      case NC => k_asm
      case subC => walk_at "mine sub"
      case frC => exact rfl
      case h1C => exact rfl
      case hkC => exact rfl
      case h2C => (first | exact Nat.le_of_ble_eq_true rfl | ((simp only [depth_under_make, depth_in1, depth_deeper, units_under_make, units_in1, units_deeper]); exact Nat.le_of_ble_eq_true rfl))
      case h3C => (first | exact Nat.le_of_ble_eq_true rfl | ((simp only [depth_under_make, depth_in1, depth_deeper, units_under_make, units_in1, units_deeper]); exact Nat.le_of_ble_eq_true rfl))
      case knC => exact fun p hp => .tail _ (.tail _ (.tail _ (.tail _ (hkn p hp))))
      case retC =>
        intro bt bvs1 h4 tk4 F4 N4 hlt4 hbv1
        show wpAny _ _ _ _ _ _
        have hu1 := u1.toNat_lt
        (repeat' (first | (k_unfold; (try dsimp only)) | (k_end; wrow_close) | ((with_reducible show FnAt _ _); k_here; (rename Mine.HashAt _ _ _ => hHash9); k_dflt (exact Mine.HashAt.fnAt hHash9 (by k_asm) (by walk_at "mine sub"))) | ((with_reducible show wpAny _ _ (call (Value.builtin "dict.get") [Value.ref _, Value.bytes _ _, Value.bytes _ _]) _ _ _); k_here; k_dflt (refine' Mine.held_get ?N ?m ?d ?lo ?ok ?_; (case N => k_asm); (case m => (first | k_mem | walk_at "mine tail")); (case d => k_asm); (case lo => k_asm); (case ok => k_asm)); intro _ _ _ _) | ((with_reducible show wpAny _ _ (call (Value.ref _) [Value.bytes _ _]) _ _ _); k_here; (rename Mine.HashAt _ _ _ => hHash9); k_dflt (refine' Mine.hashU ?B ?F ?X ?N ?T ?fr ?h1 ?h2 ?h3 ?hk hHash9 ?off ?lo ?U ?sub ?d ?r ?z ?_; (case F => k_asm); (case B => k_asm); (case X => k_asm); (case N => k_asm); (case T => k_asm); (case fr => exact rfl); (case h1 => exact rfl); (case h2 => (first | exact Nat.le_of_ble_eq_true rfl | ((simp only [depth_under_make, depth_in1, depth_deeper, units_under_make, units_in1, units_deeper]); exact Nat.le_of_ble_eq_true rfl))); (case h3 => (first | exact Nat.le_of_ble_eq_true rfl | ((simp only [depth_under_make, depth_in1, depth_deeper, units_under_make, units_in1, units_deeper]); exact Nat.le_of_ble_eq_true rfl))); (case hk => exact rfl); (case off => assumption); (case lo => k_asm); (case U => k_updF); (case sub => walk_at "mine sub"); (case d => k_asm); (case r => k_asm); (case z => omega)); intro _ _ _ _ _ _ _ _ N9' _ _ _ _ h9'; (have _ := Mine.Hs.size h9'); (try dsimp only at N9'); (try k_sweep)) | ((with_reducible show wpAny _ _ (call (Value.ref _) _) _ _ _); k_here; (rename Mine.Mark => stopMark); (first | refine Mine.stop_call (by decide) ?_ | ((rename Mine.MarkU => stopMarkU); refine Mine.stop_callU (by decide) ?_))) | ((with_reducible show wpAny _ _ (callWith _ (Value.ref _) _ _ _) _ _ _); k_here; (rename Mine.HashAt _ _ _ => hHash9); k_dflt (refine' callWith_F ?k1 ?_; (case k1 => exact Mine.HashAt.fnAt hHash9 (by k_asm) (by walk_at "mine sub")); k_whole)) | ((with_reducible show wpAny _ _ (compareOp CmpOp.Eq (Value.bytes _ _) (Value.bytes _ _)) _ _ _); k_here; (rename Mine.Mark => stopMark); (first | refine Mine.eq_diff (by assumption) ?_ | refine Mine.eq_diff (fun e => absurd (Eq.trans e (by assumption)) (by assumption)) ?_ | refine Mine.eq_same (by k_dflt (first | rfl | assumption | exact Eq.trans (by assumption) (Eq.symm (by assumption)))) ?_)) | ((with_reducible show wpAny _ _ (compareOp CmpOp.Eq (Value.ref _) (Value.ref _)) _ _ _); k_here; (rename Mine.Mark => stopMark); (refine Mine.eq_TT (by k_asm) (by k_dflt (first | k_mem | walk_at "mine tail")) (by k_dflt (first | k_mem | walk_at "mine tail")) (by assumption) (by assumption) (by k_dflt (first | exact Nat.le_of_ble_eq_true rfl | ((have hcl9 := cLine_is); (simp only [units_under_make, units_in1, units_deeper, cLine] at *; omega)))) ?_)) | ((with_reducible show wpAny _ _ (execs (Stmt.If _ _ _ _ :: _) _) _ _ _); k_here; (rename Mine.MarkV => stopMarkV); refine Mine.stop_at ?_) | ((with_reducible show wpAny _ _ (getMethod (Value.ref _) (PySem.Str.ofString "get") _) _ _ _); k_here; (first | refine kdg_method (knd := PySem.intKind _ _) (by k_asm) (by k_mem) (by k_asm) ?_ | refine kdg_method (knd := PySem.W.bytesKind _ _) (by k_asm) (by (first | k_mem | walk_at "mine tail")) (by k_asm) ?_)) | ((with_reducible show wpAny _ _ (subscriptTail (Expr.Name _ _) (Expr.BinOp _ _ _ _) (Value.ref _) (Value.int _ _)) _ _ _); k_here; (rename Mine.MarkU => stopMarkU); k_dflt (refine' Mine.item_any ?N ?l ?v ?a ?b ?z ?_; (case N => k_asm); (case l => k_mem); (case v => (intro v hv; (repeat (first | exact absurd hv List.not_mem_nil | (rcases List.mem_cons.mp hv with rfl | hv; exact ⟨_, _, rfl⟩))))); (case a => omega); (case b => simp; omega); (case z => simp)); intro _ _) | walk1 | (dsimp only; walk1) | (leave1; walk_say "STEP leave1"; try dsimp only)))
        unfold Stop
        (rename RegIs _ _ => hr1); (rename Obj.IsDictOf _ _ _ => hd1); (rename List.IsPrefix _ _ => hp1); (rename List.length _ ≤ List.length _ + 1 => hl1)
        refine' useC ?frD ?h1D ?h2D ?h3D (c_rows w (T8 := bt) (bvs := bvs1) (bs := beside nd u1.toNat) ?BD ?FD ?XD ?TD ?hkD (cb_drop ?ND ?subD) hbv1 (beside_length _ _) (beside_100 hnd hu1) (by omega) hn ?retD)
        case FD => k_asm
        case BD => k_asm
        case XD => k_asm
        case TD => k_asm
        case ND => k_asm
        case subD => walk_at "mine sub"
        case frD => exact rfl
        case h1D => exact rfl
        case hkD => exact rfl
        case h2D => (first | exact Nat.le_of_ble_eq_true rfl | ((simp only [depth_under_make, depth_in1, depth_deeper, units_under_make, units_in1, units_deeper]); exact Nat.le_of_ble_eq_true rfl))
        case h3D => (first | exact Nat.le_of_ble_eq_true rfl | ((simp only [depth_under_make, depth_in1, depth_deeper, units_under_make, units_in1, units_deeper]); exact Nat.le_of_ble_eq_true rfl))
        case retD =>
          intro XR rvs rs h5 tk5 F5 N5 hrv hr8 hrz
          show wpAny _ _ _ _ _ _
          by_cases hq : wa.toList = heldVal kvh da.toList u2.toNat
          · (repeat' (first | (k_unfold; (try dsimp only)) | (k_end; wrow_close) | ((with_reducible show FnAt _ _); k_here; (rename Mine.HashAt _ _ _ => hHash9); k_dflt (exact Mine.HashAt.fnAt hHash9 (by k_asm) (by walk_at "mine sub"))) | ((with_reducible show wpAny _ _ (call (Value.builtin "dict.get") [Value.ref _, Value.bytes _ _, Value.bytes _ _]) _ _ _); k_here; k_dflt (refine' Mine.held_get ?N ?m ?d ?lo ?ok ?_; (case N => k_asm); (case m => (first | k_mem | walk_at "mine tail")); (case d => k_asm); (case lo => k_asm); (case ok => k_asm)); intro _ _ _ _) | ((with_reducible show wpAny _ _ (call (Value.ref _) [Value.bytes _ _]) _ _ _); k_here; (rename Mine.HashAt _ _ _ => hHash9); k_dflt (refine' Mine.hashU ?B ?F ?X ?N ?T ?fr ?h1 ?h2 ?h3 ?hk hHash9 ?off ?lo ?U ?sub ?d ?r ?z ?_; (case F => k_asm); (case B => k_asm); (case X => k_asm); (case N => k_asm); (case T => k_asm); (case fr => exact rfl); (case h1 => exact rfl); (case h2 => (first | exact Nat.le_of_ble_eq_true rfl | ((simp only [depth_under_make, depth_in1, depth_deeper, units_under_make, units_in1, units_deeper]); exact Nat.le_of_ble_eq_true rfl))); (case h3 => (first | exact Nat.le_of_ble_eq_true rfl | ((simp only [depth_under_make, depth_in1, depth_deeper, units_under_make, units_in1, units_deeper]); exact Nat.le_of_ble_eq_true rfl))); (case hk => exact rfl); (case off => assumption); (case lo => k_asm); (case U => k_updF); (case sub => walk_at "mine sub"); (case d => k_asm); (case r => k_asm); (case z => omega)); intro _ _ _ _ _ _ _ _ N9' _ _ _ _ h9'; (have _ := Mine.Hs.size h9'); (try dsimp only at N9'); (try k_sweep)) | ((with_reducible show wpAny _ _ (call (Value.ref _) _) _ _ _); k_here; (rename Mine.Mark => stopMark); (first | refine Mine.stop_call (by decide) ?_ | ((rename Mine.MarkU => stopMarkU); refine Mine.stop_callU (by decide) ?_))) | ((with_reducible show wpAny _ _ (callWith _ (Value.ref _) _ _ _) _ _ _); k_here; (rename Mine.HashAt _ _ _ => hHash9); k_dflt (refine' callWith_F ?k1 ?_; (case k1 => exact Mine.HashAt.fnAt hHash9 (by k_asm) (by walk_at "mine sub")); k_whole)) | ((with_reducible show wpAny _ _ (compareOp CmpOp.Eq (Value.bytes _ _) (Value.bytes _ _)) _ _ _); k_here; (rename Mine.Mark => stopMark); (first | refine Mine.eq_diff (by assumption) ?_ | refine Mine.eq_diff (fun e => absurd (Eq.trans e (by assumption)) (by assumption)) ?_ | refine Mine.eq_same (by k_dflt (first | rfl | assumption | exact Eq.trans (by assumption) (Eq.symm (by assumption)))) ?_)) | ((with_reducible show wpAny _ _ (compareOp CmpOp.Eq (Value.ref _) (Value.ref _)) _ _ _); k_here; (rename Mine.Mark => stopMark); (refine Mine.eq_TT (by k_asm) (by k_dflt (first | k_mem | walk_at "mine tail")) (by k_dflt (first | k_mem | walk_at "mine tail")) (by assumption) (by assumption) (by k_dflt (first | exact Nat.le_of_ble_eq_true rfl | ((have hcl9 := cLine_is); (simp only [units_under_make, units_in1, units_deeper, cLine] at *; omega)))) ?_)) | ((with_reducible show wpAny _ _ (execs (Stmt.If _ _ _ _ :: _) _) _ _ _); k_here; (rename Mine.MarkV => stopMarkV); refine Mine.stop_at ?_) | ((with_reducible show wpAny _ _ (getMethod (Value.ref _) (PySem.Str.ofString "get") _) _ _ _); k_here; (first | refine kdg_method (knd := PySem.intKind _ _) (by k_asm) (by k_mem) (by k_asm) ?_ | refine kdg_method (knd := PySem.W.bytesKind _ _) (by k_asm) (by (first | k_mem | walk_at "mine tail")) (by k_asm) ?_)) | ((with_reducible show wpAny _ _ (subscriptTail (Expr.Name _ _) (Expr.BinOp _ _ _ _) (Value.ref _) (Value.int _ _)) _ _ _); k_here; (rename Mine.MarkU => stopMarkU); k_dflt (refine' Mine.item_any ?N ?l ?v ?a ?b ?z ?_; (case N => k_asm); (case l => k_mem); (case v => (intro v hv; (repeat (first | exact absurd hv List.not_mem_nil | (rcases List.mem_cons.mp hv with rfl | hv; exact ⟨_, _, rfl⟩))))); (case a => omega); (case b => simp; omega); (case z => simp)); intro _ _) | walk1 | (dsimp only; walk1) | (leave1; walk_say "STEP leave1"; try dsimp only)))
            unfold Stop
            refine' useC ?frE ?h1E ?h2E ?h3E (c_beside w (kn := kn) (nd := nd) ?BE ?FE ?XE ?TE ?hkE (cb_drop ?NE ?subE) ?knE KA ?retE)
            case FE => k_asm
            case BE => k_asm
            case XE => k_asm
            case TE => k_asm
            case NE => k_asm
            case subE => walk_at "mine sub"
            case frE => exact rfl
            case h1E => exact rfl
            case hkE => exact rfl
            case h2E => (first | exact Nat.le_of_ble_eq_true rfl | ((simp only [depth_under_make, depth_in1, depth_deeper, units_under_make, units_in1, units_deeper]); exact Nat.le_of_ble_eq_true rfl))
            case h3E => (first | exact Nat.le_of_ble_eq_true rfl | ((simp only [depth_under_make, depth_in1, depth_deeper, units_under_make, units_in1, units_deeper]); exact Nat.le_of_ble_eq_true rfl))
            case knE => exact fun p hp => .tail _ (.tail _ (.tail _ (.tail _ (.tail _ (.tail _ (hkn p hp))))))
            case retE =>
              intro bt2 bvs2 h6 tk6 F6 N6 hlt6 hbv2
              show wpAny _ _ _ _ _ _
              (repeat' (first | (k_unfold; (try dsimp only)) | (k_end; wrow_close) | ((with_reducible show FnAt _ _); k_here; (rename Mine.HashAt _ _ _ => hHash9); k_dflt (exact Mine.HashAt.fnAt hHash9 (by k_asm) (by walk_at "mine sub"))) | ((with_reducible show wpAny _ _ (call (Value.builtin "dict.get") [Value.ref _, Value.bytes _ _, Value.bytes _ _]) _ _ _); k_here; k_dflt (refine' Mine.held_get ?N ?m ?d ?lo ?ok ?_; (case N => k_asm); (case m => (first | k_mem | walk_at "mine tail")); (case d => k_asm); (case lo => k_asm); (case ok => k_asm)); intro _ _ _ _) | ((with_reducible show wpAny _ _ (call (Value.ref _) [Value.bytes _ _]) _ _ _); k_here; (rename Mine.HashAt _ _ _ => hHash9); k_dflt (refine' Mine.hashU ?B ?F ?X ?N ?T ?fr ?h1 ?h2 ?h3 ?hk hHash9 ?off ?lo ?U ?sub ?d ?r ?z ?_; (case F => k_asm); (case B => k_asm); (case X => k_asm); (case N => k_asm); (case T => k_asm); (case fr => exact rfl); (case h1 => exact rfl); (case h2 => (first | exact Nat.le_of_ble_eq_true rfl | ((simp only [depth_under_make, depth_in1, depth_deeper, units_under_make, units_in1, units_deeper]); exact Nat.le_of_ble_eq_true rfl))); (case h3 => (first | exact Nat.le_of_ble_eq_true rfl | ((simp only [depth_under_make, depth_in1, depth_deeper, units_under_make, units_in1, units_deeper]); exact Nat.le_of_ble_eq_true rfl))); (case hk => exact rfl); (case off => assumption); (case lo => k_asm); (case U => k_updF); (case sub => walk_at "mine sub"); (case d => k_asm); (case r => k_asm); (case z => omega)); intro _ _ _ _ _ _ _ _ N9' _ _ _ _ h9'; (have _ := Mine.Hs.size h9'); (try dsimp only at N9'); (try k_sweep)) | ((with_reducible show wpAny _ _ (call (Value.ref _) _) _ _ _); k_here; (rename Mine.Mark => stopMark); (first | refine Mine.stop_call (by decide) ?_ | ((rename Mine.MarkU => stopMarkU); refine Mine.stop_callU (by decide) ?_))) | ((with_reducible show wpAny _ _ (callWith _ (Value.ref _) _ _ _) _ _ _); k_here; (rename Mine.HashAt _ _ _ => hHash9); k_dflt (refine' callWith_F ?k1 ?_; (case k1 => exact Mine.HashAt.fnAt hHash9 (by k_asm) (by walk_at "mine sub")); k_whole)) | ((with_reducible show wpAny _ _ (compareOp CmpOp.Eq (Value.bytes _ _) (Value.bytes _ _)) _ _ _); k_here; (rename Mine.Mark => stopMark); (first | refine Mine.eq_diff (by assumption) ?_ | refine Mine.eq_diff (fun e => absurd (Eq.trans e (by assumption)) (by assumption)) ?_ | refine Mine.eq_same (by k_dflt (first | rfl | assumption | exact Eq.trans (by assumption) (Eq.symm (by assumption)))) ?_)) | ((with_reducible show wpAny _ _ (compareOp CmpOp.Eq (Value.ref _) (Value.ref _)) _ _ _); k_here; (rename Mine.Mark => stopMark); (refine Mine.eq_TT (by k_asm) (by k_dflt (first | k_mem | walk_at "mine tail")) (by k_dflt (first | k_mem | walk_at "mine tail")) (by assumption) (by assumption) (by k_dflt (first | exact Nat.le_of_ble_eq_true rfl | ((have hcl9 := cLine_is); (simp only [units_under_make, units_in1, units_deeper, cLine] at *; omega)))) ?_)) | ((with_reducible show wpAny _ _ (execs (Stmt.If _ _ _ _ :: _) _) _ _ _); k_here; (rename Mine.MarkV => stopMarkV); refine Mine.stop_at ?_) | ((with_reducible show wpAny _ _ (getMethod (Value.ref _) (PySem.Str.ofString "get") _) _ _ _); k_here; (first | refine kdg_method (knd := PySem.intKind _ _) (by k_asm) (by k_mem) (by k_asm) ?_ | refine kdg_method (knd := PySem.W.bytesKind _ _) (by k_asm) (by (first | k_mem | walk_at "mine tail")) (by k_asm) ?_)) | ((with_reducible show wpAny _ _ (subscriptTail (Expr.Name _ _) (Expr.BinOp _ _ _ _) (Value.ref _) (Value.int _ _)) _ _ _); k_here; (rename Mine.MarkU => stopMarkU); k_dflt (refine' Mine.item_any ?N ?l ?v ?a ?b ?z ?_; (case N => k_asm); (case l => k_mem); (case v => (intro v hv; (repeat (first | exact absurd hv List.not_mem_nil | (rcases List.mem_cons.mp hv with rfl | hv; exact ⟨_, _, rfl⟩))))); (case a => omega); (case b => simp; omega); (case z => simp)); intro _ _) | walk1 | (dsimp only; walk1) | (leave1; walk_say "STEP leave1"; try dsimp only)))
              unfold Stop
              exact law_tail3 w (XR := XR) (x := x) (t := t) (td := td) (db := db) (r := r) (root := root) (tr := tr) (dflt := .bytes da dt) (rvs := rvs) (rs := rs) (nd := nd) (val := heldVal kvh da.toList) (u2 := u2) (wa := wa) (b := decide (rs = beside nd u2.toNat)) (by k_asm) (by k_asm) (by k_asm) (by k_asm) hE (by exact cb_drop (by k_asm) (by walk_at "mine sub")) hoff hne hlo H hd1 hr1 (by omega) (hnd.mono hp1) hroot hrv hr8 hrz (decide_eq_true_iff.trans ⟨fun e => ⟨hq, e⟩, And.right⟩)
                  (by exact rfl) (by exact rfl) (by exact rfl) (by exact rfl) (by exact rfl) (by exact rfl) (by exact rfl) fun m' h' tk' F9 N9 => ret m' h' tk' F9 (cb_drop N9 (by walk_at "mine sub"))
          · (repeat' (first | (k_unfold; (try dsimp only)) | (k_end; wrow_close) | ((with_reducible show FnAt _ _); k_here; (rename Mine.HashAt _ _ _ => hHash9); k_dflt (exact Mine.HashAt.fnAt hHash9 (by k_asm) (by walk_at "mine sub"))) | ((with_reducible show wpAny _ _ (call (Value.builtin "dict.get") [Value.ref _, Value.bytes _ _, Value.bytes _ _]) _ _ _); k_here; k_dflt (refine' Mine.held_get ?N ?m ?d ?lo ?ok ?_; (case N => k_asm); (case m => (first | k_mem | walk_at "mine tail")); (case d => k_asm); (case lo => k_asm); (case ok => k_asm)); intro _ _ _ _) | ((with_reducible show wpAny _ _ (call (Value.ref _) [Value.bytes _ _]) _ _ _); k_here; (rename Mine.HashAt _ _ _ => hHash9); k_dflt (refine' Mine.hashU ?B ?F ?X ?N ?T ?fr ?h1 ?h2 ?h3 ?hk hHash9 ?off ?lo ?U ?sub ?d ?r ?z ?_; (case F => k_asm); (case B => k_asm); (case X => k_asm); (case N => k_asm); (case T => k_asm); (case fr => exact rfl); (case h1 => exact rfl); (case h2 => (first | exact Nat.le_of_ble_eq_true rfl | ((simp only [depth_under_make, depth_in1, depth_deeper, units_under_make, units_in1, units_deeper]); exact Nat.le_of_ble_eq_true rfl))); (case h3 => (first | exact Nat.le_of_ble_eq_true rfl | ((simp only [depth_under_make, depth_in1, depth_deeper, units_under_make, units_in1, units_deeper]); exact Nat.le_of_ble_eq_true rfl))); (case hk => exact rfl); (case off => assumption); (case lo => k_asm); (case U => k_updF); (case sub => walk_at "mine sub"); (case d => k_asm); (case r => k_asm); (case z => omega)); intro _ _ _ _ _ _ _ _ N9' _ _ _ _ h9'; (have _ := Mine.Hs.size h9'); (try dsimp only at N9'); (try k_sweep)) | ((with_reducible show wpAny _ _ (call (Value.ref _) _) _ _ _); k_here; (rename Mine.Mark => stopMark); (first | refine Mine.stop_call (by decide) ?_ | ((rename Mine.MarkU => stopMarkU); refine Mine.stop_callU (by decide) ?_))) | ((with_reducible show wpAny _ _ (callWith _ (Value.ref _) _ _ _) _ _ _); k_here; (rename Mine.HashAt _ _ _ => hHash9); k_dflt (refine' callWith_F ?k1 ?_; (case k1 => exact Mine.HashAt.fnAt hHash9 (by k_asm) (by walk_at "mine sub")); k_whole)) | ((with_reducible show wpAny _ _ (compareOp CmpOp.Eq (Value.bytes _ _) (Value.bytes _ _)) _ _ _); k_here; (rename Mine.Mark => stopMark); (first | refine Mine.eq_diff (by assumption) ?_ | refine Mine.eq_diff (fun e => absurd (Eq.trans e (by assumption)) (by assumption)) ?_ | refine Mine.eq_same (by k_dflt (first | rfl | assumption | exact Eq.trans (by assumption) (Eq.symm (by assumption)))) ?_)) | ((with_reducible show wpAny _ _ (compareOp CmpOp.Eq (Value.ref _) (Value.ref _)) _ _ _); k_here; (rename Mine.Mark => stopMark); (refine Mine.eq_TT (by k_asm) (by k_dflt (first | k_mem | walk_at "mine tail")) (by k_dflt (first | k_mem | walk_at "mine tail")) (by assumption) (by assumption) (by k_dflt (first | exact Nat.le_of_ble_eq_true rfl | ((have hcl9 := cLine_is); (simp only [units_under_make, units_in1, units_deeper, cLine] at *; omega)))) ?_)) | ((with_reducible show wpAny _ _ (execs (Stmt.If _ _ _ _ :: _) _) _ _ _); k_here; (rename Mine.MarkV => stopMarkV); refine Mine.stop_at ?_) | ((with_reducible show wpAny _ _ (getMethod (Value.ref _) (PySem.Str.ofString "get") _) _ _ _); k_here; (first | refine kdg_method (knd := PySem.intKind _ _) (by k_asm) (by k_mem) (by k_asm) ?_ | refine kdg_method (knd := PySem.W.bytesKind _ _) (by k_asm) (by (first | k_mem | walk_at "mine tail")) (by k_asm) ?_)) | ((with_reducible show wpAny _ _ (subscriptTail (Expr.Name _ _) (Expr.BinOp _ _ _ _) (Value.ref _) (Value.int _ _)) _ _ _); k_here; (rename Mine.MarkU => stopMarkU); k_dflt (refine' Mine.item_any ?N ?l ?v ?a ?b ?z ?_; (case N => k_asm); (case l => k_mem); (case v => (intro v hv; (repeat (first | exact absurd hv List.not_mem_nil | (rcases List.mem_cons.mp hv with rfl | hv; exact ⟨_, _, rfl⟩))))); (case a => omega); (case b => simp; omega); (case z => simp)); intro _ _) | walk1 | (dsimp only; walk1) | (leave1; walk_say "STEP leave1"; try dsimp only)))
            unfold Stop
            exact law_tail3 w (XR := XR) (x := x) (t := t) (td := td) (db := db) (r := r) (root := root) (tr := tr) (dflt := .bytes da dt) (rvs := rvs) (rs := rs) (nd := nd) (val := heldVal kvh da.toList) (u2 := u2) (wa := wa) (b := false) (by k_asm) (by k_asm) (by k_asm) (by k_asm) hE (by exact cb_drop (by k_asm) (by walk_at "mine sub")) hoff hne hlo H hd1 hr1 (by omega) (hnd.mono hp1) hroot hrv hr8 hrz ⟨fun e => (nomatch e), fun e => absurd e.1 hq⟩
                (by exact rfl) (by exact rfl) (by exact rfl) (by exact rfl) (by exact rfl) (by exact rfl) (by exact rfl) fun m' h' tk' F9 N9 => ret m' h' tk' F9 (cb_drop N9 (by walk_at "mine sub"))
end Mine
namespace Mine
set_option maxHeartbeats 8000000 in
theorem law_tail1 (w : World) {gd : Option (List Code)} {a : Addr} {ccd : Value} {A₀ : Around} {h₀ : Heap} {L : Addr} {m mg mb : Str → Option Value}
    {p : Program} {loose : List Str} {mean : ExcName → Option Value} {s : Shared} {Q : Flow → Shared → Prop} {E : Value → Shared → Prop} {base : List (Addr × Obj)} {f r hl t td db bl pd pf : Addr} {x : TD} {y : PD} {da va root : Array UInt8} {dt tv tr tk1 : Tok} {um : UInt8} {bvs : List Value} {c : Nat} {od odb oh : Obj} {kvs kvd kvh : List (By × Value)} {reg : List By} {nd : Nat → Nat → By} {sc : Addr} {svs : List Value} {ns : List Int} {n1 : Int} {tf : Tok}
    (B : Below A₀ h₀ [] h₀) (F : Fr h₀ L s.heap m) (X : (Mine.z.heap_1_39 w.params).In h₀) (T : Top p loose mean mg mb h₀) (hE : PassesOwn (model PySem.Challenge.rw_iu0037_01.row.prog w) (ctop 302 7 gd (Str.ofString "law") lawScope L a ccd [] []) (envOf (Str.ofString "law") lawScope L a ccd) E)
    (N : News h₀ L s.heap ((t, instObj 214 td) :: (td, tdOf x (.bytes da dt) f db (.bytes root tr)) :: (db, odb) :: (r, od) :: (hl, oh) :: (bl, W.listOf bvs.toArray c) :: (pd, pdOf y (.bytes #[um] tk1) (.bytes va tv) bl f) :: (pf, instObj 111 pd) :: base)) (ap : Ap td db r hl bl pd base) (H : HashAt base f r)
    (hd : od.IsDictOf (bytesKind PySem.Challenge.rw_iu0037_01.row.prog w) kvs) (hr : RegIs kvs reg) (hdb : odb.IsDictOf (bytesKind PySem.Challenge.rw_iu0037_01.row.prog w) kvd)
    (D : DbOk reg kvd (heldVal kvh da.toList) nd) (hroot : root.toList = nd 8 0) (hh : oh.IsDictOf (bytesKind PySem.Challenge.rw_iu0037_01.row.prog w) kvh) (hok : HeldOk kvh)
    (hb : BsAre bvs (beside nd um.toNat)) (hva : va.toList = heldVal kvh da.toList um.toNat)
    (hz : reg.length ≤ 700000) (hhz : kvh.length ≤ 20) (hsc : h₀.IsList sc svs.toArray) (hI : IntsAre svs ns) (hns : ns.length ≤ 63) (hn1 : 0 ≤ n1)
    (m1 : m (Str.ofString "proof") = some (.ref pf)) (m2 : m (Str.ofString "tree") = some (.ref t)) (m3 : m (Str.ofString "script") = some (.ref sc)) (m4 : m (Str.ofString "first") = some (.int n1 tf))
    (m7 : m (Str.ofString "held") = some (.ref hl)) (m8 : m (Str.ofString "default") = some (.bytes da dt)) (m9 : m (Str.ofString "hash_of") = some (.ref f))
    (ret : ∀ m' h' tk', Fr h₀ L h' m' → News h₀ L h' base → Q (.ret (.bool true)) { s with heap := h', toks := tk' }) :
    wpAny (model PySem.Challenge.rw_iu0037_01.row.prog w) (ctop 302 7 gd (Str.ofString "law") lawScope L a ccd [] []) (execs tailB (envOf (Str.ofString "law") lawScope L a ccd)) Q E s := by
  obtain ⟨n1', n2, n3, n4, n5, n6, n7, n8, n9, n10, b1, b2, b3, b4, b5, b6, lo, lo2⟩ := ap
  revert X; k_fill; w_top off; intro X
  have mk9 := Mark.mk
  have mkU := MarkU.mk
  have mkK := MarkK.mk
  have hb8 : bvs.length = 8 := by rw [hb.length, beside_length]
  have hum := um.toNat_lt
  have hm := see_all [(Str.ofString "proof", .ref pf), (Str.ofString "tree", .ref t), (Str.ofString "script", .ref sc), (Str.ofString "first", .int n1 tf), (Str.ofString "held", .ref hl), (Str.ofString "default", .bytes da dt), (Str.ofString "hash_of", .ref f)]
    (List.forall_mem_cons.mpr ⟨m1, List.forall_mem_cons.mpr ⟨m2, List.forall_mem_cons.mpr ⟨m3, List.forall_mem_cons.mpr ⟨m4, List.forall_mem_cons.mpr ⟨m7, List.forall_mem_cons.mpr ⟨m8, List.forall_mem_cons.mpr ⟨m9, List.forall_mem_nil _⟩⟩⟩⟩⟩⟩⟩)
  rw [hm] at F
  clear hm
  (repeat' (first | (k_unfold; (try dsimp only)) | (k_end; wrow_close) | ((with_reducible show wpAny _ _ (call (Value.ref _) _) _ _ _); k_here; (rename Mine.Mark => stopMark); (first | refine Mine.stop_call (by decide) ?_ | ((rename Mine.MarkU => stopMarkU); refine Mine.stop_callU (by decide) ?_))) | ((with_reducible show wpAny _ _ (call (Value.type "tuple") [Value.ref _]) _ _ _); k_here; (refine' Mine.tuple_L ?F ?N ?l ?z ?_; (case F => k_asm); (case N => k_asm); (case l => k_dflt k_mem); (case z => omega)); intro _ _ _ _ l9'; (try k_lt l9'); (try k_sweep)) | ((with_reducible show wpAny _ _ (compareOp CmpOp.NotEq (Value.bytes _ _) (Value.bytes _ _)) _ _ _); k_here; (rename Mine.Mark => stopMark); (refine Mine.ne_same (by k_dflt (first | rfl | assumption | exact Eq.trans (by assumption) (Eq.symm (by assumption)))) ?_)) | ((with_reducible show wpAny _ _ (execs (Stmt.Assign [Expr.Name (PySem.Str.ofString "key") _] _ _ :: _) _) _ _ _); k_here; (rename Mine.MarkK => stopMarkK); refine Mine.stop_at ?_) | walk1 | (dsimp only; walk1) | (leave1; walk_say "STEP leave1"; try dsimp only)))
  unfold Stop
  refine' useC ?frA ?h1A ?h2A ?h3A (c_calc w (rest := (t, instObj 214 td) :: (td, tdOf x (.bytes da dt) f db (.bytes root tr)) :: (db, odb) :: (hl, oh) :: (bl, W.listOf bvs.toArray c) :: (pd, pdOf y (.bytes #[um] tk1) (.bytes va tv) bl f) :: (pf, instObj 111 pd) :: base) (bs := beside nd um.toNat) ?BA ?FA ?XA ?TA ?hkA (cb_drop ?NA ?subA) ?hoffA lo ?HA hd hr (by omega) hb (beside_length _ _) (beside_small D.nodes hum) ?retA)
  case FA => k_asm
  case BA => k_asm
  case XA => k_asm
  case TA => k_asm
  case NA => k_asm
  case subA => walk_at "mine sub"
  case frA => exact rfl
  case h1A => exact rfl
  case hkA => exact rfl
  case h2A => (first | exact Nat.le_of_ble_eq_true rfl | ((simp only [depth_under_make, depth_in1, depth_deeper, units_under_make, units_in1, units_deeper]); exact Nat.le_of_ble_eq_true rfl))
  case h3A => (first | exact Nat.le_of_ble_eq_true rfl | ((simp only [depth_under_make, depth_in1, depth_deeper, units_under_make, units_in1, units_deeper]); exact Nat.le_of_ble_eq_true rfl))
  case hoffA => k_all
  case HA => exact H.mono fun p hp => .tail _ (.tail _ (.tail _ (.tail _ (.tail _ (.tail _ (.tail _ hp))))))
  case retA =>
    intro rb trb od2 kvs2 reg2 hs h2 tk2 F2 N2 hd2 hr2 hp2 hl2 hw hrb
    dsimp only
    rw [hw.root hr2.nodup (D.nodes.mono hp2) hum hva] at hrb
    (repeat' (first | (k_unfold; (try dsimp only)) | (k_end; wrow_close) | ((with_reducible show wpAny _ _ (call (Value.ref _) _) _ _ _); k_here; (rename Mine.Mark => stopMark); (first | refine Mine.stop_call (by decide) ?_ | ((rename Mine.MarkU => stopMarkU); refine Mine.stop_callU (by decide) ?_))) | ((with_reducible show wpAny _ _ (call (Value.type "tuple") [Value.ref _]) _ _ _); k_here; (refine' Mine.tuple_L ?F ?N ?l ?z ?_; (case F => k_asm); (case N => k_asm); (case l => k_dflt k_mem); (case z => omega)); intro _ _ _ _ l9'; (try k_lt l9'); (try k_sweep)) | ((with_reducible show wpAny _ _ (compareOp CmpOp.NotEq (Value.bytes _ _) (Value.bytes _ _)) _ _ _); k_here; (rename Mine.Mark => stopMark); (refine Mine.ne_same (by k_dflt (first | rfl | assumption | exact Eq.trans (by assumption) (Eq.symm (by assumption)))) ?_)) | ((with_reducible show wpAny _ _ (execs (Stmt.Assign [Expr.Name (PySem.Str.ofString "key") _] _ _ :: _) _) _ _ _); k_here; (rename Mine.MarkK => stopMarkK); refine Mine.stop_at ?_) | walk1 | (dsimp only; walk1) | (leave1; walk_say "STEP leave1"; try dsimp only)))
    unfold Stop
    have hoff0 : ∀ p ∈ ((t, instObj 214 td) :: (td, tdOf x (.bytes da dt) f db (.bytes root tr)) :: (db, odb) :: (hl, oh) :: (bl, W.listOf bvs.toArray c) :: (pd, pdOf y (.bytes #[um] tk1) (.bytes va tv) bl f) :: (pf, instObj 111 pd) :: base : List (Addr × Obj)), p.1 ≠ r := by k_all
    refine' useC ?frB ?h1B ?h2B ?h3B (c_levels w (rest := (t, instObj 214 td) :: (td, tdOf x (.bytes da dt) f db (.bytes root tr)) :: (db, odb) :: (hl, oh) :: (bl, W.listOf bvs.toArray c) :: (pd, pdOf y (.bytes #[um] tk1) (.bytes va tv) bl f) :: (pf, instObj 111 pd) :: base) (hl := hl) ?BB ?FB ?XB ?TB ?hkB (cb_drop ?NB ?subB) ?hoffB lo ?HB hd2 hr2 (by omega) ?hmemB hh lo2 hok hhz ?retB)
    case FB => k_asm
    case BB => k_asm
    case XB => k_asm
    case TB => k_asm
    case NB => k_asm
    case subB => walk_at "mine sub"
    case frB => exact rfl
    case h1B => exact rfl
    case hkB => exact rfl
    case h2B => (first | exact Nat.le_of_ble_eq_true rfl | ((simp only [depth_under_make, depth_in1, depth_deeper, units_under_make, units_in1, units_deeper]); exact Nat.le_of_ble_eq_true rfl))
    case h3B => (first | exact Nat.le_of_ble_eq_true rfl | ((simp only [depth_under_make, depth_in1, depth_deeper, units_under_make, units_in1, units_deeper]); exact Nat.le_of_ble_eq_true rfl))
    case hoffB => exact hoff0
    case HB => exact H.mono fun p hp => .tail _ (.tail _ (.tail _ (.tail _ (.tail _ (.tail _ (.tail _ hp))))))
    case hmemB => k_dflt k_mem
    case retB =>
      intro kt kn nd2 od3 kvs3 reg3 h3 tk3 F3 N3 hlt KA hd3 hr3 hp3 hl3 hN3
      show wpAny _ _ _ _ _ _
      have e2 : nd2 8 0 = nd 8 0 := hN3.uniq hr3.nodup (D.nodes.mono (hp2.trans hp3)) 8 0 (by omega) (by decide)
      have hroot2 : root.toList = nd2 8 0 := hroot.trans e2.symm
      obtain ⟨tl, htl⟩ : ∃ tl, tl = kn ++ ((t, instObj 214 td) :: (td, tdOf x (.bytes da dt) f db (.bytes root tr)) :: (db, odb) :: (hl, oh) :: (bl, W.listOf bvs.toArray c) :: (pd, pdOf y (.bytes #[um] tk1) (.bytes va tv) bl f) :: (pf, instObj 111 pd) :: base) := ⟨_, rfl⟩
      have hreT : ∀ p ∈ ((t, instObj 214 td) :: (td, tdOf x (.bytes da dt) f db (.bytes root tr)) :: (db, odb) :: (hl, oh) :: (bl, W.listOf bvs.toArray c) :: (pd, pdOf y (.bytes #[um] tk1) (.bytes va tv) bl f) :: (pf, instObj 111 pd) :: base : List (Addr × Obj)), p ∈ tl := fun p hp => htl ▸ List.mem_append_right _ hp
      have hknT : ∀ p ∈ kn, p ∈ tl := fun p hp => htl ▸ List.mem_append_left _ hp
      have hoffT : ∀ p ∈ tl, p.1 ≠ r := by
        rw [htl]
        exact forall_app (fun p hp => Nat.ne_of_gt (hlt p hp _ (.head _))) hoff0
      have HT : HashAt tl f r := H.mono fun p hp => hreT _ (.tail _ (.tail _ (.tail _ (.tail _ (.tail _ (.tail _ (.tail _ hp)))))))
      have hbT9 : ∀ p ∈ base, p ∈ tl := fun p hp => hreT _ (.tail _ (.tail _ (.tail _ (.tail _ (.tail _ (.tail _ (.tail _ hp)))))))
      have hmT : (hl, oh) ∈ tl := hreT _ (.tail _ (.tail _ (.tail _ (.head _))))
      have N4 : News h₀ L h3 ((t, instObj 214 td) :: (td, tdOf x (.bytes da dt) f db (.bytes root tr)) :: (r, od3) :: tl) := by
        rw [← htl] at N3
        exact cb_drop N3 (List.forall_mem_cons.mpr ⟨.tail _ (hreT _ (.head _)), List.forall_mem_cons.mpr ⟨.tail _ (hreT _ (.tail _ (.head _))), fun _ hp => hp⟩⟩)
      clear N3
      have HT0 := HT
      (repeat' (first | (k_unfold; (try dsimp only)) | (k_end; wrow_close) | ((with_reducible show wpAny _ _ (call (Value.ref _) _) _ _ _); k_here; (rename Mine.Mark => stopMark); (first | refine Mine.stop_call (by decide) ?_ | ((rename Mine.MarkU => stopMarkU); refine Mine.stop_callU (by decide) ?_))) | ((with_reducible show wpAny _ _ (call (Value.type "tuple") [Value.ref _]) _ _ _); k_here; (refine' Mine.tuple_L ?F ?N ?l ?z ?_; (case F => k_asm); (case N => k_asm); (case l => k_dflt k_mem); (case z => omega)); intro _ _ _ _ l9'; (try k_lt l9'); (try k_sweep)) | ((with_reducible show wpAny _ _ (compareOp CmpOp.NotEq (Value.bytes _ _) (Value.bytes _ _)) _ _ _); k_here; (rename Mine.Mark => stopMark); (refine Mine.ne_same (by k_dflt (first | rfl | assumption | exact Eq.trans (by assumption) (Eq.symm (by assumption)))) ?_)) | ((with_reducible show wpAny _ _ (execs (Stmt.Assign [Expr.Name (PySem.Str.ofString "key") _] _ _ :: _) _) _ _ _); k_here; (rename Mine.MarkK => stopMarkK); refine Mine.stop_at ?_) | walk1 | (dsimp only; walk1) | (leave1; walk_say "STEP leave1"; try dsimp only)))
      · unfold Stop
        refine law_tail2 w (base := tl) (kn := kn) (t := t) (td := td) (db := db) (r := r) (hl := hl) (x := x) (root := root) (tr := tr) (od := od3) (oh := oh) (by k_asm) (by k_asm) (by k_asm) (by k_asm) hE (by exact cb_drop (by k_asm) (by walk_at "mine sub")) hoffT n2 lo HT hd3 hr3 (by omega) hN3 hroot2 hmT hh lo2 hok hknT KA ?hn1 hn1
          (by exact rfl) (by exact rfl) (by exact rfl) (by exact rfl) (by exact rfl) (by exact rfl) (by exact rfl) fun m' h' tk' F9 N9 => ret m' h' tk' F9 (cb_drop N9 hbT9)
        case hn1 => first | exact Int.le_refl 0 | (split <;> omega)
      · unfold Stop
        refine law_tail2 w (base := tl) (kn := kn) (t := t) (td := td) (db := db) (r := r) (hl := hl) (x := x) (root := root) (tr := tr) (od := od3) (oh := oh) (by k_asm) (by k_asm) (by k_asm) (by k_asm) hE (by exact cb_drop (by k_asm) (by walk_at "mine sub")) hoffT n2 lo HT hd3 hr3 (by omega) hN3 hroot2 hmT hh lo2 hok hknT KA ?hn2 hn1
          (by exact rfl) (by exact rfl) (by exact rfl) (by exact rfl) (by exact rfl) (by exact rfl) (by exact rfl) fun m' h' tk' F9 N9 => ret m' h' tk' F9 (cb_drop N9 hbT9)
        case hn2 => first | exact Int.le_refl 0 | (split <;> omega)
end Mine
namespace Mine
theorem range42 {e : Int} (h0 : 0 ≤ e) (h1 : e ≤ 14) : ∃ n : Nat, Builtin.Range.rangeSize 4 e 2 = (n : Int) ∧ n ≤ 5 ∧ ∀ i : Nat, i < n → 4 + (i : Int) * 2 < e := by
  have hs : Builtin.Range.rangeSize 4 e 2 = if 4 < e then (e - 4 - 1) / 2 + 1 else 0 := by
    unfold Builtin.Range.rangeSize
    rw [if_pos (by decide)]
  rw [hs]
  by_cases h : 4 < e
  · rw [if_pos h]
    exact ⟨((e - 4 - 1) / 2 + 1).toNat, by omega, by omega, fun i hi => by omega⟩
  · rw [if_neg h]
    exact ⟨0, rfl, by decide, fun i hi => absurd hi (Nat.not_lt_zero i)⟩
theorem small42 {e : Int} (h0 : 0 ≤ e) (h1 : e ≤ 14) : Builtin.Range.small 4 e 2 = true := by
  obtain ⟨k, rfl⟩ := Int.eq_ofNat_of_zero_le h0
  have : k ≤ 14 := by omega
  have h : ∀ k, k < 15 → Builtin.Range.small 4 (k : Nat) 2 = true := by decide
  exact h k (by omega)
/-- the law's places stand apart, ahead of the proof -/
structure Ap5 (td db r hl : Addr) (base : List (Addr × Obj)) : Prop where
  n1 : @Ne Nat td db
  n2 : @Ne Nat td r
  n3 : @Ne Nat td hl
  n5 : @Ne Nat db r
  n6 : @Ne Nat db hl
  n8 : @Ne Nat r hl
  b1 : ∀ p ∈ base, p.1 ≠ td
  b2 : ∀ p ∈ base, p.1 ≠ db
  b3 : ∀ p ∈ base, p.1 ≠ r
  b4 : ∀ p ∈ base, p.1 ≠ hl
  lo : (r == sysModules) = false
  lo2 : (hl == sysModules) = false
/-- the main loop -/
inductive MainJ (w : World) (base : List (Addr × Obj)) (f r hl t td db bl pd pf sc : Addr) (x : TD) (y : PD) (da : Array UInt8) (dt tk1 : Tok) (um : UInt8) (c : Nat) (n1 : Int) (i : Nat) (m : Str → Option Value) (nx : List (Addr × Obj)) : Prop where
  | mk (va root : Array UInt8) (tv tr tm tf : Tok) (bvs : List Value) (od odb oh : Obj) (kvs kvd kvh : List (By × Value)) (reg : List By) (nd : Nat → Nat → By)
    (m1 : m (Str.ofString "proof") = some (.ref pf)) (m2 : m (Str.ofString "tree") = some (.ref t)) (m3 : m (Str.ofString "script") = some (.ref sc)) (m4 : m (Str.ofString "first") = some (.int n1 tf))
    (m6 : m (Str.ofString "mine") = some (.bytes #[um] tm)) (m7 : m (Str.ofString "held") = some (.ref hl)) (m8 : m (Str.ofString "default") = some (.bytes da dt)) (m9 : m (Str.ofString "hash_of") = some (.ref f))
    (hd : od.IsDictOf (bytesKind PySem.Challenge.rw_iu0037_01.row.prog w) kvs) (hr : RegIs kvs reg) (hz : reg.length ≤ 150000 + 20000 * i) (hdb : odb.IsDictOf (bytesKind PySem.Challenge.rw_iu0037_01.row.prog w) kvd) (hzd : kvd.length ≤ 1000 + 9 * i)
    (D : DbOk reg kvd (heldVal kvh da.toList) nd) (hroot : root.toList = nd 8 0) (hh : oh.IsDictOf (bytesKind PySem.Challenge.rw_iu0037_01.row.prog w) kvh) (hok : HeldOk kvh) (hhz : kvh.length ≤ 3 + i)
    (hb : BsAre bvs (beside nd um.toNat)) (hva : va.toList = heldVal kvh da.toList um.toNat)
    (hnx : nx = (t, instObj 214 td) :: (td, tdOf x (.bytes da dt) f db (.bytes root tr)) :: (db, odb) :: (r, od) :: (hl, oh) :: (bl, W.listOf bvs.toArray c) :: (pd, pdOf y (.bytes #[um] tk1) (.bytes va tv) bl f) :: (pf, instObj 111 pd) :: base) : MainJ w base f r hl t td db bl pd pf sc x y da dt tk1 um c n1 i m nx
set_option maxHeartbeats 8000000 in
theorem law_mid (w : World) {gd : Option (List Code)} {a : Addr} {ccd : Value} {A₀ : Around} {h₀ : Heap} {L : Addr} {m mg mb : Str → Option Value}
    {p : Program} {loose : List Str} {mean : ExcName → Option Value} {s : Shared} {Q : Flow → Shared → Prop} {E : Value → Shared → Prop} {base : List (Addr × Obj)} {f r hl t td db : Addr} {x : TD} {da root : Array UInt8} {dt tr : Tok} {od odb oh : Obj} {kvs kvd kvh : List (By × Value)} {reg : List By} {nd : Nat → Nat → By} {sc : Addr} {svs : List Value} {ns : List Int} {n1 : Int} {tf : Tok}
    (B : Below A₀ h₀ [] h₀) (F : Fr h₀ L s.heap m) (X : (Mine.z.heap_1_39 w.params).In h₀) (T : Top p loose mean mg mb h₀) (hE : PassesOwn (model PySem.Challenge.rw_iu0037_01.row.prog w) (ctop 302 7 gd (Str.ofString "law") lawScope L a ccd [] []) (envOf (Str.ofString "law") lawScope L a ccd) E)
    (N : News h₀ L s.heap ((t, instObj 214 td) :: (td, tdOf x (.bytes da dt) f db (.bytes root tr)) :: (db, odb) :: (r, od) :: (hl, oh) :: base)) (ap : Ap5 td db r hl base) (H : HashAt base f r)
    (hd : od.IsDictOf (bytesKind PySem.Challenge.rw_iu0037_01.row.prog w) kvs) (hr : RegIs kvs reg) (hdb : odb.IsDictOf (bytesKind PySem.Challenge.rw_iu0037_01.row.prog w) kvd)
    (D : DbOk reg kvd (heldVal kvh da.toList) nd) (hroot : root.toList = nd 8 0) (hh : oh.IsDictOf (bytesKind PySem.Challenge.rw_iu0037_01.row.prog w) kvh) (hok : HeldOk kvh)
    (hz : reg.length ≤ 100000) (hzd : kvd.length ≤ 1000) (hhz : kvh.length ≤ 3) (hsc : h₀.IsList sc svs.toArray) (hI : IntsAre svs ns) (hns : ns.length ≤ 63) (hn1 : 0 ≤ n1)
    (m2 : m (Str.ofString "tree") = some (.ref t)) (m3 : m (Str.ofString "script") = some (.ref sc)) (m4 : m (Str.ofString "first") = some (.int n1 tf))
    (m7 : m (Str.ofString "held") = some (.ref hl)) (m8 : m (Str.ofString "default") = some (.bytes da dt)) (m9 : m (Str.ofString "hash_of") = some (.ref f))
    (ret : ∀ m' h' tk', Fr h₀ L h' m' → News h₀ L h' base → Q (.ret (.bool true)) { s with heap := h', toks := tk' }) :
    wpAny (model PySem.Challenge.rw_iu0037_01.row.prog w) (ctop 302 7 gd (Str.ofString "law") lawScope L a ccd [] []) (execs midB (envOf (Str.ofString "law") lawScope L a ccd)) Q E s := by
  obtain ⟨n1', n2, n3, n5, n6, n8, b1, b2, b3, b4, lo, lo2⟩ := ap
  revert X; k_fill; w_top off; intro X
  have mk9 := Mark.mk
  have mkU := MarkU.mk
  have d3 := fdiv_nn hn1 (k := 3) (by decide)
  have hm := see_all [(Str.ofString "tree", .ref t), (Str.ofString "script", .ref sc), (Str.ofString "first", .int n1 tf), (Str.ofString "held", .ref hl), (Str.ofString "default", .bytes da dt), (Str.ofString "hash_of", .ref f)]
    (List.forall_mem_cons.mpr ⟨m2, List.forall_mem_cons.mpr ⟨m3, List.forall_mem_cons.mpr ⟨m4, List.forall_mem_cons.mpr ⟨m7, List.forall_mem_cons.mpr ⟨m8, List.forall_mem_cons.mpr ⟨m9, List.forall_mem_nil _⟩⟩⟩⟩⟩⟩)
  rw [hm] at F
  clear hm
  (repeat' (first | (k_unfold; (try dsimp only)) | (k_end; wrow_close) | ((with_reducible show wpAny _ _ (call (Value.builtin "dict.get") [Value.ref _, Value.bytes _ _, Value.bytes _ _]) _ _ _); k_here; k_dflt (refine' Mine.held_get ?N ?m ?d ?lo ?ok ?_; (case N => k_asm); (case m => (first | k_mem | walk_at "mine tail")); (case d => k_asm); (case lo => k_asm); (case ok => k_asm)); intro _ _ _ _) | ((with_reducible show wpAny _ _ (call (Value.ref _) _) _ _ _); k_here; (rename Mine.Mark => stopMark); (first | refine Mine.stop_call (by decide) ?_ | ((rename Mine.MarkU => stopMarkU); refine Mine.stop_callU (by decide) ?_))) | ((with_reducible show wpAny _ _ (call (Value.type "list") [Value.ref _]) _ _ _); k_here; k_dflt (first | (refine' Mine.list_LL ?F ?N ?l ?z ?_; (case F => k_asm); (case N => k_asm); (case l => k_mem); (case z => omega)) | (refine' Mine.list_LT ?F ?N ?l ?z ?_; (case F => k_asm); (case N => k_asm); (case l => k_mem); (case z => omega))); intro _ _ _ _ _ l9'; (try k_lt l9'); (try k_sweep)) | ((with_reducible show wpAny _ _ (exec (Stmt.For (Expr.Name _ _) (Expr.Call _ _ _ _) _ [] _) _) _ _ _); k_here; (rename Mine.Mark => stopMark); (rename Fr _ _ _ _ => lF'); (rename PassesOwn _ _ _ _ => lE'); (with_unfolding_all refine' For_invVF lF' ?k1 ?k2 ?_ (hE := lE'); (case k1 => k_dflt exact rfl); (case k2 => k_dflt exact rfl); k_whole)) | ((with_reducible show wpAny _ _ (getMethod (Value.ref _) (PySem.Str.ofString "get") _) _ _ _); k_here; (first | refine kdg_method (knd := PySem.intKind _ _) (by k_asm) (by k_mem) (by k_asm) ?_ | refine kdg_method (knd := PySem.W.bytesKind _ _) (by k_asm) (by (first | k_mem | walk_at "mine tail")) (by k_asm) ?_)) | ((with_reducible show wpAny _ _ (pyIter (Value.ref _)) _ _ _); k_here; (rename Mine.Mark => stopMark); refine Mine.stop_at ?_) | walk1 | (dsimp only; walk1) | (leave1; walk_say "STEP leave1"; try dsimp only)))
  unfold Stop
  refine' useC ?frA ?h1A ?h2A ?h3A (c_octet w  ?BA ?FA ?XA ?TA ?hkA (cb_drop ?NA ?subA) (by omega) ?retA)
  case FA => k_asm
  case BA => k_asm
  case XA => k_asm
  case TA => k_asm
  case NA => k_asm
  case subA => walk_at "mine sub"
  case frA => exact rfl
  case h1A => exact rfl
  case hkA => exact rfl
  case h2A => (first | exact Nat.le_of_ble_eq_true rfl | ((simp only [depth_under_make, depth_in1, depth_deeper, units_under_make, units_in1, units_deeper]); exact Nat.le_of_ble_eq_true rfl))
  case h3A => (first | exact Nat.le_of_ble_eq_true rfl | ((simp only [depth_under_make, depth_in1, depth_deeper, units_under_make, units_in1, units_deeper]); exact Nat.le_of_ble_eq_true rfl))
  case retA =>
    intro um tum h2 tk2 F2 N2
    show wpAny _ _ _ _ _ _
    have hum := um.toNat_lt
    (repeat' (first | (k_unfold; (try dsimp only)) | (k_end; wrow_close) | ((with_reducible show wpAny _ _ (call (Value.builtin "dict.get") [Value.ref _, Value.bytes _ _, Value.bytes _ _]) _ _ _); k_here; k_dflt (refine' Mine.held_get ?N ?m ?d ?lo ?ok ?_; (case N => k_asm); (case m => (first | k_mem | walk_at "mine tail")); (case d => k_asm); (case lo => k_asm); (case ok => k_asm)); intro _ _ _ _) | ((with_reducible show wpAny _ _ (call (Value.ref _) _) _ _ _); k_here; (rename Mine.Mark => stopMark); (first | refine Mine.stop_call (by decide) ?_ | ((rename Mine.MarkU => stopMarkU); refine Mine.stop_callU (by decide) ?_))) | ((with_reducible show wpAny _ _ (call (Value.type "list") [Value.ref _]) _ _ _); k_here; k_dflt (first | (refine' Mine.list_LL ?F ?N ?l ?z ?_; (case F => k_asm); (case N => k_asm); (case l => k_mem); (case z => omega)) | (refine' Mine.list_LT ?F ?N ?l ?z ?_; (case F => k_asm); (case N => k_asm); (case l => k_mem); (case z => omega))); intro _ _ _ _ _ l9'; (try k_lt l9'); (try k_sweep)) | ((with_reducible show wpAny _ _ (exec (Stmt.For (Expr.Name _ _) (Expr.Call _ _ _ _) _ [] _) _) _ _ _); k_here; (rename Mine.Mark => stopMark); (rename Fr _ _ _ _ => lF'); (rename PassesOwn _ _ _ _ => lE'); (with_unfolding_all refine' For_invVF lF' ?k1 ?k2 ?_ (hE := lE'); (case k1 => k_dflt exact rfl); (case k2 => k_dflt exact rfl); k_whole)) | ((with_reducible show wpAny _ _ (getMethod (Value.ref _) (PySem.Str.ofString "get") _) _ _ _); k_here; (first | refine kdg_method (knd := PySem.intKind _ _) (by k_asm) (by k_mem) (by k_asm) ?_ | refine kdg_method (knd := PySem.W.bytesKind _ _) (by k_asm) (by (first | k_mem | walk_at "mine tail")) (by k_asm) ?_)) | ((with_reducible show wpAny _ _ (pyIter (Value.ref _)) _ _ _); k_here; (rename Mine.Mark => stopMark); refine Mine.stop_at ?_) | walk1 | (dsimp only; walk1) | (leave1; walk_say "STEP leave1"; try dsimp only)))
    unfold Stop
    have hoff0 : ∀ p ∈ ((t, instObj 214 td) :: (td, tdOf x (.bytes da dt) f db (.bytes root tr)) :: (db, odb) :: (hl, oh) :: base : List (Addr × Obj)), p.1 ≠ r := by k_all
    refine' useC ?frB ?h1B ?h2B ?h3B (c_levels w (rest := (t, instObj 214 td) :: (td, tdOf x (.bytes da dt) f db (.bytes root tr)) :: (db, odb) :: (hl, oh) :: base) (hl := hl) ?BB ?FB ?XB ?TB ?hkB (cb_drop ?NB ?subB) hoff0 lo ?HB hd hr (by omega) ?hmemB hh lo2 hok (by omega) ?retB)
    case FB => k_asm
    case BB => k_asm
    case XB => k_asm
    case TB => k_asm
    case NB => k_asm
    case subB => walk_at "mine sub"
    case frB => exact rfl
    case h1B => exact rfl
    case hkB => exact rfl
    case h2B => (first | exact Nat.le_of_ble_eq_true rfl | ((simp only [depth_under_make, depth_in1, depth_deeper, units_under_make, units_in1, units_deeper]); exact Nat.le_of_ble_eq_true rfl))
    case h3B => (first | exact Nat.le_of_ble_eq_true rfl | ((simp only [depth_under_make, depth_in1, depth_deeper, units_under_make, units_in1, units_deeper]); exact Nat.le_of_ble_eq_true rfl))
    case HB => exact H.mono fun p hp => .tail _ (.tail _ (.tail _ (.tail _ hp)))
    case hmemB => k_dflt k_mem
    case retB =>
      intro kt kn nd2 od3 kvs3 reg3 h3 tk3 F3 N3 hlt KA hd3 hr3 hp3 hl3 hN3
      show wpAny _ _ _ _ _ _
      have e1 : beside nd2 um.toNat = beside nd um.toNat := beside_uniq hr3.nodup hN3 (D.nodes.mono hp3) hum
      obtain ⟨tl, htl⟩ : ∃ tl, tl = kn ++ base := ⟨_, rfl⟩
      have hknT : ∀ p ∈ kn, p ∈ tl := fun p hp => htl ▸ List.mem_append_left _ hp
      have hbaT : ∀ p ∈ base, p ∈ tl := fun p hp => htl ▸ List.mem_append_right _ hp
      have N4 : News h₀ L h3 ((t, instObj 214 td) :: (td, tdOf x (.bytes da dt) f db (.bytes root tr)) :: (db, odb) :: (r, od3) :: (hl, oh) :: tl) :=
        cb_drop N3 (by
          rw [htl]
          intro p hp
          simp only [List.mem_cons, List.mem_append] at hp ⊢
          rcases hp with h | h | h | h | h | h | h <;> simp [h])
      clear N3
      (repeat' (first | (k_unfold; (try dsimp only)) | (k_end; wrow_close) | ((with_reducible show wpAny _ _ (call (Value.builtin "dict.get") [Value.ref _, Value.bytes _ _, Value.bytes _ _]) _ _ _); k_here; k_dflt (refine' Mine.held_get ?N ?m ?d ?lo ?ok ?_; (case N => k_asm); (case m => (first | k_mem | walk_at "mine tail")); (case d => k_asm); (case lo => k_asm); (case ok => k_asm)); intro _ _ _ _) | ((with_reducible show wpAny _ _ (call (Value.ref _) _) _ _ _); k_here; (rename Mine.Mark => stopMark); (first | refine Mine.stop_call (by decide) ?_ | ((rename Mine.MarkU => stopMarkU); refine Mine.stop_callU (by decide) ?_))) | ((with_reducible show wpAny _ _ (call (Value.type "list") [Value.ref _]) _ _ _); k_here; k_dflt (first | (refine' Mine.list_LL ?F ?N ?l ?z ?_; (case F => k_asm); (case N => k_asm); (case l => k_mem); (case z => omega)) | (refine' Mine.list_LT ?F ?N ?l ?z ?_; (case F => k_asm); (case N => k_asm); (case l => k_mem); (case z => omega))); intro _ _ _ _ _ l9'; (try k_lt l9'); (try k_sweep)) | ((with_reducible show wpAny _ _ (exec (Stmt.For (Expr.Name _ _) (Expr.Call _ _ _ _) _ [] _) _) _ _ _); k_here; (rename Mine.Mark => stopMark); (rename Fr _ _ _ _ => lF'); (rename PassesOwn _ _ _ _ => lE'); (with_unfolding_all refine' For_invVF lF' ?k1 ?k2 ?_ (hE := lE'); (case k1 => k_dflt exact rfl); (case k2 => k_dflt exact rfl); k_whole)) | ((with_reducible show wpAny _ _ (getMethod (Value.ref _) (PySem.Str.ofString "get") _) _ _ _); k_here; (first | refine kdg_method (knd := PySem.intKind _ _) (by k_asm) (by k_mem) (by k_asm) ?_ | refine kdg_method (knd := PySem.W.bytesKind _ _) (by k_asm) (by (first | k_mem | walk_at "mine tail")) (by k_asm) ?_)) | ((with_reducible show wpAny _ _ (pyIter (Value.ref _)) _ _ _); k_here; (rename Mine.Mark => stopMark); refine Mine.stop_at ?_) | walk1 | (dsimp only; walk1) | (leave1; walk_say "STEP leave1"; try dsimp only)))
      unfold Stop
      refine' useC ?frC ?h1C ?h2C ?h3C (c_beside w (kn := kn) (nd := nd2) ?BC ?FC ?XC ?TC ?hkC (cb_drop ?NC ?subC) ?knC KA ?retC)
      case FC => k_asm
      case BC => k_asm
      case XC => k_asm
      case TC => k_asm
      case NC => k_asm
      case subC => walk_at "mine sub"
      case frC => exact rfl
      case h1C => exact rfl
      case hkC => exact rfl
      case h2C => (first | exact Nat.le_of_ble_eq_true rfl | ((simp only [depth_under_make, depth_in1, depth_deeper, units_under_make, units_in1, units_deeper]); exact Nat.le_of_ble_eq_true rfl))
      case h3C => (first | exact Nat.le_of_ble_eq_true rfl | ((simp only [depth_under_make, depth_in1, depth_deeper, units_under_make, units_in1, units_deeper]); exact Nat.le_of_ble_eq_true rfl))
      case knC => exact fun p hp => .tail _ (.tail _ (.tail _ (.tail _ (.tail _ (hknT p hp)))))
      case retC =>
        intro bt bvs h4 tk4 F4 N5 hlt4 hbv
        show wpAny _ _ _ _ _ _
        rw [e1] at hbv
        have hbl : bvs.length = 8 := by rw [hbv.length, beside_length]
        (repeat' (first | (k_unfold; (try dsimp only)) | (k_end; wrow_close) | ((with_reducible show wpAny _ _ (call (Value.builtin "dict.get") [Value.ref _, Value.bytes _ _, Value.bytes _ _]) _ _ _); k_here; k_dflt (refine' Mine.held_get ?N ?m ?d ?lo ?ok ?_; (case N => k_asm); (case m => (first | k_mem | walk_at "mine tail")); (case d => k_asm); (case lo => k_asm); (case ok => k_asm)); intro _ _ _ _) | ((with_reducible show wpAny _ _ (call (Value.ref _) _) _ _ _); k_here; (rename Mine.Mark => stopMark); (first | refine Mine.stop_call (by decide) ?_ | ((rename Mine.MarkU => stopMarkU); refine Mine.stop_callU (by decide) ?_))) | ((with_reducible show wpAny _ _ (call (Value.type "list") [Value.ref _]) _ _ _); k_here; k_dflt (first | (refine' Mine.list_LL ?F ?N ?l ?z ?_; (case F => k_asm); (case N => k_asm); (case l => k_mem); (case z => omega)) | (refine' Mine.list_LT ?F ?N ?l ?z ?_; (case F => k_asm); (case N => k_asm); (case l => k_mem); (case z => omega))); intro _ _ _ _ _ l9'; (try k_lt l9'); (try k_sweep)) | ((with_reducible show wpAny _ _ (exec (Stmt.For (Expr.Name _ _) (Expr.Call _ _ _ _) _ [] _) _) _ _ _); k_here; (rename Mine.Mark => stopMark); (rename Fr _ _ _ _ => lF'); (rename PassesOwn _ _ _ _ => lE'); (with_unfolding_all refine' For_invVF lF' ?k1 ?k2 ?_ (hE := lE'); (case k1 => k_dflt exact rfl); (case k2 => k_dflt exact rfl); k_whole)) | ((with_reducible show wpAny _ _ (getMethod (Value.ref _) (PySem.Str.ofString "get") _) _ _ _); k_here; (first | refine kdg_method (knd := PySem.intKind _ _) (by k_asm) (by k_mem) (by k_asm) ?_ | refine kdg_method (knd := PySem.W.bytesKind _ _) (by k_asm) (by (first | k_mem | walk_at "mine tail")) (by k_asm) ?_)) | ((with_reducible show wpAny _ _ (pyIter (Value.ref _)) _ _ _); k_here; (rename Mine.Mark => stopMark); refine Mine.stop_at ?_) | walk1 | (dsimp only; walk1) | (leave1; walk_say "STEP leave1"; try dsimp only)))
        unfold Stop
        refine' useW ?frP ?h1P ?h2P ?h3P (c_proof w (R := fun _ _ => True) (bvs := bvs) ?BP ?FP ?XP ?TP ?hkP (cb_drop ?NP ?subP) hbl ?retP)
        case FP => k_asm
        case BP => k_asm
        case XP => k_asm
        case TP => k_asm
        case NP => k_asm
        case subP => walk_at "mine sub"
        case frP => exact rfl
        case h1P => exact rfl
        case hkP => exact rfl
        case h2P => (first | exact Nat.le_of_ble_eq_true rfl | ((simp only [depth_under_make, depth_in1, depth_deeper, units_under_make, units_in1, units_deeper]); exact Nat.le_of_ble_eq_true rfl))
        case h3P => (first | exact Nat.le_of_ble_eq_true rfl | ((simp only [depth_under_make, depth_in1, depth_deeper, units_under_make, units_in1, units_deeper]); exact Nat.le_of_ble_eq_true rfl))
        case retP =>
          intro pf pd bl y c h5 tk5 F5 N6 q1 q2 q3 q4 q5 q6
          show wpAny _ _ _ _ _ _
          obtain ⟨va, tv, hva, NP⟩ : ∃ (va : Array UInt8) (tv : Tok), va.toList = heldVal kvh da.toList um.toNat ∧ News h₀ L h5 ((t, instObj 214 td) :: (td, tdOf x (.bytes da dt) f db (.bytes root tr)) :: (db, odb) :: (r, od3) :: (hl, oh) :: (bl, W.listOf bvs.toArray c) :: (pd, pdOf y (.bytes #[um] tum) (.bytes va tv) bl f) :: (pf, instObj 111 pd) :: base) := ⟨_, _, by assumption, cb_drop N6 (by
            refine List.forall_mem_cons.mpr ⟨by k_dflt k_mem, List.forall_mem_cons.mpr ⟨by k_dflt k_mem, List.forall_mem_cons.mpr ⟨by k_dflt k_mem, List.forall_mem_cons.mpr ⟨by k_dflt k_mem, List.forall_mem_cons.mpr ⟨by k_dflt k_mem, List.forall_mem_cons.mpr ⟨by k_dflt k_mem, List.forall_mem_cons.mpr ⟨by k_dflt k_mem, List.forall_mem_cons.mpr ⟨by k_dflt k_mem, ?_⟩⟩⟩⟩⟩⟩⟩⟩
            exact fun p hp => .tail _ (.tail _ (.tail _ (.tail _ (.tail _ (.tail _ (.tail _ (.tail _ (.tail _ (hbaT p hp))))))))))⟩
          have hsub : ∀ p ∈ ((t, instObj 214 td) :: (td, tdOf x (.bytes da dt) f db (.bytes root tr)) :: (db, odb) :: (r, od3) :: (hl, oh) :: base : List (Addr × Obj)), p.1 < bl ∧ p.1 < pd := fun p hp => by
            have h9 : p ∈ (bt, tupOf bvs) :: (t, instObj 214 td) :: (td, tdOf x (.bytes da dt) f db (.bytes root tr)) :: (db, odb) :: (r, od3) :: (hl, oh) :: tl := List.mem_cons_of_mem _ (by
              simp only [List.mem_cons] at hp ⊢
              rcases hp with h | h | h | h | h | h
              · simp [h]
              · simp [h]
              · simp [h]
              · simp [h]
              · simp [h]
              · simp [hbaT p h])
            exact ⟨q3 p h9, q5 p h9⟩
          clear N6 q3 q4 q5
          have g1 := (hsub _ (.tail _ (.head _))).2
          have g2 := (hsub _ (.tail _ (.tail _ (.head _)))).2
          have g3 := (hsub _ (.tail _ (.tail _ (.tail _ (.head _))))).2
          have g4 := (hsub _ (.tail _ (.tail _ (.tail _ (.tail _ (.head _)))))).2
          have apX : Ap td db r hl bl pd base := ⟨n1', n2, n3, Nat.ne_of_lt g1, n5, n6, Nat.ne_of_lt g2, n8, Nat.ne_of_lt g3, Nat.ne_of_lt g4, b1, b2, b3, b4,
            fun p hp => Nat.ne_of_lt (hsub p (.tail _ (.tail _ (.tail _ (.tail _ (.tail _ hp)))))).1, fun p hp => Nat.ne_of_lt (hsub p (.tail _ (.tail _ (.tail _ (.tail _ (.tail _ hp)))))).2, lo, lo2⟩
          have n9 := apX.n9
          have n4 := apX.n4
          have n7 := apX.n7
          have n10 := apX.n10
          have b5 := apX.b5
          have b6 := apX.b6
          (repeat' (first | (k_unfold; (try dsimp only)) | (k_end; wrow_close) | ((with_reducible show wpAny _ _ (call (Value.builtin "dict.get") [Value.ref _, Value.bytes _ _, Value.bytes _ _]) _ _ _); k_here; k_dflt (refine' Mine.held_get ?N ?m ?d ?lo ?ok ?_; (case N => k_asm); (case m => (first | k_mem | walk_at "mine tail")); (case d => k_asm); (case lo => k_asm); (case ok => k_asm)); intro _ _ _ _) | ((with_reducible show wpAny _ _ (call (Value.ref _) _) _ _ _); k_here; (rename Mine.Mark => stopMark); (first | refine Mine.stop_call (by decide) ?_ | ((rename Mine.MarkU => stopMarkU); refine Mine.stop_callU (by decide) ?_))) | ((with_reducible show wpAny _ _ (call (Value.type "list") [Value.ref _]) _ _ _); k_here; k_dflt (first | (refine' Mine.list_LL ?F ?N ?l ?z ?_; (case F => k_asm); (case N => k_asm); (case l => k_mem); (case z => omega)) | (refine' Mine.list_LT ?F ?N ?l ?z ?_; (case F => k_asm); (case N => k_asm); (case l => k_mem); (case z => omega))); intro _ _ _ _ _ l9'; (try k_lt l9'); (try k_sweep)) | ((with_reducible show wpAny _ _ (exec (Stmt.For (Expr.Name _ _) (Expr.Call _ _ _ _) _ [] _) _) _ _ _); k_here; (rename Mine.Mark => stopMark); (rename Fr _ _ _ _ => lF'); (rename PassesOwn _ _ _ _ => lE'); (with_unfolding_all refine' For_invVF lF' ?k1 ?k2 ?_ (hE := lE'); (case k1 => k_dflt exact rfl); (case k2 => k_dflt exact rfl); k_whole)) | ((with_reducible show wpAny _ _ (getMethod (Value.ref _) (PySem.Str.ofString "get") _) _ _ _); k_here; (first | refine kdg_method (knd := PySem.intKind _ _) (by k_asm) (by k_mem) (by k_asm) ?_ | refine kdg_method (knd := PySem.W.bytesKind _ _) (by k_asm) (by (first | k_mem | walk_at "mine tail")) (by k_asm) ?_)) | ((with_reducible show wpAny _ _ (pyIter (Value.ref _)) _ _ _); k_here; (rename Mine.Mark => stopMark); refine Mine.stop_at ?_) | walk1 | (dsimp only; walk1) | (leave1; walk_say "STEP leave1"; try dsimp only)))
          unfold Stop
          refine' useC ?frK ?h1K ?h2K ?h3K (c_kept w (rest := (t, instObj 214 td) :: (td, tdOf x (.bytes da dt) f db (.bytes root tr)) :: (db, odb) :: (hl, oh) :: (bl, W.listOf bvs.toArray c) :: (pd, pdOf y (.bytes #[um] tum) (.bytes va tv) bl f) :: (pf, instObj 111 pd) :: base) (pf := pf) (pd := pd) (bl := bl) (hl := hl) (y := y) (c := c) ?BK ?FK ?XK ?TK ?hkK (cb_drop ?NK ?subK) ?hoffK lo ?HK hd3 hr3 (by omega) ?hpfK ?hpdK ?hblK ?hmemK hh lo2 hok (by omega) hva (D.nodes.mono hp3) hbv ?retK)
          case FK => k_asm
          case BK => k_asm
          case XK => k_asm
          case TK => k_asm
          case NK => k_asm
          case subK => walk_at "mine sub"
          case frK => exact rfl
          case h1K => exact rfl
          case hkK => exact rfl
          case h2K => (first | exact Nat.le_of_ble_eq_true rfl | ((simp only [depth_under_make, depth_in1, depth_deeper, units_under_make, units_in1, units_deeper]); exact Nat.le_of_ble_eq_true rfl))
          case h3K => (first | exact Nat.le_of_ble_eq_true rfl | ((simp only [depth_under_make, depth_in1, depth_deeper, units_under_make, units_in1, units_deeper]); exact Nat.le_of_ble_eq_true rfl))
          case hoffK => k_all
          case HK => exact H.mono fun p hp => .tail _ (.tail _ (.tail _ (.tail _ (.tail _ (.tail _ (.tail _ hp))))))
          case hpfK => k_dflt k_mem
          case hpdK => k_dflt k_mem
          case hblK => k_dflt k_mem
          case hmemK => k_dflt k_mem
          case retK =>
            intro od4 kvs4 reg4 h6 tk6 F6 N7 hd4 hr4 hp4 hl4
            show wpAny _ _ _ _ _ _
            (repeat' (first | (k_unfold; (try dsimp only)) | (k_end; wrow_close) | ((with_reducible show wpAny _ _ (call (Value.builtin "dict.get") [Value.ref _, Value.bytes _ _, Value.bytes _ _]) _ _ _); k_here; k_dflt (refine' Mine.held_get ?N ?m ?d ?lo ?ok ?_; (case N => k_asm); (case m => (first | k_mem | walk_at "mine tail")); (case d => k_asm); (case lo => k_asm); (case ok => k_asm)); intro _ _ _ _) | ((with_reducible show wpAny _ _ (call (Value.ref _) _) _ _ _); k_here; (rename Mine.Mark => stopMark); (first | refine Mine.stop_call (by decide) ?_ | ((rename Mine.MarkU => stopMarkU); refine Mine.stop_callU (by decide) ?_))) | ((with_reducible show wpAny _ _ (call (Value.type "list") [Value.ref _]) _ _ _); k_here; k_dflt (first | (refine' Mine.list_LL ?F ?N ?l ?z ?_; (case F => k_asm); (case N => k_asm); (case l => k_mem); (case z => omega)) | (refine' Mine.list_LT ?F ?N ?l ?z ?_; (case F => k_asm); (case N => k_asm); (case l => k_mem); (case z => omega))); intro _ _ _ _ _ l9'; (try k_lt l9'); (try k_sweep)) | ((with_reducible show wpAny _ _ (exec (Stmt.For (Expr.Name _ _) (Expr.Call _ _ _ _) _ [] _) _) _ _ _); k_here; (rename Mine.Mark => stopMark); (rename Fr _ _ _ _ => lF'); (rename PassesOwn _ _ _ _ => lE'); (with_unfolding_all refine' For_invVF lF' ?k1 ?k2 ?_ (hE := lE'); (case k1 => k_dflt exact rfl); (case k2 => k_dflt exact rfl); k_whole)) | ((with_reducible show wpAny _ _ (getMethod (Value.ref _) (PySem.Str.ofString "get") _) _ _ _); k_here; (first | refine kdg_method (knd := PySem.intKind _ _) (by k_asm) (by k_mem) (by k_asm) ?_ | refine kdg_method (knd := PySem.W.bytesKind _ _) (by k_asm) (by (first | k_mem | walk_at "mine tail")) (by k_asm) ?_)) | ((with_reducible show wpAny _ _ (pyIter (Value.ref _)) _ _ _); k_here; (rename Mine.Mark => stopMark); refine Mine.stop_at ?_) | walk1 | (dsimp only; walk1) | (leave1; walk_say "STEP leave1"; try dsimp only)))
            unfold Stop
            (rename Fr _ _ _ _ => lF); (rename News _ _ _ _ => lN); (rename IsRange _ _ _ _ _ _ _ _ => lR)
            have e0 : (0 : Int) ≤ (if (14 : Int) < (ns.length : Int) then 14 else (ns.length : Int)) := by split <;> omega
            have e14 : (if (14 : Int) < (ns.length : Int) then 14 else (ns.length : Int)) ≤ (14 : Int) := by split <;> omega
            have eln : (if (14 : Int) < (ns.length : Int) then 14 else (ns.length : Int)) ≤ (ns.length : Int) := by split <;> omega
            obtain ⟨nn, hnn, hn5, hni⟩ := range42 e0 e14
            refine' loop_range (n := nn) (MainJ w base f r hl t td db bl pd pf sc x y da dt tum um c n1) rfl lR (small42 e0 e14) hnn lF (cb_drop lN ?subM) ?j0 ?turn ?done
            case j0 => exact ⟨va, root, tv, tr, _, _, bvs, od4, odb, oh, kvs4, kvd, kvh, reg4, nd, rfl, rfl, rfl, rfl, rfl, rfl, rfl, rfl, hd4, hr4, by omega, hdb, by omega, D.mono (hp3.trans hp4), hroot, hh, hok, by omega, hbv, hva, rfl⟩
            case subM => walk_at "mine sub"
            case turn =>
              clear lF lN lR hd hr hd3 hr3 hd4 hr4 hdb hh D hroot hok hva hbv
              rintro i I tvk m₁ nx it h7 tk7 hi ⟨va, root, tv, tr, tm, tf2, bvs, od, odb, oh, kvs, kvd, kvh, reg, nd, w1, w2, w3, w4, w6, w7, w8, w9, hd, hr, hz, hdb, hzd, D, hroot, hh, hok, hhz, hb, hva, rfl⟩ hof F1 N1
              have a1 := hof _ (.head _)
              have a2 := hof _ (.tail _ (.head _))
              have a3 := hof _ (.tail _ (.tail _ (.head _)))
              have a4 := hof _ (.tail _ (.tail _ (.tail _ (.head _))))
              have a5 := hof _ (.tail _ (.tail _ (.tail _ (.tail _ (.head _)))))
              have a6 := hof _ (.tail _ (.tail _ (.tail _ (.tail _ (.tail _ (.head _))))))
              have a7 := hof _ (.tail _ (.tail _ (.tail _ (.tail _ (.tail _ (.tail _ (.head _)))))))
              have a8 := hof _ (.tail _ (.tail _ (.tail _ (.tail _ (.tail _ (.tail _ (.tail _ (.head _))))))))
              have a9 : ∀ p ∈ base, p.1 ≠ I := fun p hp => hof p (.tail _ (.tail _ (.tail _ (.tail _ (.tail _ (.tail _ (.tail _ (.tail _ hp))))))))
              have apI : Ap td db r hl bl pd ((I, it) :: base) := ⟨apX.n1, apX.n2, apX.n3, apX.n4, apX.n5, apX.n6, apX.n7, apX.n8, apX.n9, apX.n10, List.forall_mem_cons.mpr ⟨Ne.symm a2, b1⟩, List.forall_mem_cons.mpr ⟨Ne.symm a3, b2⟩, List.forall_mem_cons.mpr ⟨Ne.symm a4, b3⟩, List.forall_mem_cons.mpr ⟨Ne.symm a5, b4⟩, List.forall_mem_cons.mpr ⟨Ne.symm a6, b5⟩, List.forall_mem_cons.mpr ⟨Ne.symm a7, b6⟩, lo, lo2⟩
              have hki := hni i hi
              refine law_turnA w (base := (I, it) :: base) (kk := 4 + (i : Int) * 2) (sc := sc) (svs := svs) (ns := ns) (by k_asm) F1 (by k_asm) (by k_asm) (by exact cb_drop N1 (by walk_at "mine sub")) apI (H.mono fun p hp => .tail _ hp) hd hr hdb D hroot hh hok hb hva (by omega) (by omega) (by omega) hsc hI hns (by omega) (by omega)
                (by exact w1) (by exact w2) (by exact w3) (by exact rfl) (by exact w6) (by exact w7) (by exact w8) (by exact w9) ?nextT
              case nextT =>
                intro m2' nd2' root2 tr2 od2 odb2 oh2 kvs2 kvd2 kvh2 reg2 bvs2 va2 tv2 h8 tk8 hm2 F8 N8 hd2 hr2 hp2 hl2 hdb2 hzd2 D2 hroot2 hh2 hok2 hhz2 hb2 hva2
                refine UnrEnd.intro F8 N8 ((t, instObj 214 td) :: (td, tdOf x (.bytes da dt) f db (.bytes root2 tr2)) :: (db, odb2) :: (r, od2) :: (hl, oh2) :: (bl, W.listOf bvs2.toArray c) :: (pd, pdOf y (.bytes #[um] tum) (.bytes va2 tv2) bl f) :: (pf, instObj 111 pd) :: base) (by walk_at "mine sub") (List.forall_mem_cons.mpr ⟨a1, List.forall_mem_cons.mpr ⟨a2, List.forall_mem_cons.mpr ⟨a3, List.forall_mem_cons.mpr ⟨a4, List.forall_mem_cons.mpr ⟨a5, List.forall_mem_cons.mpr ⟨a6, List.forall_mem_cons.mpr ⟨a7, List.forall_mem_cons.mpr ⟨a8, a9⟩⟩⟩⟩⟩⟩⟩⟩)
                  ⟨va2, root2, tv2, tr2, tm, tf2, bvs2, od2, odb2, oh2, kvs2, kvd2, kvh2, reg2, nd2', (hm2 _ ?z1).trans w1, (hm2 _ ?z2).trans w2, (hm2 _ ?z3).trans w3, (hm2 _ ?z4).trans w4, (hm2 _ ?z6).trans w6, (hm2 _ ?z7).trans w7, (hm2 _ ?z8).trans w8, (hm2 _ ?z9).trans w9, hd2, hr2, by omega, hdb2, by omega, D2, hroot2, hh2, hok2, by omega, hb2, hva2, rfl⟩
                all_goals (unfold turnNames; decide +kernel)
            case done =>
              clear lF lN lR hd hr hd3 hr3 hd4 hr4 hdb hh D hroot hok hva hbv
              rintro m₁ nx h7 tk7 ⟨va, root, tv, tr, tm, tf2, bvs, od, odb, oh, kvs, kvd, kvh, reg, nd, w1, w2, w3, w4, w6, w7, w8, w9, hd, hr, hz, hdb, hzd, D, hroot, hh, hok, hhz, hb, hva, rfl⟩ F1 N1
              dsimp only
              refine law_tail1 w (base := base) (sc := sc) (svs := svs) (ns := ns) (n1 := n1) (by k_asm) F1 (by k_asm) (by k_asm) (by first | assumption | k_asm) N1 apX H hd hr hdb D hroot hh hok hb hva (by omega) (by omega) hsc hI hns hn1 w1 w2 w3 w4 w7 w8 w9 fun m' h' tk' F9 N9 => ret m' h' tk' F9 N9
end Mine
namespace Mine
/-- from the slice loop on -/
@[reducible] noncomputable def sliceBS : {b : List Stmt // b = (fdBody lawStmt).drop 5} := by
  refine ⟨?b, ?h⟩
  case h => conv => rhs; whnf
@[reducible] noncomputable def sliceB : List Stmt := sliceBS.1
theorem ints_get {vs : List Value} {ns : List Int} (h : IntsAre vs ns) {i : Nat} {v : Value} (e : vs[i]? = some v) : ∃ n t, v = .int n t := by
  obtain ⟨hi, _⟩ := List.getElem?_eq_some_iff.mp e
  have hn : i < ns.length := by rw [← h.length]; exact hi
  obtain ⟨t, q⟩ := h.get i ns[i] (List.getElem?_eq_getElem hn)
  rw [e] at q
  exact ⟨_, t, Option.some.inj q⟩
/-- the first loop -/
inductive SliceJ (w : World) (base : List (Addr × Obj)) (f r hl t td db S sc : Addr) (so : Obj) (x : TD) (da : Array UInt8) (dt : Tok) (n1 : Int) (i : Nat) (m : Str → Option Value) (nx : List (Addr × Obj)) : Prop where
  | mk (root : Array UInt8) (tr tf : Tok) (od odb oh : Obj) (kvs kvd kvh : List (By × Value)) (reg : List By) (nd : Nat → Nat → By)
    (m2 : m (Str.ofString "tree") = some (.ref t)) (m3 : m (Str.ofString "script") = some (.ref sc)) (m4 : m (Str.ofString "first") = some (.int n1 tf))
    (m7 : m (Str.ofString "held") = some (.ref hl)) (m8 : m (Str.ofString "default") = some (.bytes da dt)) (m9 : m (Str.ofString "hash_of") = some (.ref f))
    (hd : od.IsDictOf (bytesKind PySem.Challenge.rw_iu0037_01.row.prog w) kvs) (hr : RegIs kvs reg) (hz : reg.length ≤ 50000 + 9 * i) (hdb : odb.IsDictOf (bytesKind PySem.Challenge.rw_iu0037_01.row.prog w) kvd) (hzd : kvd.length ≤ 900 + 9 * i)
    (D : DbOk reg kvd (heldVal kvh da.toList) nd) (hroot : root.toList = nd 8 0) (hh : oh.IsDictOf (bytesKind PySem.Challenge.rw_iu0037_01.row.prog w) kvh) (hok : HeldOk kvh) (hhz : kvh.length ≤ i)
    (hnx : nx = (t, instObj 214 td) :: (td, tdOf x (.bytes da dt) f db (.bytes root tr)) :: (db, odb) :: (r, od) :: (hl, oh) :: (S, so) :: base) : SliceJ w base f r hl t td db S sc so x da dt n1 i m nx
set_option maxHeartbeats 8000000 in
theorem law_slice (w : World) {gd : Option (List Code)} {a : Addr} {ccd : Value} {A₀ : Around} {h₀ : Heap} {L : Addr} {m mg mb : Str → Option Value}
    {p : Program} {loose : List Str} {mean : ExcName → Option Value} {s : Shared} {Q : Flow → Shared → Prop} {E : Value → Shared → Prop} {base : List (Addr × Obj)} {f r hl t td db : Addr} {x : TD} {da root : Array UInt8} {dt tr : Tok} {od odb oh : Obj} {kvs kvd : List (By × Value)} {reg : List By} {nd : Nat → Nat → By} {sc : Addr} {svs : List Value} {ns : List Int} {n1 : Int} {tf : Tok}
    (B : Below A₀ h₀ [] h₀) (F : Fr h₀ L s.heap m) (X : (Mine.z.heap_1_39 w.params).In h₀) (T : Top p loose mean mg mb h₀) (hE : PassesOwn (model PySem.Challenge.rw_iu0037_01.row.prog w) (ctop 302 7 gd (Str.ofString "law") lawScope L a ccd [] []) (envOf (Str.ofString "law") lawScope L a ccd) E)
    (N : News h₀ L s.heap ((t, instObj 214 td) :: (td, tdOf x (.bytes da dt) f db (.bytes root tr)) :: (db, odb) :: (r, od) :: (hl, oh) :: base)) (ap : Ap5 td db r hl base) (H : HashAt base f r)
    (hd : od.IsDictOf (bytesKind PySem.Challenge.rw_iu0037_01.row.prog w) kvs) (hr : RegIs kvs reg) (hdb : odb.IsDictOf (bytesKind PySem.Challenge.rw_iu0037_01.row.prog w) kvd)
    (D : DbOk reg kvd (heldVal [] da.toList) nd) (hroot : root.toList = nd 8 0) (hh : oh.IsDictOf (bytesKind PySem.Challenge.rw_iu0037_01.row.prog w) []) (hok : HeldOk [])
    (hz : reg.length ≤ 50000) (hzd : kvd.length ≤ 900) (hsc : h₀.IsList sc svs.toArray) (hI : IntsAre svs ns) (hns : ns.length ≤ 63) (hn1 : 0 ≤ n1)
    (m2 : m (Str.ofString "tree") = some (.ref t)) (m3 : m (Str.ofString "script") = some (.ref sc)) (m4 : m (Str.ofString "first") = some (.int n1 tf))
    (m7 : m (Str.ofString "held") = some (.ref hl)) (m8 : m (Str.ofString "default") = some (.bytes da dt)) (m9 : m (Str.ofString "hash_of") = some (.ref f))
    (ret : ∀ m' h' tk', Fr h₀ L h' m' → News h₀ L h' base → Q (.ret (.bool true)) { s with heap := h', toks := tk' }) :
    wpAny (model PySem.Challenge.rw_iu0037_01.row.prog w) (ctop 302 7 gd (Str.ofString "law") lawScope L a ccd [] []) (execs sliceB (envOf (Str.ofString "law") lawScope L a ccd)) Q E s := by
  have ap0 := ap
  obtain ⟨n1', n2, n3, n5, n6, n8, b1, b2, b3, b4, lo, lo2⟩ := ap
  revert X; k_fill; w_top off; intro X
  have mk9 := Mark.mk
  have hm := see_all [(Str.ofString "tree", .ref t), (Str.ofString "script", .ref sc), (Str.ofString "first", .int n1 tf), (Str.ofString "held", .ref hl), (Str.ofString "default", .bytes da dt), (Str.ofString "hash_of", .ref f)]
    (List.forall_mem_cons.mpr ⟨m2, List.forall_mem_cons.mpr ⟨m3, List.forall_mem_cons.mpr ⟨m4, List.forall_mem_cons.mpr ⟨m7, List.forall_mem_cons.mpr ⟨m8, List.forall_mem_cons.mpr ⟨m9, List.forall_mem_nil _⟩⟩⟩⟩⟩⟩)
  rw [hm] at F
  clear hm
  (repeat' (first | (k_unfold; (try dsimp only)) | (k_end; wrow_close) | ((with_reducible show wpAny _ _ (call (Value.ref _) _) _ _ _); k_here; (rename Mine.Mark => stopMark); (first | refine Mine.stop_call (by decide) ?_ | ((rename Mine.MarkU => stopMarkU); refine Mine.stop_callU (by decide) ?_))) | ((with_reducible show wpAny _ _ (exec (Stmt.For (Expr.Name _ _) (Expr.Subscript _ _ _) _ [] _) _) _ _ _); k_here; (rename Mine.Mark => stopMark); (rename Fr _ _ _ _ => lF'); (rename PassesOwn _ _ _ _ => lE'); (with_unfolding_all refine' For_invVF lF' ?k1 ?k2 ?_ (hE := lE'); (case k1 => k_dflt exact rfl); (case k2 => k_dflt exact rfl); k_whole)) | ((with_reducible show wpAny _ _ (pyIter (Value.ref _)) _ _ _); k_here; (rename Mine.Mark => stopMark); refine Mine.stop_at ?_) | ((with_reducible show wpAny _ _ (setItem (Value.ref _) (Value.bytes _ _) _) _ _ _); k_here; k_dflt (refine' kda_set (knd := PySem.W.bytesKind _ _) ?F ?N ?U ?d (Mine.bytes_is _ _ _ _) ?z ?_; (case F => k_asm); (case N => k_asm); (case U => k_updF); (case d => k_asm); (case z => rw [sizeLine_eq]; omega)); intro _ _ _ N9' _; (try dsimp only at N9')) | ((with_reducible show wpAny _ _ (subscriptTail _ _ (Value.ref _) (Value.bytes _ _)) _ _ _); k_here; k_dflt (refine kda_item (knd := PySem.W.bytesKind _ _) (by k_asm) (by (first | k_mem | walk_at "mine tail")) (by k_asm) (Mine.bytes_is _ _ _ _) (by first | assumption | exact Mine.valueAt_self) ?_)) | walk1 | (dsimp only; walk1) | (leave1; walk_say "STEP leave1"; try dsimp only)))
  unfold Stop
  (rename Fr _ _ _ _ => lF); (rename News _ _ _ _ => lN); (rename IntsAre _ (List.take _ _) => hI1)
  have h3 := hI1.length
  simp only [List.length_take, List.length_drop] at h3
  have hw3 := Nat.le_trans (Nat.le_of_eq h3) (Nat.le_trans (Nat.min_le_left _ _) (Nat.sub_le_sub_right (Nat.min_le_left _ _) 1))
  clear h3
  (rename ∀ _ : Addr × Obj, _ => raw); (rename Addr => S); (rename List Value => wsS)
  have g1 : @LT.lt Nat _ td S := raw _ (.tail _ (.head _))
  have g2 : @LT.lt Nat _ db S := raw _ (.tail _ (.tail _ (.head _)))
  have g3 : @LT.lt Nat _ r S := raw _ (.tail _ (.tail _ (.tail _ (.head _))))
  have g4 : @LT.lt Nat _ hl S := raw _ (.tail _ (.tail _ (.tail _ (.tail _ (.head _)))))
  refine' loop_list (lo := W.listOf wsS.toArray 0) (SliceJ w base f r hl t td db S sc (W.listOf wsS.toArray 0) x da dt n1) rfl lF (news := (t, instObj 214 td) :: (td, tdOf x (.bytes da dt) f db (.bytes root tr)) :: (db, odb) :: (r, od) :: (hl, oh) :: (S, W.listOf wsS.toArray 0) :: base) (cb_drop lN ?subM) ⟨_, (lN _ (.head _)).1, rfl, _, rfl⟩ (.inr ?hlo) ?hne ?j0 ?turn ?done
  case subM => walk_at "mine sub"
  case hlo =>
    rintro i m nx ⟨root, tr, tf2, od, odb, oh, kvs, kvd, kvh, reg, nd, w2, w3, w4, w7, w8, w9, hd, hr, hz, hdb, hzd, D, hroot, hh, hok, hhz, rfl⟩
    exact .tail _ (.tail _ (.tail _ (.tail _ (.tail _ (.head _)))))
  case hne => exact (lN _ (.head _)).2.1
  case j0 => exact ⟨root, tr, _, od, odb, oh, kvs, kvd, [], reg, nd, rfl, rfl, rfl, rfl, rfl, rfl, hd, hr, by omega, hdb, by omega, D, hroot, hh, hok, Nat.le_refl _, rfl⟩
  case turn =>
    clear hd hr hdb D hroot hh hok hz hzd
    rintro i I v m₁ nx it h7 tk7 hv ⟨root, tr, tf2, od, odb, oh, kvs, kvd, kvh, reg, nd, w2, w3, w4, w7, w8, w9, hd, hr, hz, hdb, hzd, D, hroot, hh, hok, hhz, rfl⟩ hof F1 N1
    have hi3 : i < 3 := by
      exact Nat.lt_of_lt_of_le (List.getElem?_eq_some_iff.mp hv).1 hw3
    obtain ⟨nv, tnv, rfl⟩ := ints_get hI1 hv
    have a1 : @Ne Nat t I := hof _ (.head _)
    have a2 : @Ne Nat td I := hof _ (.tail _ (.head _))
    have a3 : @Ne Nat db I := hof _ (.tail _ (.tail _ (.head _)))
    have a4 : @Ne Nat r I := hof _ (.tail _ (.tail _ (.tail _ (.head _))))
    have a5 : @Ne Nat hl I := hof _ (.tail _ (.tail _ (.tail _ (.tail _ (.head _)))))
    have a6 : @Ne Nat S I := hof _ (.tail _ (.tail _ (.tail _ (.tail _ (.tail _ (.head _))))))
    have a9 : ∀ p ∈ base, p.1 ≠ I := fun p hp => hof p (.tail _ (.tail _ (.tail _ (.tail _ (.tail _ (.tail _ hp))))))
    clear hof raw
    have s1 : @Ne Nat td S := Nat.ne_of_lt g1
    have s2 : @Ne Nat db S := Nat.ne_of_lt g2
    have s3 : @Ne Nat r S := Nat.ne_of_lt g3
    have s4 : @Ne Nat hl S := Nat.ne_of_lt g4
    rw [see_all [(Str.ofString "tree", .ref t), (Str.ofString "script", .ref sc), (Str.ofString "first", .int n1 tf2), (Str.ofString "held", .ref hl), (Str.ofString "default", .bytes da dt), (Str.ofString "hash_of", .ref f)]
      (List.forall_mem_cons.mpr ⟨w2, List.forall_mem_cons.mpr ⟨w3, List.forall_mem_cons.mpr ⟨w4, List.forall_mem_cons.mpr ⟨w7, List.forall_mem_cons.mpr ⟨w8, List.forall_mem_cons.mpr ⟨w9, List.forall_mem_nil _⟩⟩⟩⟩⟩⟩)] at F1
    (repeat' (first | (k_unfold; (try dsimp only)) | (k_end; wrow_close) | ((with_reducible show wpAny _ _ (call (Value.ref _) _) _ _ _); k_here; (rename Mine.Mark => stopMark); (first | refine Mine.stop_call (by decide) ?_ | ((rename Mine.MarkU => stopMarkU); refine Mine.stop_callU (by decide) ?_))) | ((with_reducible show wpAny _ _ (exec (Stmt.For (Expr.Name _ _) (Expr.Subscript _ _ _) _ [] _) _) _ _ _); k_here; (rename Mine.Mark => stopMark); (rename Fr _ _ _ _ => lF'); (rename PassesOwn _ _ _ _ => lE'); (with_unfolding_all refine' For_invVF lF' ?k1 ?k2 ?_ (hE := lE'); (case k1 => k_dflt exact rfl); (case k2 => k_dflt exact rfl); k_whole)) | ((with_reducible show wpAny _ _ (pyIter (Value.ref _)) _ _ _); k_here; (rename Mine.Mark => stopMark); refine Mine.stop_at ?_) | ((with_reducible show wpAny _ _ (setItem (Value.ref _) (Value.bytes _ _) _) _ _ _); k_here; k_dflt (refine' kda_set (knd := PySem.W.bytesKind _ _) ?F ?N ?U ?d (Mine.bytes_is _ _ _ _) ?z ?_; (case F => k_asm); (case N => k_asm); (case U => k_updF); (case d => k_asm); (case z => rw [sizeLine_eq]; omega)); intro _ _ _ N9' _; (try dsimp only at N9')) | ((with_reducible show wpAny _ _ (subscriptTail _ _ (Value.ref _) (Value.bytes _ _)) _ _ _); k_here; k_dflt (refine kda_item (knd := PySem.W.bytesKind _ _) (by k_asm) (by (first | k_mem | walk_at "mine tail")) (by k_asm) (Mine.bytes_is _ _ _ _) (by first | assumption | exact Mine.valueAt_self) ?_)) | walk1 | (dsimp only; walk1) | (leave1; walk_say "STEP leave1"; try dsimp only)))
    unfold Stop
    refine' useC ?frA ?h1A ?h2A ?h3A (c_octet w  ?BA ?FA ?XA ?TA ?hkA (cb_drop ?NA ?subA) (by omega) ?retA)
    case FA => k_asm
    case BA => k_asm
    case XA => k_asm
    case TA => k_asm
    case NA => k_asm
    case subA => walk_at "mine sub"
    case frA => exact rfl
    case h1A => exact rfl
    case hkA => exact rfl
    case h2A => (first | exact Nat.le_of_ble_eq_true rfl | ((simp only [depth_under_make, depth_in1, depth_deeper, units_under_make, units_in1, units_deeper]); exact Nat.le_of_ble_eq_true rfl))
    case h3A => (first | exact Nat.le_of_ble_eq_true rfl | ((simp only [depth_under_make, depth_in1, depth_deeper, units_under_make, units_in1, units_deeper]); exact Nat.le_of_ble_eq_true rfl))
    case retA =>
      intro u tu h2 tk2 F2 N2
      show wpAny _ _ _ _ _ _
      (repeat' (first | (k_unfold; (try dsimp only)) | (k_end; wrow_close) | ((with_reducible show wpAny _ _ (call (Value.ref _) _) _ _ _); k_here; (rename Mine.Mark => stopMark); (first | refine Mine.stop_call (by decide) ?_ | ((rename Mine.MarkU => stopMarkU); refine Mine.stop_callU (by decide) ?_))) | ((with_reducible show wpAny _ _ (exec (Stmt.For (Expr.Name _ _) (Expr.Subscript _ _ _) _ [] _) _) _ _ _); k_here; (rename Mine.Mark => stopMark); (rename Fr _ _ _ _ => lF'); (rename PassesOwn _ _ _ _ => lE'); (with_unfolding_all refine' For_invVF lF' ?k1 ?k2 ?_ (hE := lE'); (case k1 => k_dflt exact rfl); (case k2 => k_dflt exact rfl); k_whole)) | ((with_reducible show wpAny _ _ (pyIter (Value.ref _)) _ _ _); k_here; (rename Mine.Mark => stopMark); refine Mine.stop_at ?_) | ((with_reducible show wpAny _ _ (setItem (Value.ref _) (Value.bytes _ _) _) _ _ _); k_here; k_dflt (refine' kda_set (knd := PySem.W.bytesKind _ _) ?F ?N ?U ?d (Mine.bytes_is _ _ _ _) ?z ?_; (case F => k_asm); (case N => k_asm); (case U => k_updF); (case d => k_asm); (case z => rw [sizeLine_eq]; omega)); intro _ _ _ N9' _; (try dsimp only at N9')) | ((with_reducible show wpAny _ _ (subscriptTail _ _ (Value.ref _) (Value.bytes _ _)) _ _ _); k_here; k_dflt (refine kda_item (knd := PySem.W.bytesKind _ _) (by k_asm) (by (first | k_mem | walk_at "mine tail")) (by k_asm) (Mine.bytes_is _ _ _ _) (by first | assumption | exact Mine.valueAt_self) ?_)) | walk1 | (dsimp only; walk1) | (leave1; walk_say "STEP leave1"; try dsimp only)))
      unfold Stop
      refine' useC ?frB1 ?h1B1 ?h2B1 ?h3B1 (c_value w  ?BB1 ?FB1 ?XB1 ?TB1 ?hkB1 (cb_drop ?NB1 ?subB1) ?hxB1 ?retB1)
      case FB1 => k_asm
      case BB1 => k_asm
      case XB1 => k_asm
      case TB1 => k_asm
      case NB1 => k_asm
      case subB1 => walk_at "mine sub"
      case frB1 => exact rfl
      case h1B1 => exact rfl
      case hkB1 => exact rfl
      case h2B1 => (first | exact Nat.le_of_ble_eq_true rfl | ((simp only [depth_under_make, depth_in1, depth_deeper, units_under_make, units_in1, units_deeper]); exact Nat.le_of_ble_eq_true rfl))
      case h3B1 => (first | exact Nat.le_of_ble_eq_true rfl | ((simp only [depth_under_make, depth_in1, depth_deeper, units_under_make, units_in1, units_deeper]); exact Nat.le_of_ble_eq_true rfl))
      case hxB1 => exact fdiv_nn (by omega) (by decide)
      case retB1 =>
        intro vb tvb h3 tk3 F3 N3
        show wpAny _ _ _ _ _ _
        (repeat' (first | (k_unfold; (try dsimp only)) | (k_end; wrow_close) | ((with_reducible show wpAny _ _ (call (Value.ref _) _) _ _ _); k_here; (rename Mine.Mark => stopMark); (first | refine Mine.stop_call (by decide) ?_ | ((rename Mine.MarkU => stopMarkU); refine Mine.stop_callU (by decide) ?_))) | ((with_reducible show wpAny _ _ (exec (Stmt.For (Expr.Name _ _) (Expr.Subscript _ _ _) _ [] _) _) _ _ _); k_here; (rename Mine.Mark => stopMark); (rename Fr _ _ _ _ => lF'); (rename PassesOwn _ _ _ _ => lE'); (with_unfolding_all refine' For_invVF lF' ?k1 ?k2 ?_ (hE := lE'); (case k1 => k_dflt exact rfl); (case k2 => k_dflt exact rfl); k_whole)) | ((with_reducible show wpAny _ _ (pyIter (Value.ref _)) _ _ _); k_here; (rename Mine.Mark => stopMark); refine Mine.stop_at ?_) | ((with_reducible show wpAny _ _ (setItem (Value.ref _) (Value.bytes _ _) _) _ _ _); k_here; k_dflt (refine' kda_set (knd := PySem.W.bytesKind _ _) ?F ?N ?U ?d (Mine.bytes_is _ _ _ _) ?z ?_; (case F => k_asm); (case N => k_asm); (case U => k_updF); (case d => k_asm); (case z => rw [sizeLine_eq]; omega)); intro _ _ _ N9' _; (try dsimp only at N9')) | ((with_reducible show wpAny _ _ (subscriptTail _ _ (Value.ref _) (Value.bytes _ _)) _ _ _); k_here; k_dflt (refine kda_item (knd := PySem.W.bytesKind _ _) (by k_asm) (by (first | k_mem | walk_at "mine tail")) (by k_asm) (Mine.bytes_is _ _ _ _) (by first | assumption | exact Mine.valueAt_self) ?_)) | walk1 | (dsimp only; walk1) | (leave1; walk_say "STEP leave1"; try dsimp only)))
        unfold Stop
        (rename Obj.IsDictOf _ _ (stored _ _ _) => hhX)
        obtain ⟨oh1, hod, hh1⟩ := nameOd hhX
        clear hhX
        subst hod
        refine' useC ?frC1 ?h1C1 ?h2C1 ?h3C1 (c_set w (rest := (hl, oh1) :: (S, W.listOf wsS.toArray 0) :: (I, it) :: base) ?BC1 ?FC1 ?XC1 ?TC1 ?hkC1 (cb_drop ?NC1 ?subC1) ⟨n1', n2, n5, ?b1C1, ?b2C1, ?b3C1, lo⟩ ?HC1 hd hr (by omega) hdb (by omega) D hroot ?retC1)
        case FC1 => k_asm
        case BC1 => k_asm
        case XC1 => k_asm
        case TC1 => k_asm
        case NC1 => k_asm
        case subC1 => walk_at "mine sub"
        case frC1 => exact rfl
        case h1C1 => exact rfl
        case hkC1 => exact rfl
        case h2C1 => (first | exact Nat.le_of_ble_eq_true rfl | ((simp only [depth_under_make, depth_in1, depth_deeper, units_under_make, units_in1, units_deeper]); exact Nat.le_of_ble_eq_true rfl))
        case h3C1 => (first | exact Nat.le_of_ble_eq_true rfl | ((simp only [depth_under_make, depth_in1, depth_deeper, units_under_make, units_in1, units_deeper]); exact Nat.le_of_ble_eq_true rfl))
        case b1C1 => k_all
        case b2C1 => k_all
        case b3C1 => k_all
        case HC1 => exact H.mono fun p hp => .tail _ (.tail _ (.tail _ hp))
        case retC1 =>
          intro XA avs root' tr' od' odb' kvs' kvd' reg' hs h4 tk4 F4 N4 hd' hr' hpx hlx hdb' hzd' D' hroot' hav
          show wpAny _ _ _ _ _ _
          (repeat' (first | (k_unfold; (try dsimp only)) | (k_end; wrow_close) | ((with_reducible show wpAny _ _ (call (Value.ref _) _) _ _ _); k_here; (rename Mine.Mark => stopMark); (first | refine Mine.stop_call (by decide) ?_ | ((rename Mine.MarkU => stopMarkU); refine Mine.stop_callU (by decide) ?_))) | ((with_reducible show wpAny _ _ (exec (Stmt.For (Expr.Name _ _) (Expr.Subscript _ _ _) _ [] _) _) _ _ _); k_here; (rename Mine.Mark => stopMark); (rename Fr _ _ _ _ => lF'); (rename PassesOwn _ _ _ _ => lE'); (with_unfolding_all refine' For_invVF lF' ?k1 ?k2 ?_ (hE := lE'); (case k1 => k_dflt exact rfl); (case k2 => k_dflt exact rfl); k_whole)) | ((with_reducible show wpAny _ _ (pyIter (Value.ref _)) _ _ _); k_here; (rename Mine.Mark => stopMark); refine Mine.stop_at ?_) | ((with_reducible show wpAny _ _ (setItem (Value.ref _) (Value.bytes _ _) _) _ _ _); k_here; k_dflt (refine' kda_set (knd := PySem.W.bytesKind _ _) ?F ?N ?U ?d (Mine.bytes_is _ _ _ _) ?z ?_; (case F => k_asm); (case N => k_asm); (case U => k_updF); (case d => k_asm); (case z => rw [sizeLine_eq]; omega)); intro _ _ _ N9' _; (try dsimp only at N9')) | ((with_reducible show wpAny _ _ (subscriptTail _ _ (Value.ref _) (Value.bytes _ _)) _ _ _); k_here; k_dflt (refine kda_item (knd := PySem.W.bytesKind _ _) (by k_asm) (by (first | k_mem | walk_at "mine tail")) (by k_asm) (Mine.bytes_is _ _ _ _) (by first | assumption | exact Mine.valueAt_self) ?_)) | walk1 | (dsimp only; walk1) | (leave1; walk_say "STEP leave1"; try dsimp only)))
          (rename Fr _ _ _ _ => lF2); (rename News _ _ _ _ => lN2)
          refine UnrEnd.intro lF2 lN2 ((t, instObj 214 td) :: (td, tdOf x (.bytes da dt) f db (.bytes root' tr')) :: (db, odb') :: (r, od') :: (hl, oh1) :: (S, W.listOf wsS.toArray 0) :: base) (by walk_at "mine sub") (List.forall_mem_cons.mpr ⟨a1, List.forall_mem_cons.mpr ⟨a2, List.forall_mem_cons.mpr ⟨a3, List.forall_mem_cons.mpr ⟨a4, List.forall_mem_cons.mpr ⟨a5, List.forall_mem_cons.mpr ⟨a6, a9⟩⟩⟩⟩⟩⟩)
            ⟨root', tr', tf2, od', odb', oh1, kvs', kvd', _, reg', _, rfl, rfl, rfl, rfl, rfl, rfl, hd', hr', by omega, hdb', by omega, D'.congr put_held, hroot', hh1, hok.set, Nat.le_trans (stored_length_le _ _ _) (by omega), rfl⟩
  case done =>
    rintro m₁ nx h7 tk7 ⟨root, tr, tf2, od, odb, oh, kvs, kvd, kvh, reg, nd, w2, w3, w4, w7, w8, w9, hd, hr, hz, hdb, hzd, D, hroot, hh, hok, hhz, rfl⟩ F1 N1
    dsimp only
    refine law_mid w (base := (S, W.listOf wsS.toArray 0) :: base) (sc := sc) (svs := svs) (ns := ns) (n1 := n1) (by k_asm) F1 (by k_asm) (by k_asm) (by assumption) N1 ?apD (H.mono fun p hp => .tail _ hp) hd hr hdb D hroot hh hok (by omega) (by omega) (by omega) hsc hI hns hn1 w2 w3 w4 w7 w8 w9 fun m' h' tk' F9 N9 => ret m' h' tk' F9 (cb_drop N9 fun p hp => .tail _ hp)
    case apD => exact ⟨n1', n2, n3, n5, n6, n8, List.forall_mem_cons.mpr ⟨Nat.ne_of_gt g1, b1⟩, List.forall_mem_cons.mpr ⟨Nat.ne_of_gt g2, b2⟩, List.forall_mem_cons.mpr ⟨Nat.ne_of_gt g3, b3⟩, List.forall_mem_cons.mpr ⟨Nat.ne_of_gt g4, b4⟩, lo, lo2⟩
end Mine
namespace Mine
theorem tree_ctx (w : World) {h₀ h : Heap} {L f c' r cell z : Addr} {oc od ocell oz : Obj} {qual : Str} {doc pm ctv : Value} {vs : Array Value} {t : Tok}
    (N : News h₀ L h ((f, fnMade (Str.ofString "hash_of") qual hashParams hashBody hashScope [(Str.ofString "register", cell)] doc pm c' ctv) :: (c', oc) :: (r, od) :: (cell, ocell) :: (z, oz) :: []))
    (h1 : oc.data = .fields vs) (h2 : vs[1]? = some (.str qual t)) (h3 : ocell.data = .cell (some (.ref r))) (h4 : od.IsDictOf (PySem.strKind PySem.Challenge.rw_iu0037_01.row.prog w) []) (h5 : (r == sysModules) = false)
    (l1 : r < c' ∧ cell < c' ∧ z < c') (l2 : c' < f) (l3 : cell < r ∧ z < r) :
    News h₀ L h ((r, od) :: (f, fnMade (Str.ofString "hash_of") qual hashParams hashBody hashScope [(Str.ofString "register", cell)] doc pm c' ctv) :: (c', oc) :: (cell, ocell) :: (z, oz) :: []) ∧
    HashAt ((f, fnMade (Str.ofString "hash_of") qual hashParams hashBody hashScope [(Str.ofString "register", cell)] doc pm c' ctv) :: (c', oc) :: (cell, ocell) :: (z, oz) :: []) f r ∧
    (∀ p ∈ ((f, fnMade (Str.ofString "hash_of") qual hashParams hashBody hashScope [(Str.ofString "register", cell)] doc pm c' ctv) :: (c', oc) :: (cell, ocell) :: (z, oz) :: [] : List (Addr × Obj)), p.1 ≠ r) ∧
    od.IsDictOf (bytesKind PySem.Challenge.rw_iu0037_01.row.prog w) [] ∧ (r == sysModules) = false := by
  refine ⟨cb_drop N ?a, ⟨⟨qual, doc, pm, ctv, c', cell, oc, ocell, vs, t, .head _, .tail _ (.head _), h1, h2, .tail _ (.tail _ (.head _)), h3⟩⟩, ?b, empty_dict h4, h5⟩
  case a => walk_at "mine sub"
  case b =>
    have l1' : @LT.lt Nat _ r c' := l1.1
    have l2' : @LT.lt Nat _ c' f := l2
    have l3' : @LT.lt Nat _ cell r := l3.1
    have l4' : @LT.lt Nat _ z r := l3.2
    exact List.forall_mem_cons.mpr ⟨show @Ne Nat f r by omega, List.forall_mem_cons.mpr ⟨show @Ne Nat c' r by omega, List.forall_mem_cons.mpr ⟨show @Ne Nat cell r by omega, List.forall_mem_cons.mpr ⟨show @Ne Nat z r by omega, List.forall_mem_nil _⟩⟩⟩⟩
/-- behind the making of first -/
@[reducible] noncomputable def top2BS : {b : List Stmt // b = (fdBody lawStmt).drop 2} := by
  refine ⟨?b, ?h⟩
  case h => conv => rhs; whnf
@[reducible] noncomputable def top2B : List Stmt := top2BS.1
set_option maxHeartbeats 8000000 in
theorem law_top2 (w : World) {gd : Option (List Code)} {a : Addr} {ccd : Value} {A₀ : Around} {h₀ : Heap} {L : Addr} {m mg mb : Str → Option Value}
    {p : Program} {loose : List Str} {mean : ExcName → Option Value} {s : Shared} {Q : Flow → Shared → Prop} {E : Value → Shared → Prop} {base : List (Addr × Obj)} {f r sc : Addr} {od : Obj} {svs : List Value} {ns : List Int} {n1 : Int} {tf : Tok}
    (B : Below A₀ h₀ [] h₀) (F : Fr h₀ L s.heap m) (X : (Mine.z.heap_1_39 w.params).In h₀) (T : Top p loose mean mg mb h₀) (hE : PassesOwn (model PySem.Challenge.rw_iu0037_01.row.prog w) (ctop 302 7 gd (Str.ofString "law") lawScope L a ccd [] []) (envOf (Str.ofString "law") lawScope L a ccd) E)
    (N : News h₀ L s.heap ((r, od) :: base)) (H : HashAt base f r) (hoff : ∀ p ∈ base, p.1 ≠ r) (hd : od.IsDictOf (bytesKind PySem.Challenge.rw_iu0037_01.row.prog w) []) (hlo : (r == sysModules) = false)
    (hsc : h₀.IsList sc svs.toArray) (hI : IntsAre svs ns) (hns : ns.length ≤ 63) (hn1 : 0 ≤ n1)
    (m3 : m (Str.ofString "script") = some (.ref sc)) (m4 : m (Str.ofString "first") = some (.int n1 tf)) (m9 : m (Str.ofString "hash_of") = some (.ref f))
    (ret : ∀ m' h' tk', Fr h₀ L h' m' → News h₀ L h' base → Q (.ret (.bool true)) { s with heap := h', toks := tk' }) :
    wpAny (model PySem.Challenge.rw_iu0037_01.row.prog w) (ctop 302 7 gd (Str.ofString "law") lawScope L a ccd [] []) (execs top2B (envOf (Str.ofString "law") lawScope L a ccd)) Q E s := by
  revert X; k_fill; w_top off; intro X
  have mk9 := Mark.mk
  have mkU := MarkU.mk
  have mkW := MarkW.mk
  have d3 := Int.fmod_nonneg_of_pos n1 (b := 3) (by decide)
  have d4 := Int.fmod_lt_of_pos n1 (b := 3) (by decide)
  have hm := see_all [(Str.ofString "script", .ref sc), (Str.ofString "first", .int n1 tf), (Str.ofString "hash_of", .ref f)]
    (List.forall_mem_cons.mpr ⟨m3, List.forall_mem_cons.mpr ⟨m4, List.forall_mem_cons.mpr ⟨m9, List.forall_mem_nil _⟩⟩⟩)
  rw [hm] at F
  clear hm
  (repeat' (first | (k_unfold; (try dsimp only)) | (k_end; wrow_close) | ((with_reducible show wpAny _ _ (call (Value.ref _) _) _ _ _); k_here; (rename Mine.Mark => stopMark); (first | refine Mine.stop_call (by decide) ?_ | ((rename Mine.MarkU => stopMarkU); refine Mine.stop_callU (by decide) ?_))) | ((with_reducible show wpAny _ _ (execs (Stmt.For _ _ _ _ _ :: _) _) _ _ _); k_here; (rename Mine.MarkW => stopMarkW); refine Mine.stop_at ?_) | ((with_reducible show wpAny _ _ (execs (Stmt.Assign [Expr.Name (PySem.Str.ofString "default") _] _ _ :: _) _) _ _ _); k_here; (rename Mine.MarkV => stopMarkV); refine Mine.stop_at ?_) | ((with_reducible show wpAny _ _ (subscriptTail (Expr.Name _ _) (Expr.BinOp _ _ _ _) (Value.ref _) (Value.int _ _)) _ _ _); k_here; (rename Mine.MarkU => stopMarkU); k_dflt (refine' Mine.item_any ?N ?l ?v ?a ?b ?z ?_; (case N => k_asm); (case l => k_mem); (case v => (intro v hv; (repeat (first | exact absurd hv List.not_mem_nil | (rcases List.mem_cons.mp hv with rfl | hv; exact ⟨_, _, rfl⟩))))); (case a => omega); (case b => simp; omega); (case z => simp)); intro _ _) | walk1 | (dsimp only; walk1) | (leave1; walk_say "STEP leave1"; try dsimp only)))
  unfold Stop
  refine' useW ?frP ?h1P ?h2P ?h3P (c_tree w (R := fun _ _ => True) (reg := []) ?BP ?FP ?XP ?TP ?hkP (cb_drop ?NP ?subP) hoff hlo H hd ⟨rfl, List.nodup_nil, fun i k v h => by cases h⟩ (by decide) ?retP)
  case FP => k_asm
  case BP => k_asm
  case XP => k_asm
  case TP => k_asm
  case NP => k_asm
  case subP => walk_at "mine sub"
  case frP => exact rfl
  case h1P => exact rfl
  case hkP => exact rfl
  case h2P => (first | exact Nat.le_of_ble_eq_true rfl | ((simp only [depth_under_make, depth_in1, depth_deeper, units_under_make, units_in1, units_deeper]); exact Nat.le_of_ble_eq_true rfl))
  case h3P => (first | exact Nat.le_of_ble_eq_true rfl | ((simp only [depth_under_make, depth_in1, depth_deeper, units_under_make, units_in1, units_deeper]); exact Nat.le_of_ble_eq_true rfl))
  case retP =>
    intro t td db x root tr od' odb kvs' kvd reg' es h' tk' F2 N2 ap hd hr hp hl hdb hzd D hroot
    show wpAny _ _ _ _ _ _
    (repeat' (first | (k_unfold; (try dsimp only)) | (k_end; wrow_close) | ((with_reducible show wpAny _ _ (call (Value.ref _) _) _ _ _); k_here; (rename Mine.Mark => stopMark); (first | refine Mine.stop_call (by decide) ?_ | ((rename Mine.MarkU => stopMarkU); refine Mine.stop_callU (by decide) ?_))) | ((with_reducible show wpAny _ _ (execs (Stmt.For _ _ _ _ _ :: _) _) _ _ _); k_here; (rename Mine.MarkW => stopMarkW); refine Mine.stop_at ?_) | ((with_reducible show wpAny _ _ (execs (Stmt.Assign [Expr.Name (PySem.Str.ofString "default") _] _ _ :: _) _) _ _ _); k_here; (rename Mine.MarkV => stopMarkV); refine Mine.stop_at ?_) | ((with_reducible show wpAny _ _ (subscriptTail (Expr.Name _ _) (Expr.BinOp _ _ _ _) (Value.ref _) (Value.int _ _)) _ _ _); k_here; (rename Mine.MarkU => stopMarkU); k_dflt (refine' Mine.item_any ?N ?l ?v ?a ?b ?z ?_; (case N => k_asm); (case l => k_mem); (case v => (intro v hv; (repeat (first | exact absurd hv List.not_mem_nil | (rcases List.mem_cons.mp hv with rfl | hv; exact ⟨_, _, rfl⟩))))); (case a => omega); (case b => simp; omega); (case z => simp)); intro _ _) | walk1 | (dsimp only; walk1) | (leave1; walk_say "STEP leave1"; try dsimp only)))
    unfold Stop
    (rename Obj.IsDictOf (PySem.strKind _ _) _ [] => hh0)
    show wpAny _ _ (execs sliceB _) _ _ _
    obtain ⟨a1, a2, a3, b1, b2, b3, c1⟩ := ap
    refine' law_slice w ?BZ ?FZ ?XZ ?TZ hE (cb_drop ?NZ ?subZ) ?apZ H hd hr hdb (D.congr fun a _ => rfl) hroot (empty_dict hh0) ⟨List.nodup_nil, fun p hp => by cases hp⟩ ?z1 ?z2 hsc hI hns hn1 ?m2 ?m3 ?m4 ?m7 ?m8 ?m9 ret
    case FZ => k_asm
    case BZ => k_asm
    case XZ => k_asm
    case TZ => k_asm
    case NZ => k_asm
    case subZ => walk_at "mine sub"
    case m2 => exact rfl
    case m3 => exact rfl
    case m4 => exact rfl
    case m7 => exact rfl
    case m8 => exact rfl
    case m9 => exact rfl
    case z1 => exact Nat.le_trans hl (by decide)
    case z2 => omega
    case apZ => exact ⟨a1, a2, by k_ne, a3, by k_ne, by k_ne, b3, b2, b1, (by k_all), c1, by assumption⟩
end Mine
set_option maxHeartbeats 8000000 in
theorem PySem.Challenge.cw_iu0037_01_holds : PySem.Challenge.rw_iu0037_01.Holds := by
  refine Mine.z.hd ?_
  k_go0
  all_goals try k_fold
  all_goals (have mk9 := Mine.Mark.mk)
  all_goals (have mkV := Mine.MarkV.mk)
  all_goals (repeat' (first | (k_unfold; (try dsimp only)) | (k_end; wrow_close) | ((with_reducible show wpAny _ _ (call (Value.ref _) _) _ _ _); k_here; (rename Mine.Mark => stopMark); (first | refine Mine.stop_call (by decide) ?_ | ((rename Mine.MarkU => stopMarkU); refine Mine.stop_callU (by decide) ?_))) | ((with_reducible show wpAny _ _ (execs (Stmt.For _ _ _ _ _ :: _) _) _ _ _); k_here; (rename Mine.MarkW => stopMarkW); refine Mine.stop_at ?_) | ((with_reducible show wpAny _ _ (execs (Stmt.Assign [Expr.Name (PySem.Str.ofString "default") _] _ _ :: _) _) _ _ _); k_here; (rename Mine.MarkV => stopMarkV); refine Mine.stop_at ?_) | ((with_reducible show wpAny _ _ (subscriptTail (Expr.Name _ _) (Expr.BinOp _ _ _ _) (Value.ref _) (Value.int _ _)) _ _ _); k_here; (rename Mine.MarkU => stopMarkU); k_dflt (refine' Mine.item_any ?N ?l ?v ?a ?b ?z ?_; (case N => k_asm); (case l => k_mem); (case v => (intro v hv; (repeat (first | exact absurd hv List.not_mem_nil | (rcases List.mem_cons.mp hv with rfl | hv; exact ⟨_, _, rfl⟩))))); (case a => omega); (case b => simp; omega); (case z => simp)); intro _ _) | walk1 | (dsimp only; walk1) | (leave1; walk_say "STEP leave1"; try dsimp only)))
  all_goals unfold Mine.Stop
  all_goals (rename Fr _ _ _ _ => lF)
  all_goals (rename News _ _ _ _ => lN)
  all_goals (have q := Mine.tree_ctx _ lN (by assumption) (by assumption) (by assumption) (by assumption) (by assumption) (by assumption) (by assumption) (by assumption))
  all_goals (obtain ⟨q1, q2, q3, q4, q5⟩ := q)
  all_goals clear lN
  all_goals (rename World => w)
  all_goals focus
    show wpAny _ _ (execs Mine.top2B _) _ _ _
    refine' Mine.law_top2 w ?BZ ?FZ ?XZ ?TZ ?hEZ q1 q2 q3 q4 q5 ?hsc ?hI ?hns ?hn1 ?m3 ?m4 ?m9 ?retZ
    case FZ => k_asm
    case BZ => k_asm
    case XZ => k_asm
    case TZ => k_asm
    case m3 => exact rfl
    case m4 => exact rfl
    case m9 => exact rfl
    case hEZ =>
      show PassesOwn _ (callerA.deeper _) _ _
      passes_own
    case hsc => k_asm
    case hI => assumption
    case hns => omega
    case hn1 => first | omega | (split <;> omega)
    case retZ =>
      intro m9 h9 tk9 F9 N9
      dsimp only
      (repeat' (first | (k_unfold; (try dsimp only)) | (k_end; wrow_close) | ((with_reducible show wpAny _ _ (call (Value.ref _) _) _ _ _); k_here; (rename Mine.Mark => stopMark); (first | refine Mine.stop_call (by decide) ?_ | ((rename Mine.MarkU => stopMarkU); refine Mine.stop_callU (by decide) ?_))) | ((with_reducible show wpAny _ _ (execs (Stmt.For _ _ _ _ _ :: _) _) _ _ _); k_here; (rename Mine.MarkW => stopMarkW); refine Mine.stop_at ?_) | ((with_reducible show wpAny _ _ (execs (Stmt.Assign [Expr.Name (PySem.Str.ofString "default") _] _ _ :: _) _) _ _ _); k_here; (rename Mine.MarkV => stopMarkV); refine Mine.stop_at ?_) | ((with_reducible show wpAny _ _ (subscriptTail (Expr.Name _ _) (Expr.BinOp _ _ _ _) (Value.ref _) (Value.int _ _)) _ _ _); k_here; (rename Mine.MarkU => stopMarkU); k_dflt (refine' Mine.item_any ?N ?l ?v ?a ?b ?z ?_; (case N => k_asm); (case l => k_mem); (case v => (intro v hv; (repeat (first | exact absurd hv List.not_mem_nil | (rcases List.mem_cons.mp hv with rfl | hv; exact ⟨_, _, rfl⟩))))); (case a => omega); (case b => simp; omega); (case z => simp)); intro _ _) | walk1 | (dsimp only; walk1) | (leave1; walk_say "STEP leave1"; try dsimp only)))
