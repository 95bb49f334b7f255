import PyProof.Rows.All
import Wide.All
import OpenK.AllK
import Wide.FinOn
import PySem.Challenge.RW_rt0094_01
open PySem PySem.W PyProof.Rows PySem.Calls
set_option Elab.async false
set_option linter.unusedVariables false
set_option linter.unusedSimpArgs false
namespace Mine
local macro_rules | `(tactic| walk_at $s:str) => `(tactic| k_extra $s)
-- The head, in a theorem of its own: of a row of one's own over the same text and the same def (law called upon None: it raises TypeError at its first statement).
-- What the head lays down (the written heap part, the view, the top's run in pieces) is then used for the law itself (F15).
-- 1. law(None): the way to the raise.
section
variable {prog : Program} {w : World} {A : Around} {E : Value → Shared → Prop} {s : Shared}
theorem none_get : typeLookup (.type "NoneType") "__getitem__" = (pure none : Sem (Option Value)) := by kernel_rfl
theorem none_name : PySem.typeNameOf .none = (pure "NoneType" : Sem String) := by kernel_rfl
theorem none_item {i : Value} {Q : Value → Shared → Prop} (hh : A.handled = none) (h : ∀ h' tk e, Heap.NewExc s.heap h' e "TypeError" → E (.ref e) { s with heap := h', toks := tk }) :
    wpAny (model prog w) A (getItem .none i) Q E s := by
  unfold getItem
  refine wpAny_holding ?_
  refine wpAny_bind (m := sequenceKey .none i "__getitem__") (wpAny_of_eq (a := i) rfl ?_)
  refine wpAny_bind ?_
  unfold callSpecial?
  refine wpAny_bind (wpAny_specialOf (T := "NoneType") rfl none_get (wpAny_pure ?_))
  refine wpAny_bind (m := isType .none) (wpAny_of_eq (a := false) rfl ?_)
  show wpAny _ A (PySem.typeNameOf .none >>= fun x => raiseErrorMade "TypeError" (toString "'" ++ toString x ++ toString "' object is not subscriptable")) Q E s
  refine wpAny_bind (m := PySem.typeNameOf .none) (wpAny_of_eq none_name ?_)
  exact wpAny_raiseErrorMade plainExc_TypeError hh h (by decide +kernel)
theorem none_sub {value : Expr} {l u : Option Expr} {p : Pos} {i : Value} {Q : Value → Shared → Prop} (hh : A.handled = none) (h : ∀ h' tk e, Heap.NewExc s.heap h' e "TypeError" → E (.ref e) { s with heap := h', toks := tk }) :
    wpAny (model prog w) A (subscriptTail value (.Slice l u none p) .none i) Q E s := by
  unfold subscriptTail
  refine wpAny_bind ?_
  rw [getitemInPython_of_ne (by intro h; cases h)]
  refine wpAny_bind (wpAny_specialOf (T := "NoneType") rfl none_get (wpAny_pure ?_))
  refine wpAny_bind ?_
  exact wpAny_operating (none_item hh h)
end
theorem none_leave {M : Model} {A : Around} {c : ClaimW} {cl : Str → Option Addr} {hh h h1 : Heap} {args : List WData} {s₁ s' : Shared} {name : Str} {scope : Scope} {L a e : Addr} {cd : Value} {m : Str → Option Value}
    (hfr : A.frames = some []) (F : Fr s₁.heap L h1 m) (g : ∀ b o, h1.get? b = some o → h.get? b = some o) (hx : Heap.NewExc h s'.heap e "TypeError") (hg : s'.gens = #[]) (hr : c.raises args (.builtin "TypeError") = true) (hos : s'.os = s₁.os) (hkf : scope.kind = .function) :
    wpAny M (A.deeper (envOfC name scope L a cd)) (leaving (envOfC name scope L a cd) (.ref e)) (fun _ s'' => GoodWG c cl (ExcName.means hh) args s₁ (.error (.ref e)) s'') (fun e' s'' => GoodWG c cl (ExcName.means hh) args s₁ (.error e') s'') s' := by
  obtain ⟨⟨oL, es, ep, hL, hLd, hLk, hLf⟩, k, ab⟩ := F
  have F' : Fr s₁.heap L h m := ⟨⟨oL, es, ep, g _ _ hL, hLd, hLk, hLf⟩, fun b o q => g _ _ (k b o q), ab⟩
  exact wpAny_mono (leave_newC (r := raiser (.builtin "TypeError")) (args := []) hfr F' hx hg (raiser_raises _) hos hkf) (fun _ _ x => goodWG_of_raiser hr x.toG) (fun _ _ x => goodWG_of_raiser hr x.toG)
-- 2. The row; that it and the law's own row are well said: the look at the text once, in short steps of the kernel's.
def r2 : OpenRow := { prog := PySem.Challenge.rw_rt0094_01.prog, name := PySem.Str.ofString "law", records := [], args := [.none], returns := .bool, pre := .lit (.bool true), post := .lit (.bool true), raises := [(.builtin "TypeError", .lit (.bool true))], mutates := [], within := [], unshared := true, same := none, under := ⟨true, true, true⟩, after := ⟨true, true, true⟩, apart := false, loose := [], makers := [], pinned := true, writes := false, keeps := [] }
theorem looks : looksOpen PySem.Challenge.rw_rt0094_01.prog = true := by
  unfold looksOpen
  repeat' with_reducible apply look_both
  all_goals decide +kernel
theorem r2_said : r2.wellSaid = true := by
  have h : looksOpen r2.prog = true := looks
  unfold OpenRow.wellSaid OpenRow.partSaid
  rw [h]
  decide +kernel
theorem law_said : PySem.Challenge.rw_rt0094_01.wellSaid = true := by
  have h : looksOpen PySem.Challenge.rw_rt0094_01.row.prog = true := looks
  unfold OpenLaw.wellSaid OpenRow.wellSaid OpenRow.partSaid
  rw [h]
  repeat' with_reducible apply look_both
  all_goals decide +kernel
-- 3. The head would lay a double of each of its own constants (tw..) under this theorem's name, with a proof of equality (te..) that grows with the square of the constant: 46 MB.
-- It does without a double whose name is taken; these names, all under Mine.pre, are taken here. Nothing uses them.
theorem pre.tw11118472615564045499 : True := trivial
theorem pre.tw8125289683539537955 : True := trivial
theorem pre.tw9409586115867133245 : True := trivial
theorem pre.tw17680803279675618773 : True := trivial
theorem pre.tw8113819696807641309 : True := trivial
theorem pre.tw3488707201736865712 : True := trivial
theorem pre.tw14789437155079932549 : True := trivial
theorem pre.tw8050647239357041817 : True := trivial
theorem pre.tw14967782790706212462 : True := trivial
theorem pre.tw3744368537293892124 : True := trivial
theorem pre.tw16547657993923560659 : True := trivial
theorem pre.tw6548938536104458511 : True := trivial
theorem pre.tw5105748471666761287 : True := trivial
theorem pre.tw6984639926880643421 : True := trivial
theorem pre.tw12951121588697251329 : True := trivial
theorem pre.tw8274623536164426032 : True := trivial
theorem pre.tw1847581664246446794 : True := trivial
theorem pre.tw12349771046557744352 : True := trivial
theorem pre.tw12600001335209363398 : True := trivial
theorem pre.tw6519603108541746918 : True := trivial
theorem pre.tw868406912619844004 : True := trivial
theorem pre.tw9181419433902100537 : True := trivial
theorem pre.tw12111605802095395290 : True := trivial
theorem pre.tw17683474214446039663 : True := trivial
theorem pre.tw13985651320828149354 : True := trivial
theorem pre.tw8960298273192479886 : True := trivial
theorem pre.tw6973980458608848170 : True := trivial
theorem pre.tw4356598756921931229 : True := trivial
theorem pre.tw7205318348024006823 : True := trivial
theorem pre.tw14811703683298601042 : True := trivial
theorem pre.tw6767112457854269605 : True := trivial
theorem pre.tw15287351508561526039 : True := trivial
theorem pre.tw1519199417220949963 : True := trivial
theorem pre.tw10933684431934463483 : True := trivial
theorem pre.tw11460421374433590107 : True := trivial
theorem pre.tw4476213305569273621 : True := trivial
theorem pre.tw1111464524378067007 : True := trivial
theorem pre.tw4307320590711001565 : True := trivial
theorem pre.tw2896793110795482765 : True := trivial
theorem pre.tw8089614636097026548 : True := trivial
theorem pre.tw381845577398426587 : True := trivial
theorem pre.tw1562247505020969217 : True := trivial
theorem pre.tw1493470869393423090 : True := trivial
theorem pre.tw10467903544787568591 : True := trivial
theorem pre.tw11661489554611879777 : True := trivial
theorem pre.tw3539277104568050316 : True := trivial
theorem pre.tw2142029966526130302 : True := trivial
theorem pre.tw12274083203712686582 : True := trivial
theorem pre.tw16676685420422431488 : True := trivial
theorem pre.tw1873049638177181067 : True := trivial
theorem pre.tw8866184789985215761 : True := trivial
theorem pre.tw235555817698774555 : True := trivial
theorem pre.tw9048862158676561846 : True := trivial
theorem pre.tw9367949688124164720 : True := trivial
theorem pre.tw12209519486425430729 : True := trivial
theorem pre.tw12660056702362669563 : True := trivial
theorem pre.tw1134953709659117593 : True := trivial
theorem pre.tw925201451726626425 : True := trivial
theorem pre.tw2204125747762997160 : True := trivial
theorem pre.tw9925072483942813245 : True := trivial
theorem pre.tw12010930066579576610 : True := trivial
theorem pre.tw4827731062090534920 : True := trivial
theorem pre.tw13663304939719888959 : True := trivial
theorem pre.tw13511625669976193069 : True := trivial
theorem pre.tw5532335634301144135 : True := trivial
theorem pre.tw12537694972569961817 : True := trivial
theorem pre.tw15384540385098350899 : True := trivial
theorem pre.tw18177360088511047037 : True := trivial
theorem pre.tw17028943642903203401 : True := trivial
theorem pre.tw16731926899814475424 : True := trivial
theorem pre.tw2494791040518364336 : True := trivial
theorem pre.tw5281669908752499588 : True := trivial
theorem pre.tw4084086026405070310 : True := trivial
theorem pre.tw17813032836175352512 : True := trivial
theorem pre.tw13305933163451760600 : True := trivial
theorem pre.tw6431232979522229623 : True := trivial
theorem pre.tw9315323111575073388 : True := trivial
theorem pre.tw16060046418276744289 : True := trivial
theorem pre.tw10725728843894480583 : True := trivial
theorem pre.tw15130635324320710267 : True := trivial
theorem pre.tw14861680889543947245 : True := trivial
theorem pre.tw2864218492612468839 : True := trivial
theorem pre.tw17171853630340306582 : True := trivial
theorem pre.tw10121695084051488586 : True := trivial
theorem pre.tw5896042150136470975 : True := trivial
theorem pre.tw14898805574407847723 : True := trivial
theorem pre.tw720506306688461391 : True := trivial
theorem pre.tw4087977772668509057 : True := trivial
theorem pre.tw7483454239593532364 : True := trivial
theorem pre.tw1885593639795240310 : True := trivial
theorem pre.tw15368396088340907196 : True := trivial
theorem pre.tw1530791878691487140 : True := trivial
theorem pre.tw833301866567259626 : True := trivial
theorem pre.tw5779897831729120596 : True := trivial
theorem pre.tw10495619317700049557 : True := trivial
theorem pre.tw8599402730897727845 : True := trivial
theorem pre.tw15693231618869550497 : True := trivial
theorem pre.tw2495331874266312815 : True := trivial
theorem pre.tw8138631344701588614 : True := trivial
theorem pre.tw10534597610666090110 : True := trivial
theorem pre.tw12633947648045723924 : True := trivial
theorem pre.tw10408196067039045116 : True := trivial
theorem pre.tw13517933958026703327 : True := trivial
theorem pre.tw2842862063813979719 : True := trivial
theorem pre.tw13702654961898353498 : True := trivial
theorem pre.tw11167059680745534066 : True := trivial
theorem pre.tw14795137245576490350 : True := trivial
theorem pre.tw10091149122847604739 : True := trivial
theorem pre.tw5510518022562020494 : True := trivial
theorem pre.tw12276283196039961671 : True := trivial
theorem pre.tw5433925997484643697 : True := trivial
theorem pre.tw17706615225502904579 : True := trivial
theorem pre.tw6882613176781099269 : True := trivial
theorem pre.tw5368791875907632636 : True := trivial
theorem pre.tw11600251252059698432 : True := trivial
theorem pre.tw9755709050763076478 : True := trivial
theorem pre.tw12055143455770304844 : True := trivial
theorem pre.tw8913461469463844015 : True := trivial
theorem pre.tw14417016902113386360 : True := trivial
theorem pre.tw2126098536719519264 : True := trivial
theorem pre.tw7872898229747643751 : True := trivial
theorem pre.tw1050892389064381581 : True := trivial
theorem pre.tw191430818103548243 : True := trivial
theorem pre.tw2793876952464144092 : True := trivial
theorem pre.tw17373973320644317417 : True := trivial
theorem pre.tw1891802886393711113 : True := trivial
theorem pre.tw8077660925545611655 : True := trivial
theorem pre.tw17454632208202312435 : True := trivial
theorem pre.tw14120952737985720249 : True := trivial
theorem pre.tw7766291113635084844 : True := trivial
theorem pre.tw963679378083677624 : True := trivial
theorem pre.tw10854402850542949936 : True := trivial
theorem pre.tw456585482795024358 : True := trivial
theorem pre.tw30198436418510105 : True := trivial
theorem pre.tw14844808246951043556 : True := trivial
theorem pre.tw13207373630104666366 : True := trivial
theorem pre.tw2397827621436535734 : True := trivial
theorem pre.tw18004605724243984314 : True := trivial
theorem pre.tw14504007709385416882 : True := trivial
theorem pre.tw17282452723185359079 : True := trivial
theorem pre.tw15489355944739424747 : True := trivial
theorem pre.tw7744840787576684945 : True := trivial
theorem pre.tw15846384593253705126 : True := trivial
theorem pre.tw12361741206388785723 : True := trivial
theorem pre.tw14264410955460941182 : True := trivial
theorem pre.tw3094614900183604011 : True := trivial
theorem pre.tw1558717904242890169 : True := trivial
theorem pre.tw28029345213723098 : True := trivial
theorem pre.tw17947361977853104736 : True := trivial
theorem pre.tw1460512165978779608 : True := trivial
theorem pre.tw2339367589048809781 : True := trivial
theorem pre.tw10830961580914199252 : True := trivial
theorem pre.tw9552730113335097103 : True := trivial
theorem pre.tw13743101554249772228 : True := trivial
theorem pre.tw9155049887153803488 : True := trivial
theorem pre.tw17846943324724234284 : True := trivial
theorem pre.tw12285278899058290007 : True := trivial
theorem pre.tw3837823695312889917 : True := trivial
theorem pre.tw16009375183914227583 : True := trivial
theorem pre.tw11686044155741065774 : True := trivial
theorem pre.tw13691971330499074810 : True := trivial
theorem pre.tw9269883197500966196 : True := trivial
theorem pre.tw2901822031365257273 : True := trivial
theorem pre.tw2043026436479490878 : True := trivial
theorem pre.tw11383056963669434997 : True := trivial
theorem pre.tw14435009961475074242 : True := trivial
theorem pre.tw12656041258672910819 : True := trivial
theorem pre.tw9889784722808467691 : True := trivial
theorem pre.tw8578787315887284540 : True := trivial
theorem pre.tw3056967183029245664 : True := trivial
theorem pre.tw17224984220818489609 : True := trivial
theorem pre.tw12329847798736442354 : True := trivial
theorem pre.tw503137831086811483 : True := trivial
theorem pre.tw11368260480374895074 : True := trivial
theorem pre.tw15216588824572760413 : True := trivial
theorem pre.tw16785959692537240356 : True := trivial
theorem pre.tw11832514201138764445 : True := trivial
theorem pre.tw1957200725488321114 : True := trivial
theorem pre.tw13924473152081393076 : True := trivial
theorem pre.tw12697824874008152134 : True := trivial
theorem pre.tw3142542386609302197 : True := trivial
theorem pre.tw10337318894704955354 : True := trivial
theorem pre.tw7462887173716235764 : True := trivial
theorem pre.tw10407998980130990082 : True := trivial
theorem pre.tw7871981215989793078 : True := trivial
theorem pre.tw15552298541256452641 : True := trivial
theorem pre.tw6260126215559185383 : True := trivial
theorem pre.tw15577061551490466234 : True := trivial
theorem pre.tw18320262050320308368 : True := trivial
theorem pre.tw8406826420958275948 : True := trivial
theorem pre.tw7227131079710277698 : True := trivial
theorem pre.tw6232320607302061507 : True := trivial
theorem pre.tw4866971608788673576 : True := trivial
theorem pre.tw2987692468026973072 : True := trivial
theorem pre.tw10740070326456252 : True := trivial
theorem pre.tw17938041046208675427 : True := trivial
theorem pre.tw10087775131645468021 : True := trivial
theorem pre.tw6887083531147954808 : True := trivial
theorem pre.tw7306885616600677812 : True := trivial
theorem pre.tw2432886682013690578 : True := trivial
theorem pre.tw7226070088885751544 : True := trivial
theorem pre.tw1375586104308093436 : True := trivial
theorem pre.tw2572576715449792082 : True := trivial
theorem pre.tw6204301905142194262 : True := trivial
theorem pre.tw6319488865545141941 : True := trivial
theorem pre.tw11192428800738290410 : True := trivial
theorem pre.tw13303417010094829847 : True := trivial
theorem pre.tw2302775849342015749 : True := trivial
theorem pre.tw4579400933631224890 : True := trivial
theorem pre.tw546099227143320219 : True := trivial
theorem pre.tw15950970198058749793 : True := trivial
theorem pre.tw4307986566437227650 : True := trivial
theorem pre.tw17341748107572437700 : True := trivial
theorem pre.tw3526315950294055084 : True := trivial
theorem pre.tw124356168213406971 : True := trivial
theorem pre.tw6695662797832715526 : True := trivial
theorem pre.tw11117597133803449459 : True := trivial
theorem pre.tw5141576093561083736 : True := trivial
theorem pre.tw6327315350404671063 : True := trivial
theorem pre.tw9293138973955870494 : True := trivial
theorem pre.tw14504531411983417640 : True := trivial
theorem pre.tw5685710948710733392 : True := trivial
theorem pre.tw11477163547676270809 : True := trivial
theorem pre.tw15651868373517623625 : True := trivial
theorem pre.tw6846343938879960342 : True := trivial
theorem pre.tw4592789736104886690 : True := trivial
theorem pre.tw16884488975089422329 : True := trivial
theorem pre.tw16852057512633287067 : True := trivial
theorem pre.tw5090487543681262130 : True := trivial
theorem pre.tw16520217711010471092 : True := trivial
theorem pre.tw14070096154038975331 : True := trivial
theorem pre.tw1936523389482728524 : True := trivial
theorem pre.tw6468908739991884073 : True := trivial
theorem pre.tw15715415247232172914 : True := trivial
theorem pre.tw4936351757903562790 : True := trivial
theorem pre.tw2228330938466492814 : True := trivial
theorem pre.tw7404310320488361791 : True := trivial
theorem pre.tw10393038396013039072 : True := trivial
theorem pre.tw35304014675073246 : True := trivial
theorem pre.tw16258003978061591434 : True := trivial
theorem pre.tw7466802901070070636 : True := trivial
theorem pre.tw15598969767714994352 : True := trivial
theorem pre.tw4251858453314251639 : True := trivial
theorem pre.tw3745178552056971020 : True := trivial
theorem pre.tw4834714738879756663 : True := trivial
theorem pre.tw1455952714067624315 : True := trivial
theorem pre.tw17670664521834963977 : True := trivial
theorem pre.tw8779621719248428499 : True := trivial
theorem pre.tw18236140840165549141 : True := trivial
theorem pre.tw14678312121555283026 : True := trivial
theorem pre.tw10281252085104320626 : True := trivial
theorem pre.tw2256743641975187207 : True := trivial
theorem pre.tw17951621792752003255 : True := trivial
theorem pre.tw3084166743060496063 : True := trivial
theorem pre.tw5602671513192827635 : True := trivial
theorem pre.tw6330714749281072045 : True := trivial
theorem pre.tw18060547212737682071 : True := trivial
theorem pre.tw15243563585531634872 : True := trivial
theorem pre.tw7027690882501090706 : True := trivial
theorem pre.tw4144508531414183275 : True := trivial
theorem pre.tw3097859360267383691 : True := trivial
theorem pre.tw18051554182355063646 : True := trivial
theorem pre.tw2346428165239446087 : True := trivial
theorem pre.tw11422953727881016366 : True := trivial
theorem pre.tw4074826885689896570 : True := trivial
theorem pre.tw9163486881185348833 : True := trivial
theorem pre.tw18302127490750121730 : True := trivial
theorem pre.tw5941100111386047109 : True := trivial
theorem pre.tw512931023691214685 : True := trivial
theorem pre.tw3261195165716478934 : True := trivial
theorem pre.tw11736959194184035499 : True := trivial
theorem pre.tw15812367493763553726 : True := trivial
theorem pre.tw12423044404174920108 : True := trivial
theorem pre.tw2487895064821818521 : True := trivial
theorem pre.tw165629645232685827 : True := trivial
theorem pre.tw2834345416658533467 : True := trivial
theorem pre.tw18010645325281635401 : True := trivial
theorem pre.tw6034183652157711674 : True := trivial
theorem pre.tw1083846401382969032 : True := trivial
theorem pre.tw6737512137890597438 : True := trivial
theorem pre.tw12179400460883736 : True := trivial
theorem pre.tw13233266800153922966 : True := trivial
theorem pre.tw2147516935554881526 : True := trivial
theorem pre.tw13798339373520121222 : True := trivial
theorem pre.tw8220757499984453353 : True := trivial
theorem pre.tw1686993885542229018 : True := trivial
theorem pre.tw348168221346353151 : True := trivial
theorem pre.tw5901435557038343362 : True := trivial
theorem pre.tw14370870987140484787 : True := trivial
theorem pre.tw14864557699967703993 : True := trivial
theorem pre.tw6075171507606715781 : True := trivial
theorem pre.tw12875672086821768611 : True := trivial
theorem pre.tw16058929423575460821 : True := trivial
theorem pre.tw246745258367748990 : True := trivial
theorem pre.tw17268093052136287145 : True := trivial
theorem pre.tw1648145961390404281 : True := trivial
theorem pre.tw3075770761106440465 : True := trivial
theorem pre.tw4515043586379189080 : True := trivial
theorem pre.tw5916611623707148302 : True := trivial
theorem pre.tw15911490980385452904 : True := trivial
theorem pre.tw11418437431274373327 : True := trivial
theorem pre.tw12465533948053986477 : True := trivial
theorem pre.tw7078073923619058114 : True := trivial
theorem pre.tw3539868169495542887 : True := trivial
theorem pre.tw1691685179661515648 : True := trivial
theorem pre.tw10061183485513914473 : True := trivial
theorem pre.tw1744327949836340386 : True := trivial
theorem pre.tw14799728766091433518 : True := trivial
theorem pre.tw7964398728579978746 : True := trivial
theorem pre.tw16268650808249262707 : True := trivial
theorem pre.tw7383441886188000873 : True := trivial
theorem pre.tw7862065929708629009 : True := trivial
theorem pre.tw14569818649042903867 : True := trivial
theorem pre.tw6492504938478613368 : True := trivial
theorem pre.tw17841485591335020228 : True := trivial
theorem pre.tw498202580769791056 : True := trivial
theorem pre.tw8729141346455856134 : True := trivial
theorem pre.tw17370370564525365829 : True := trivial
theorem pre.tw14531996196986799985 : True := trivial
theorem pre.tw17434239335780912936 : True := trivial
theorem pre.tw14222412412683842119 : True := trivial
theorem pre.tw16614349812334507722 : True := trivial
theorem pre.tw2152995962621348627 : True := trivial
theorem pre.tw5147264164118438643 : True := trivial
theorem pre.tw14114672765552503122 : True := trivial
theorem pre.tw10584150303738031772 : True := trivial
theorem pre.tw10626571451207548414 : True := trivial
theorem pre.tw8646183201884414562 : True := trivial
theorem pre.tw4886116117891900527 : True := trivial
theorem pre.tw5075647022083550553 : True := trivial
theorem pre.tw18027193599098250407 : True := trivial
theorem pre.tw489669426845835767 : True := trivial
theorem pre.tw17576503954374717376 : True := trivial
theorem pre.tw15042315596094944778 : True := trivial
theorem pre.tw17779947637784298742 : True := trivial
theorem pre.tw14552072348316998079 : True := trivial
theorem pre.tw6615631486209965517 : True := trivial
theorem pre.tw9248483282066975539 : True := trivial
theorem pre.tw13676013984246606415 : True := trivial
theorem pre.tw12782663578184508038 : True := trivial
theorem pre.tw590388290315067818 : True := trivial
theorem pre.tw5185967812794802750 : True := trivial
theorem pre.tw6453602053160676839 : True := trivial
theorem pre.tw12455990067847257688 : True := trivial
theorem pre.tw1566006351459327484 : True := trivial
theorem pre.tw8301558168250483144 : True := trivial
theorem pre.tw3363428373326525988 : True := trivial
theorem pre.tw7316099461249669598 : True := trivial
theorem pre.tw5857112834756203396 : True := trivial
theorem pre.tw15123789955226152525 : True := trivial
theorem pre.tw10476441753547339612 : True := trivial
theorem pre.tw8137266143111972783 : True := trivial
theorem pre.tw5890552670396887144 : True := trivial
theorem pre.tw3841362995048172961 : True := trivial
theorem pre.tw7564766255729297416 : True := trivial
theorem pre.tw9505013678877558772 : True := trivial
theorem pre.tw9271824920137149763 : True := trivial
theorem pre.tw11389374557681466464 : True := trivial
theorem pre.tw7340609014648761036 : True := trivial
theorem pre.tw8351358002074471861 : True := trivial
theorem pre.tw11399554475807630645 : True := trivial
theorem pre.tw15353535704898639103 : True := trivial
theorem pre.tw5126384286747613818 : True := trivial
theorem pre.tw11632232044515301145 : True := trivial
theorem pre.tw18151825547678234113 : True := trivial
theorem pre.tw4406938201441374700 : True := trivial
theorem pre.tw3331293935044646375 : True := trivial
theorem pre.tw15217727220281956571 : True := trivial
theorem pre.tw15625995988735854195 : True := trivial
theorem pre.tw13261852673686306774 : True := trivial
theorem pre.tw13344253833810582256 : True := trivial
theorem pre.tw9453402838058930433 : True := trivial
theorem pre.tw4351630123409058234 : True := trivial
theorem pre.tw9853775219755516086 : True := trivial
theorem pre.tw15069200863386898969 : True := trivial
theorem pre.tw7798483633350419733 : True := trivial
theorem pre.tw17747810498848355795 : True := trivial
theorem pre.tw7264331424420516383 : True := trivial
theorem pre.tw18323317257344125845 : True := trivial
theorem pre.tw5155193400670720939 : True := trivial
theorem pre.tw5167664360043482673 : True := trivial
theorem pre.tw1385352955633275780 : True := trivial
theorem pre.tw3644608556721293339 : True := trivial
theorem pre.tw10657489962057554541 : True := trivial
theorem pre.tw2749649739559614557 : True := trivial
theorem pre.tw4186475853221050928 : True := trivial
theorem pre.tw13763285996321713714 : True := trivial
theorem pre.tw7615275554976931207 : True := trivial
theorem pre.tw12723660185843396471 : True := trivial
theorem pre.tw8923979195374158045 : True := trivial
-- 4. The row's proof.
set_option maxRecDepth 100000 in
set_option maxHeartbeats 8000000 in
set_option Elab.async true in
theorem pre : OpenRow.Holds r2 := by
  w_on
  have said := r2_said
  k_head
  (case hw => w_witness2)
  k_fill
  intro w s₀ s₁ mg mb G Y fa o pm cd doc dV kV ho hd hcd hD hmg hg args vals as hpre hlay hrd hwl hlo
  have KX := km_in_of Y
  have X := (Ground.X G).1
  have V := (Ground.X G).2
  refine Ground.open G ?_
  intro T B D TE TW
  try (refine guard_noD D (by decide +kernel) ?_; clear D)
  clear hmg
  wrow_args hpre hlay hrd hwl hlo
  refine enter_call ?_
  w_top on
  w_call any ho hd hcd hD T F
  clear hd
  k_drop
  (all_goals try k_fold)
  k_steps
  k_dflt (refine none_sub (by exact rfl) ?_)
  intro h' tk e hx
  k_dflt (exact none_leave rfl (by assumption) (fun b o q => Heap.get?_push_of_some _ q) hx (by assumption) (raisesW_true (.head _) rfl) rfl rfl)
-- the rest of the text waits here until that theorem stands
theorem pre_stands : Mine.pre.view_1_2 = Mine.pre.view_1_2 := rfl

theorem offBase : True := by
  w_top off
  trivial

/-- a claim, with the law's row and the written part in sight (for the library's own look-ups) -/
def About (_ : OpenLaw) (_ : Params → Frag) (P : Prop) : Prop := P

abbrev Grew (h h' : Heap) : Prop := ∀ b o, h.get? b = some o → h'.get? b = some o
theorem Grew.refl (h : Heap) : Grew h h := fun _ _ e => e
theorem Grew.trans {a b c : Heap} (x : Grew a b) (y : Grew b c) : Grew a c := fun _ _ e => y _ _ (x _ _ e)
theorem frGrew {h₀ h h' : Heap} {L : Addr} {m : Str → Option Value} (F : Fr h₀ L h m) (g : Grew h h') : Fr h₀ L h' m := by
  obtain ⟨⟨oL, es, ep, hL, hLd, hLk, hLf⟩, k, ab⟩ := F
  exact ⟨⟨oL, es, ep, g _ _ hL, hLd, hLk, hLf⟩, fun b o e => g _ _ (k b o e), ab⟩
theorem newsGrew {h₀ h h' : Heap} {L : Addr} {news : List (Addr × Obj)} (N : News h₀ L h news) (g : Grew h h') : News h₀ L h' news :=
  fun p hp => ⟨g _ _ (N p hp).1, (N p hp).2.1, (N p hp).2.2⟩

/-- what a call of the def at f upon vs gives: it ends, changes nothing that stood, and hands back what `post` says -/
def Sp (w : World) (mean : ExcName → Option Value) (mg mb : Str → Option Value) (f : Addr) (vs : List Value) (D : Nat) (pre : Heap → Prop) (post : Heap → Heap → Value → Prop) : Prop :=
  ∀ (dp un : Nat) (gd : Option (List Code)) (cn : Str) (cs : Scope) (a : Addr) (ccd : Value) (cl : List (Str × Addr)) (outer : List Env) (A₀ : Around) (base h₀ : Heap) (L : Addr) (m : Str → Option Value) (s : Shared) (Q E : Value → Shared → Prop),
    Below A₀ base outer h₀ → Fr h₀ L s.heap m → (Mine.pre.heap_1_1 w.params).In h₀ →
    Top topProg (looseW Mine.pre.view_1_2 [Str.ofString "_twin_re_1", Str.ofString "_special_chars_map", Str.ofString "_filemode_table"] ++ (recsOf Mine.pre.view_1_2).map (·.name) ++ (litsOf Mine.pre.view_1_2).map (·.1) ++ (clssOf Mine.pre.view_1_2 (looseW Mine.pre.view_1_2 [Str.ofString "_twin_re_1", Str.ofString "_special_chars_map", Str.ofString "_filemode_table"])).map (·.name)) mean mg mb h₀ →
    cs.kind = .function → dp + D < recursionLimit → un + 8 * D < cLine → pre s.heap →
    (∀ v h' tk', Grew s.heap h' → post s.heap h' v → Q v { s with heap := h', toks := tk' }) →
    wpAny (model PySem.Challenge.rw_rt0094_01.row.prog w) (ktrTop dp un gd cn cs L a ccd cl outer) (call (.ref f) vs) Q E s

section
variable {w : World} {mean : ExcName → Option Value} {mg mb : Str → Option Value} {f : Addr} {vs : List Value} {D : Nat} {pre : Heap → Prop} {post : Heap → Heap → Value → Prop}
  {dp un : Nat} {gd : Option (List Code)} {cn : Str} {cs : Scope} {a : Addr} {ccd : Value} {cl : List (Str × Addr)} {outer : List Env} {A₀ : Around} {base h₀ : Heap} {L : Addr} {m : Str → Option Value} {s : Shared} {Q E : Value → Shared → Prop}
theorem Sp.use {news : List (Addr × Obj)} (H : Sp w mean mg mb f vs D pre post) (B : Below A₀ base outer h₀) (F : Fr h₀ L s.heap m) (N : News h₀ L s.heap news) (X : (Mine.pre.heap_1_1 w.params).In h₀)
    (T : Top topProg (looseW Mine.pre.view_1_2 [Str.ofString "_twin_re_1", Str.ofString "_special_chars_map", Str.ofString "_filemode_table"] ++ (recsOf Mine.pre.view_1_2).map (·.name) ++ (litsOf Mine.pre.view_1_2).map (·.1) ++ (clssOf Mine.pre.view_1_2 (looseW Mine.pre.view_1_2 [Str.ofString "_twin_re_1", Str.ofString "_special_chars_map", Str.ofString "_filemode_table"])).map (·.name)) mean mg mb h₀)
    (hk : cs.kind = .function) (hd : dp + D < recursionLimit) (hu : un + 8 * D < cLine) (hp : pre s.heap)
    (h : ∀ v h' tk', Grew s.heap h' → Fr h₀ L h' m → News h₀ L h' news → post s.heap h' v → Q v { s with heap := h', toks := tk' }) :
    wpAny (model PySem.Challenge.rw_rt0094_01.row.prog w) (ktrTop dp un gd cn cs L a ccd cl outer) (call (.ref f) vs) Q E s :=
  H dp un gd cn cs a ccd cl outer A₀ base h₀ L m s Q E B F X T hk hd hu hp fun v h' tk' g p => h v h' tk' g (frGrew F g) (newsGrew N g) p
end

section
variable {w : World} {A A₀ : Around} {s : Shared} {base h₀ : Heap} {outer : List Env} {L : Addr} {m : Str → Option Value} {K : Frag} {prog p : Program} {loose : List Str} {mean : ExcName → Option Value} {mg mb : Str → Option Value}
  {R : Result → Shared → Prop}
/-- into a def's body, all that stands at the call being its ground -/
theorem enterS {env : Env} {name qual : Str} {params : Arguments} {body : List Stmt} {scope : Scope} {dV kV doc pm cdv ct oc : Value} {an od : Option Addr} {osl : Array (Option Value)} {f : Addr} {args : Args} {binds : List (Str × Value)}
    (B : Below A₀ base outer h₀) (F : Fr h₀ L s.heap m) (X₀ : K.In h₀) (T : Top p loose mean mg mb h₀) (hA : A.frames = some (env :: outer)) (hf : env.frame = some L) (hke : env.scope.kind = .function)
    (ho : K.lookup f = some ⟨oc, od, .func (fnOf name qual params body scope dV kV doc pm an cdv ct), osl⟩) (hcd : codeIn K cdv qual = true) (hroom : A.depth < recursionLimit)
    (hbind : BindsTo s (fnOf name qual params body scope dV kV doc pm an cdv ct) args binds) (hloc : ∀ y ∈ binds, scope.names.lookup y.1 = some .local)
    (h : ∀ h₁, let mm : Str → Option Value := fun y => binds.reverse.lookup y; Fr s.heap s.heap.objs.size h₁ mm → News s.heap s.heap.objs.size h₁ [] → Below A base (env :: outer) s.heap → K.In s.heap → Top p loose mean mg mb s.heap →
      let gg := s.gens; let dd := s.drawn; let oo := s.os; let EE : Env := envOf qual scope s.heap.objs.size f cdv; let AA : Around := A.deeper EE; wpAny (model prog w) AA (execs body EE)
        (fun fl s' => R (.ok (.ret (match fl with | .ret v => v | _ => .none))) s')
        (fun e s' => wpAny (model prog w) AA (leaving EE e) (fun _ s'' => R (.error e) s'') (fun e' s'' => R (.error e') s'') s')
        ⟨h₁, gg, dd, s.toks + binds.length, oo⟩)
    (hco : scope.isCoroutine = false) (hgen : scope.isGenerator = false) (hk : scope.kind = .function)
    (hcell : ∀ x ∈ scope.names, x.2 ≠ .cell) : codeAny (model prog w) A (.call (.ref f) args) R s := by
  refine codeAny_call_def (fd := fnOf name qual params body scope dV kV doc pm an cdv ct) (body := body) (binds := binds) hroom (F.keep _ _ (X₀ _ _ ho)) rfl (T.nolimit.keeps F.keep) (codeRec_of (X₀.keeps F.keep) hcd) rfl hbind hcell hloc (fun h₁ hns hk₁ => ?_) hco hgen hk
  have B' := pushX B F hf hke
  exact h h₁ ⟨hns, hk₁, Nat.le_refl _⟩ News.nil ⟨hA, B'.stays, B'.frames⟩ (X₀.keeps F.keep) (T.keeps F.keep)
end

theorem wp_peek1 {α : Type} {K : Frag} {M : Model} {A : Around} {E : Value → Shared → Prop} {Q : α → Shared → Prop} {s : Shared} {o : Obj} {r : Addr → α}
    (X : K.In s.heap) (q : Q (r s.heap.objs.size) { s with heap := s.heap.push o }) :
    ∀ (t : Sem α) (g : Addr → Option α), peek1 K ⟨M.prog, M.w.params⟩ t = some (o, g) → (∀ D, g D = some (r D)) → wpAny M A t Q E s := by
  intro t
  induction t with
  | rule _ k ih => intro g e hg Γ p hΓ; exact ih () g e hg Γ p hΓ
  | point _ k ih => intro g e hg Γ p hΓ; exact ih () g e hg Γ p hΓ
  | ask k ih => intro g e hg Γ p hΓ; exact ih _ g e hg Γ p hΓ
  | load a _ k ih =>
    intro g e hg Γ p hΓ
    simp only [peek1] at e
    split at e
    · rename_i ob ho; exact ⟨ob, X _ _ ho, ih ob g e hg Γ p hΓ⟩
    · cases e
  | alloc ob k _ =>
    intro g e hg
    have e : some (ob, fun D => peek K ⟨M.prog, M.w.params⟩ (k D)) = some (o, g) := e
    obtain ⟨e1, e2⟩ := Prod.mk.inj (Option.some.inj e)
    subst e1
    subst e2
    have X' : K.In (s.heap.push ob) := X.keeps fun b x hb => Heap.get?_push_of_some _ hb
    show wpAny M A (alloc ob >>= k) Q E s
    refine wpAny_bind (wpAny_alloc ?_)
    exact (Looks.of_peek (M := M) (h := s.heap.push ob) X' (hg s.heap.objs.size)).here (s := { s with heap := s.heap.push ob }) q
  | _ => intro g e; cases e
theorem get_at_size (h : Heap) : h.get? h.objs.size = none := by
  cases q : h.get? h.objs.size with
  | none => rfl
  | some o => exact absurd (Heap.lt_size q) (Nat.lt_irrefl _)

section
variable {w : World} {A A₀ : Around} {s : Shared} {base h₀ : Heap} {outer : List Env} {L : Addr} {m : Str → Option Value} {K : Frag} {prog p : Program} {loose : List Str} {mean : ExcName → Option Value} {mg mb : Str → Option Value}
  {R : Result → Shared → Prop}
/-- into the body of a def with a star parameter -/
theorem enterRest {env : Env} {name qual : Str} {params : Arguments} {body : List Stmt} {scope : Scope} {dV kV doc pm cdv ct oc : Value} {an od : Option Addr} {osl : Array (Option Value)} {f : Addr} {args : Args} {vs : List Value} {g₁ : Addr → Option (List (Str × Value))} {binds : Addr → List (Str × Value)}
    (B : Below A₀ base outer h₀) (F : Fr h₀ L s.heap m) (X₀ : K.In h₀) (T : Top p loose mean mg mb h₀) (hA : A.frames = some (env :: outer)) (hf : env.frame = some L) (hke : env.scope.kind = .function)
    (ho : K.lookup f = some ⟨oc, od, .func (fnOf name qual params body scope dV kV doc pm an cdv ct), osl⟩) (hcd : codeIn K cdv qual = true) (hroom : A.depth < recursionLimit)
    (hp : peek1 K ⟨prog, w.params⟩ (bindArgs (fnOf name qual params body scope dV kV doc pm an cdv ct) args) = some (({ cls := .type "tuple", data := .seq vs.toArray } : Obj), g₁))
    (hg : ∀ D, g₁ D = some (binds D)) (hloc : ∀ D, ∀ y ∈ binds D, scope.names.lookup y.1 = some .local)
    (h : ∀ D L' h₁, let mm : Str → Option Value := fun y => (binds D).reverse.lookup y; Fr s.heap L' h₁ mm → News s.heap L' h₁ [(D, ({ cls := .type "tuple", data := .seq vs.toArray } : Obj))] → Below A base (env :: outer) s.heap → K.In s.heap → Top p loose mean mg mb s.heap →
      let gg := s.gens; let dd := s.drawn; let oo := s.os; let EE : Env := envOf qual scope L' f cdv; let AA : Around := A.deeper EE; wpAny (model prog w) AA (execs body EE)
        (fun fl s' => R (.ok (.ret (match fl with | .ret v => v | _ => .none))) s')
        (fun e s' => wpAny (model prog w) AA (leaving EE e) (fun _ s'' => R (.error e) s'') (fun e' s'' => R (.error e') s'') s')
        ⟨h₁, gg, dd, s.toks + (binds D).length, oo⟩)
    (hco : scope.isCoroutine = false) (hgen : scope.isGenerator = false) (hk : scope.kind = .function)
    (hcell : ∀ x ∈ scope.names, x.2 ≠ .cell) : codeAny (model prog w) A (.call (.ref f) args) R s := by
  refine codeAny_call_function (fd := fnOf name qual params body scope dV kV doc pm an cdv ct) (body := body) hroom ((X₀.keeps F.keep) _ _ ho) rfl hco hgen rfl (codeRec_of (X₀.keeps F.keep) hcd) ?_
  refine wp_peek1 (o := ({ cls := .type "tuple", data := .seq vs.toArray } : Obj)) (X₀.keeps F.keep) (r := binds) ?_ _ g₁ hp hg
  refine wpAny_newFunctionEnv hcell (hloc _) (fun h₁ hns hsb => ⟨((T.nolimit.keeps F.keep).keeps fun b o e => Heap.get?_push_of_some _ e).fresh _ hsb, codeAny_func ?_⟩) hk
  have hk₁ : ∀ b o, (s.heap.push ({ cls := .type "tuple", data := .seq vs.toArray } : Obj)).get? b = some o → h₁.get? b = some o := fun b o e => hsb.extBut b o (Nat.ne_of_lt (Heap.lt_size e)) (Heap.get?_push_of_some _ e)
  have B' := pushX B F hf hke
  refine h _ _ h₁ ⟨hns, fun b o e => hk₁ b o (Heap.get?_push_of_some _ e), ?_⟩ (fun p hp => ?_) ⟨hA, B'.stays, B'.frames⟩ (X₀.keeps F.keep) (T.keeps F.keep)
  · rw [Heap.size_push]; exact Nat.le_succ _
  · rw [List.mem_singleton.mp hp]
    refine ⟨hk₁ _ _ (Heap.get?_push_size _ rfl), ?_, get_at_size _⟩
    rw [Heap.size_push]; exact Nat.ne_of_lt (Nat.lt_succ_self _)
end

/-- the end of a def's walk -/
theorem sp_ret {s : Shared} {Q : Value → Shared → Prop} {post : Heap → Value → Prop} {L : Addr} {h' : Heap} {m : Str → Option Value} {v : Value} {tk' : Nat}
    (hret : ∀ v h' tk', Grew s.heap h' → post h' v → Q v { s with heap := h', toks := tk' }) (F : Fr s.heap L h' m) (hp : post h' v) : Q v { s with heap := h', toks := tk' } :=
  hret v h' tk' F.keep hp

/-- new objects that a call hands back go onto the caller's ledger -/
theorem newsAdd {h₀ h h' : Heap} {L : Addr} {m : Str → Option Value} {news : List (Addr × Obj)} (new : List (Addr × Obj)) (F : Fr h₀ L h m) (N : News h₀ L h' news) (hn : ∀ p ∈ new, h'.get? p.1 = some p.2 ∧ h.get? p.1 = none) : News h₀ L h' (new ++ news) := by
  intro p hp
  rcases List.mem_append.mp hp with hp | hp
  · refine ⟨(hn p hp).1, fun e => ?_, ?_⟩
    · obtain ⟨oL, _, _, hL, _⟩ := F.ns
      have := (hn p hp).2
      rw [e, hL] at this; cases this
    · cases q : h₀.get? p.1 with
      | none => rfl
      | some o => have := F.keep _ _ q; rw [(hn p hp).2] at this; cases this
  · exact N p hp
theorem newsAdd1 {h₀ h h' : Heap} {L D : Addr} {o : Obj} {m : Str → Option Value} {news : List (Addr × Obj)} (f : h.get? D = none) (g : h'.get? D = some o) (N : News h₀ L h' news) (F : Fr h₀ L h m) : News h₀ L h' ((D, o) :: news) :=
  newsAdd [(D, o)] F N fun p hp => by rw [List.mem_singleton.mp hp]; exact ⟨g, f⟩
theorem newsApart {h₀ h : Heap} {L a : Addr} {news : List (Addr × Obj)} (N : News h₀ L h news) (ha : h.get? a = none) : ∀ p ∈ news, p.1 ≠ a := by
  intro p hp e
  have := (N p hp).1
  rw [e, ha] at this; cases this

-- into the body of the def that Sp speaks of
theorem linesBase_1 : True := by
  k_with "mine:enter" => ( (refine' enterS (by k_asm) (by k_asm) (by k_asm) (by k_asm) (by exact rfl) (by exact rfl) (by assumption) (by k_is) (by k_is) (by ktr_room) (by exact BindsTo.of_eq rfl) (by exact locs rfl) ?_ (by exact rfl) (by exact rfl) (by exact rfl) (by decide)); k_whole; intro hu1' mmu1' Fu1' Nu1' Bu1' Xu1' Tu1' ggu1' ddu1' oou1' EEu1' AAu1'; (try dsimp only); (try k_fold))
  k_with "mine:enterRest" => ( (refine' enterRest (by k_asm) (by k_asm) (by k_asm) (by k_asm) (by exact rfl) (by exact rfl) (by assumption) (by k_is) (by k_is) (by ktr_room) (by exact rfl) (by exact fun _ => rfl) (by exact fun _ => locs rfl) ?_ (by exact rfl) (by exact rfl) (by exact rfl) (by decide)); k_whole; intro Du2' Lu2' hu2' mmu2' Fu2' Nu2' Bu2' Xu2' Tu2' ggu2' ddu2' oou2' EEu2' AAu2'; (try dsimp only); (try k_fold))
  k_with "mine:pre" => first | trivial | assumption | omega
  k_with "mine:pick" => ((with_reducible rename (@Ne _ _ _ ∧ _) => hhu4'); first | exact hhu4'.1 | exact hhu4'.1.symm | exact hhu4'.2.1 | exact hhu4'.2.1.symm | exact hhu4'.2 | exact hhu4'.2.symm | exact hhu4'.2.2.1 | exact hhu4'.2.2.1.symm | exact hhu4'.2.2 | exact hhu4'.2.2.symm | exact hhu4'.2.2.2.1 | exact hhu4'.2.2.2.1.symm | exact hhu4'.2.2.2 | exact hhu4'.2.2.2.symm | exact hhu4'.2.2.2.2.1 | exact hhu4'.2.2.2.2.1.symm | exact hhu4'.2.2.2.2 | exact hhu4'.2.2.2.2.symm | exact hhu4'.2.2.2.2.2.1 | exact hhu4'.2.2.2.2.2.1.symm | exact hhu4'.2.2.2.2.2 | exact hhu4'.2.2.2.2.2.symm | exact hhu4'.2.2.2.2.2.2.1 | exact hhu4'.2.2.2.2.2.2.1.symm | exact hhu4'.2.2.2.2.2.2 | exact hhu4'.2.2.2.2.2.2.symm | (clear hhu4'; walk_at "mine:pick"))
  k_with "mine:ne" => first | with_reducible assumption | with_reducible exact Ne.symm (by assumption) | walk_at "mine:pick" | omega
  k_with "mine:nes" => ((repeat' with_reducible apply And.intro) <;> walk_at "mine:ne")
  k_with "mine:room" => ((simp +zetaDelta only [depth_under_make, depth_under_kw, depth_in1, depth_deeper, depth_caller]); omega)
  k_with "mine:units" => ((have hcL9u8 := cLine_is); (simp +zetaDelta only [units_in1, units_deeper, Around.mark_units, units_caller]); omega)
  trivial
local macro_rules | `(tactic| ktr_room) => `(tactic| walk_at "mine:room")
local macro_rules | `(tactic| ktr_units) => `(tactic| walk_at "mine:units")
local macro_rules | `(tactic| k_ne) => `(tactic| (refine neN ?_; (try dsimp only); walk_at "mine:ne"))

theorem offIss : True := by
  w_top off
  trivial
section
variable {prog : Program} {w : World} {A : Around} {E : Value → Shared → Prop} {s : Shared}
theorem iss_in {k : Value} {dep : Int} {tk : Tok} {Q : Fin → Shared → Prop} (hk : k = .int dep tk) (hq : Q (.done (.ret (.bool true))) s) :
    wpAny (model prog w) A (Builtin.«issubclass.nested» ⟨[.type "str", .type "str", k], []⟩) Q E s := by
  subst hk
  have hself : isSubtype (.type "str") (.type "str") = pure true := by rw [isSubtype_type]; kernel_rfl
  have hm : typeOf (.type "str") = pure (.type "type") := by kernel_rfl
  repeat (any_goals (first | assumption | (rw [hself]) | (rw [hm]) | wp_step))
theorem iss_nested {k : Value} {tk : Tok} {D : Addr} {Q : Fin → Shared → Prop} (hk : k = .int 0 tk) (hD : IsTup s.heap D #[.type "str", .type "bytes"]) (hq : Q (.done (.ret (.bool true))) s) :
    wpAny (model prog w) A (Builtin.«issubclass.nested» ⟨[.type "str", .ref D, k], []⟩) Q E s := by
  subst hk
  obtain ⟨o, ho, hc, n, hd⟩ := hD
  have hself : isSubtype (.type "tuple") (.type "tuple") = pure true := by rw [isSubtype_type]; kernel_rfl
  have hm : typeOf (.type "str") = pure (.type "type") := by kernel_rfl
  have hT : s.TypeIs (.ref D) "tuple" := ⟨o, ho, hc⟩
  repeat (any_goals (first | assumption | (rw [hself]) | (rw [hm]) | wp_step))
  rw [hd]
  refine wpAny_pure ?_
  simp only [Option.getD_some]
  refine wpAny_bind ?_
  rw [← Array.forIn_toList]
  simp only [List.forIn_cons]
  refine wpAny_bind (wpAny_bind (call_function_entry (by decide +kernel) (by decide +kernel) F.entry_issubclass_nested (by unfold argsOk; kernel_rfl) ?_))
  refine wpAny_mono (iss_in rfl (Q := fun f s' => f = .done (.ret (.bool true)) ∧ s' = s) ⟨rfl, rfl⟩) ?_ (fun _ _ e => e)
  rintro _ _ ⟨rfl, rfl⟩
  refine ⟨_, rfl, ?_⟩
  repeat (any_goals (first | assumption | wp_step))
theorem call_iss {D : Addr} {Q : Value → Shared → Prop} (hD : IsTup s.heap D #[.type "str", .type "bytes"]) (hq : Q (.bool true) s) :
    wpAny (model prog w) A (call (.builtin "issubclass") [.type "str", .ref D]) Q E s :=
  call_issubclass (S := fun _ R s => IsTup s.heap D #[.type "str", .type "bytes"] ∧ R (.ok (.ret (.bool true))) s) (fun _ _ _ _ _ hs => issubclass_outer (iss_nested rfl hs.1 hs.2)) ⟨hD, hq⟩
end
theorem linesIss_1 : True := by
  k_with "call builtin:issubclass" => ((with_reducible show wpAny _ _ (call (Value.builtin _) [Value.type _, Value.ref _]) _ _ _); k_dflt (refine' call_iss (by exact News.isTup (by k_asm) (by k_mem)) ?_))
  trivial
-- the end of a def: what it hands back
theorem linesIss_2 : True := by
  k_with "mine:go" => ( refine wpAny_call ?_; k_dflt walk_at "mine:enter"; k_steps)
  trivial
set_option maxRecDepth 100000 in
set_option maxHeartbeats 8000000 in
theorem sp_fspath (w : World) (mean : ExcName → Option Value) (mg mb : Str → Option Value) (x : Str) (t : Tok) :
  About PySem.Challenge.rw_rt0094_01 Mine.pre.heap_1_1 (Sp w mean mg mb 149 [Value.str x t] 2 (fun _ => True) (fun _ _ v => v = Value.str x t)) := by
  k_fill; unfold About Sp; intro dp un gd cn cs a ccd cl outer A₀ base h₀ L m s Q E B F X T hk hd hu hp hret
  walk_at "mine:go"
  all_goals exact sp_ret (s := s) (Q := Q) hret (by k_asm) rfl

theorem linesIss_3 : True := by
  k_with "call ref" => ((with_reducible show wpAny _ _ (call (Value.ref 149) [Value.str _ _]) _ _ _); k_dflt (refine' Sp.use (sp_fspath _ _ _ _ _ _) (by k_asm) (by k_asm) (by k_asm) (by k_asm) (by k_asm) (by first | exact rfl | assumption) (by ktr_room) (by ktr_units) (by trivial) ?_); intro v9u11 h9u11 tk9u11 g9u11 F9u11 N9u11 p9u11; subst p9u11; (try k_sweep))
  trivial
theorem offF1 : True := by
  w_top off
  trivial
set_option maxRecDepth 100000 in
set_option maxHeartbeats 8000000 in
theorem sp_get_sep (w : World) (mean : ExcName → Option Value) (mg mb : Str → Option Value) (x : Str) (t : Tok) :
    About PySem.Challenge.rw_rt0094_01 Mine.pre.heap_1_1 (Sp w mean mg mb 163 [Value.str x t] 2 (fun _ => True) (fun _ _ v => ∃ t, v = Value.str (Str.ofString "/") t)) := by
  k_fill; unfold About Sp; intro dp un gd cn cs a ccd cl outer A₀ base h₀ L m s Q E B F X T hk hd hu hp hret
  walk_at "mine:go"
  all_goals (refine sp_ret (s := s) (Q := Q) hret (by k_asm) ?_; exact ⟨_, rfl⟩)
theorem linesF1_1 : True := by
  k_with "call ref" => ((with_reducible show wpAny _ _ (call (Value.ref 163) [Value.str _ _]) _ _ _); k_dflt (refine' Sp.use (sp_get_sep _ _ _ _ _ _) (by k_asm) (by k_asm) (by k_asm) (by k_asm) (by k_asm) (by first | exact rfl | assumption) (by ktr_room) (by ktr_units) (by trivial) ?_); intro v9u12 h9u12 tk9u12 g9u12 F9u12 N9u12 p9u12; obtain ⟨t9u12, p9u12⟩ := p9u12; subst p9u12; (try k_sweep))
  trivial
set_option maxRecDepth 100000 in
set_option maxHeartbeats 8000000 in
theorem sp_ifmt (w : World) (mean : ExcName → Option Value) (mg mb : Str → Option Value) (x : Int) (t : Tok) :
    About PySem.Challenge.rw_rt0094_01 Mine.pre.heap_1_1 (Sp w mean mg mb 198 [Value.int x t] 2 (fun _ => True) (fun _ _ v => ∃ t, v = Value.int (PySem.Builtin.bitAnd x 61440) t)) := by
  k_fill; unfold About Sp; intro dp un gd cn cs a ccd cl outer A₀ base h₀ L m s Q E B F X T hk hd hu hp hret
  walk_at "mine:go"
  all_goals (refine sp_ret (s := s) (Q := Q) hret (by k_asm) ?_; exact ⟨_, rfl⟩)
theorem linesF1_2 : True := by
  k_with "call ref" => ((with_reducible show wpAny _ _ (call (Value.ref 198) [Value.int _ _]) _ _ _); k_dflt (refine' Sp.use (sp_ifmt _ _ _ _ _ _) (by k_asm) (by k_asm) (by k_asm) (by k_asm) (by k_asm) (by first | exact rfl | assumption) (by ktr_room) (by ktr_units) (by trivial) ?_); intro v9u13 h9u13 tk9u13 g9u13 F9u13 N9u13 p9u13; obtain ⟨t9u13, p9u13⟩ := p9u13; subst p9u13; (try k_sweep))
  trivial
set_option maxRecDepth 100000 in
set_option maxHeartbeats 8000000 in
theorem sp_isdir (w : World) (mean : ExcName → Option Value) (mg mb : Str → Option Value) (x : Int) (t : Tok) :
    About PySem.Challenge.rw_rt0094_01 Mine.pre.heap_1_1 (Sp w mean mg mb 205 [Value.int x t] 4 (fun _ => True) (fun _ _ v => v = Value.bool (decide (PySem.Builtin.bitAnd x 61440 = 16384)))) := by
  k_fill; unfold About Sp; intro dp un gd cn cs a ccd cl outer A₀ base h₀ L m s Q E B F X T hk hd hu hp hret
  walk_at "mine:go"
  all_goals (refine sp_ret (s := s) (Q := Q) hret (by k_asm) ?_; first | rfl | (simp; done))
theorem linesF1_3 : True := by
  k_with "call ref" => ((with_reducible show wpAny _ _ (call (Value.ref 205) [Value.int _ _]) _ _ _); k_dflt (refine' Sp.use (sp_isdir _ _ _ _ _ _) (by k_asm) (by k_asm) (by k_asm) (by k_asm) (by k_asm) (by first | exact rfl | assumption) (by ktr_room) (by ktr_units) (by trivial) ?_); intro v9u14 h9u14 tk9u14 g9u14 F9u14 N9u14 p9u14; subst p9u14; (try k_sweep))
  trivial
set_option maxRecDepth 100000 in
set_option maxHeartbeats 8000000 in
theorem sp_isreg (w : World) (mean : ExcName → Option Value) (mg mb : Str → Option Value) (x : Int) (t : Tok) :
    About PySem.Challenge.rw_rt0094_01 Mine.pre.heap_1_1 (Sp w mean mg mb 212 [Value.int x t] 4 (fun _ => True) (fun _ _ v => v = Value.bool (decide (PySem.Builtin.bitAnd x 61440 = 32768)))) := by
  k_fill; unfold About Sp; intro dp un gd cn cs a ccd cl outer A₀ base h₀ L m s Q E B F X T hk hd hu hp hret
  walk_at "mine:go"
  all_goals (refine sp_ret (s := s) (Q := Q) hret (by k_asm) ?_; first | rfl | (simp; done))
theorem linesF1_4 : True := by
  k_with "call ref" => ((with_reducible show wpAny _ _ (call (Value.ref 212) [Value.int _ _]) _ _ _); k_dflt (refine' Sp.use (sp_isreg _ _ _ _ _ _) (by k_asm) (by k_asm) (by k_asm) (by k_asm) (by k_asm) (by first | exact rfl | assumption) (by ktr_room) (by ktr_units) (by trivial) ?_); intro v9u15 h9u15 tk9u15 g9u15 F9u15 N9u15 p9u15; subst p9u15; (try k_sweep))
  trivial
set_option maxRecDepth 100000 in
set_option maxHeartbeats 8000000 in
theorem sp_islnk (w : World) (mean : ExcName → Option Value) (mg mb : Str → Option Value) (x : Int) (t : Tok) :
    About PySem.Challenge.rw_rt0094_01 Mine.pre.heap_1_1 (Sp w mean mg mb 219 [Value.int x t] 4 (fun _ => True) (fun _ _ v => v = Value.bool (decide (PySem.Builtin.bitAnd x 61440 = 40960)))) := by
  k_fill; unfold About Sp; intro dp un gd cn cs a ccd cl outer A₀ base h₀ L m s Q E B F X T hk hd hu hp hret
  walk_at "mine:go"
  all_goals (refine sp_ret (s := s) (Q := Q) hret (by k_asm) ?_; first | rfl | (simp; done))

theorem linesF1_5 : True := by
  k_with "call ref" => ((with_reducible show wpAny _ _ (call (Value.ref 219) [Value.int _ _]) _ _ _); k_dflt (refine' Sp.use (sp_islnk _ _ _ _ _ _) (by k_asm) (by k_asm) (by k_asm) (by k_asm) (by k_asm) (by first | exact rfl | assumption) (by ktr_room) (by ktr_units) (by trivial) ?_); intro v9u16 h9u16 tk9u16 g9u16 F9u16 N9u16 p9u16; subst p9u16; (try k_sweep))
  trivial
theorem offF2 : True := by
  w_top off
  trivial
def dirHead (x : Str) : Str := Txt.slice x none (some (Txt.rfind x (Str.ofString "/") + 1))
def dirS (x : Str) : Str :=
  if ((dirHead x).length : Int) ≠ 0 then (if (dirHead x != Txt.mul (Str.ofString "/") ((dirHead x).length : Int)) = true then Txt.rstripChars (dirHead x) (Str.ofString "/") else dirHead x) else dirHead x
theorem dir1 {x : Str} (h : ((Txt.slice x none (some (Txt.rfind x (Str.ofString "/") + 1))).length : Int) ≠ 0) (h2 : (Txt.slice x none (some (Txt.rfind x (Str.ofString "/") + 1)) != Txt.mul (Str.ofString "/") ((Txt.slice x none (some (Txt.rfind x (Str.ofString "/") + 1))).length : Int)) = true) :
    Txt.rstripChars (Txt.slice x none (some (Txt.rfind x (Str.ofString "/") + 1))) (Str.ofString "/") = dirS x := by
  unfold dirS dirHead; rw [if_pos h, if_pos h2]
theorem dir2 {x : Str} (h : ((Txt.slice x none (some (Txt.rfind x (Str.ofString "/") + 1))).length : Int) ≠ 0) (h2 : (Txt.slice x none (some (Txt.rfind x (Str.ofString "/") + 1)) != Txt.mul (Str.ofString "/") ((Txt.slice x none (some (Txt.rfind x (Str.ofString "/") + 1))).length : Int)) = false) :
    (Txt.slice x none (some (Txt.rfind x (Str.ofString "/") + 1))) = dirS x := by
  unfold dirS dirHead; rw [if_pos h, if_neg (by rw [h2]; decide)]
theorem dir3 {x : Str} (h : ((Txt.slice x none (some (Txt.rfind x (Str.ofString "/") + 1))).length : Int) = 0) :
    (Txt.slice x none (some (Txt.rfind x (Str.ofString "/") + 1))) = dirS x := by
  unfold dirS dirHead; rw [if_neg (fun z => z h)]
set_option maxRecDepth 100000 in
set_option maxHeartbeats 8000000 in
theorem sp_dirname (w : World) (mean : ExcName → Option Value) (mg mb : Str → Option Value) (x : Str) (t : Tok) :
    About PySem.Challenge.rw_rt0094_01 Mine.pre.heap_1_1 (Sp w mean mg mb 184 [Value.str x t] 5 (fun _ => x.length ≤ 1000) (fun _ _ v => ∃ t, v = Value.str (dirS x) t)) := by
  k_fill; unfold About Sp; intro dp un gd cn cs a ccd cl outer A₀ base h₀ L m s Q E B F X T hk hd hu hp hret
  walk_at "mine:go"
  all_goals (refine sp_ret (s := s) (Q := Q) hret (by k_asm) ?_; (refine ⟨_, congrArg (fun z => Value.str z _) ?_⟩; with_reducible (first | exact dir1 (by assumption) (by assumption) | exact dir2 (by assumption) (by assumption) | exact dir3 (by assumption))))
theorem linesF2_1 : True := by
  k_with "call ref" => ((with_reducible show wpAny _ _ (call (Value.ref 184) [Value.str _ _]) _ _ _); k_dflt (refine' Sp.use (sp_dirname _ _ _ _ _ _) (by k_asm) (by k_asm) (by k_asm) (by k_asm) (by k_asm) (by first | exact rfl | assumption) (by ktr_room) (by ktr_units) (by walk_at "mine:pre") ?_); intro v9u17 h9u17 tk9u17 g9u17 F9u17 N9u17 p9u17; obtain ⟨t9u17, p9u17⟩ := p9u17; subst p9u17; (try k_sweep))
  trivial
def splitS (x : Str) : Str × Str :=
  if (Txt.slice x none (some 1) != Str.ofString "/") = true then (Str.ofString "", x)
  else if (Txt.slice x (some 1) (some 2) != Str.ofString "/") = true then (Str.ofString "/", Txt.slice x (some 1) none)
  else if (Txt.slice x (some 2) (some 3) == Str.ofString "/") = true then (Str.ofString "/", Txt.slice x (some 1) none)
  else (Txt.slice x none (some 2), Txt.slice x (some 2) none)
abbrev tupObj (vs : Array Value) : Obj := { cls := .type "tuple", data := .seq vs }
theorem split1 {x : Str} (h : (Txt.slice x none (some 1) != Str.ofString "/") = true) : splitS x = (Str.ofString "", x) := by unfold splitS; rw [if_pos h]
theorem split2 {x : Str} (h : (Txt.slice x none (some 1) != Str.ofString "/") = false) (h2 : (Txt.slice x (some 1) (some 2) != Str.ofString "/") = true) : splitS x = (Str.ofString "/", Txt.slice x (some 1) none) := by
  unfold splitS; rw [if_neg (by rw [h]; decide), if_pos h2]
theorem split3 {x : Str} (h : (Txt.slice x none (some 1) != Str.ofString "/") = false) (h2 : (Txt.slice x (some 1) (some 2) != Str.ofString "/") = false) (h3 : (Txt.slice x (some 2) (some 3) == Str.ofString "/") = true) : splitS x = (Str.ofString "/", Txt.slice x (some 1) none) := by
  unfold splitS; rw [if_neg (by rw [h]; decide), if_neg (by rw [h2]; decide), if_pos h3]
theorem split4 {x : Str} (h : (Txt.slice x none (some 1) != Str.ofString "/") = false) (h2 : (Txt.slice x (some 1) (some 2) != Str.ofString "/") = false) (h3 : (Txt.slice x (some 2) (some 3) == Str.ofString "/") = false) : splitS x = (Txt.slice x none (some 2), Txt.slice x (some 2) none) := by
  unfold splitS; rw [if_neg (by rw [h]; decide), if_neg (by rw [h2]; decide), if_neg (by rw [h3]; decide)]
theorem split_end {x A B : Str} {h h' : Heap} {D : Addr} {t1 t2 t3 : Tok} (e : splitS x = (A, B)) (f : h.get? D = none) (g : h'.get? D = some (tupObj #[.str (Str.ofString "") t1, .str A t2, .str B t3])) :
    ∃ D' t1 t2 t3, Value.ref D = Value.ref D' ∧ h.get? D' = none ∧ h'.get? D' = some (tupObj #[.str (Str.ofString "") t1, .str (splitS x).1 t2, .str (splitS x).2 t3]) := by
  rw [e]; exact ⟨_, _, _, _, rfl, f, g⟩
set_option maxRecDepth 100000 in
set_option maxHeartbeats 8000000 in
theorem sp_splitroot (w : World) (mean : ExcName → Option Value) (mg mb : Str → Option Value) (x : Str) (t : Tok) :
    About PySem.Challenge.rw_rt0094_01 Mine.pre.heap_1_1 (Sp w mean mg mb 177 [Value.str x t] 5 (fun _ => x.length ≤ 1000) (fun h h' v => ∃ D t1 t2 t3, v = Value.ref D ∧ h.get? D = none ∧ h'.get? D = some (tupObj #[.str (Str.ofString "") t1, .str (splitS x).1 t2, .str (splitS x).2 t3]))) := by
  k_fill; unfold About Sp; intro dp un gd cn cs a ccd cl outer A₀ base h₀ L m s Q E B F X T hk hd hu hp hret
  walk_at "mine:go"
  all_goals (refine sp_ret (s := s) (Q := Q) hret (by k_asm) ?_; ((rename News _ _ _ _ => nN); (have g1 := News.get nN (List.Mem.head _)); (have g2 := News.fresh nN (List.Mem.head _)); with_reducible (first | exact split_end (split1 (by assumption)) g2 g1 | exact split_end (split2 (by assumption) (by assumption)) g2 g1 | exact split_end (split3 (by assumption) (by assumption) (by assumption)) g2 g1 | exact split_end (split4 (by assumption) (by assumption) (by assumption)) g2 g1)))

theorem linesF2_2 : True := by
  k_with "call ref" => ((with_reducible show wpAny _ _ (call (Value.ref 177) [Value.str _ _]) _ _ _); k_dflt (refine' Sp.use (sp_splitroot _ _ _ _ _ _) (by k_asm) (by k_asm) (by k_asm) (by k_asm) (by k_asm) (by first | exact rfl | assumption) (by ktr_room) (by ktr_units) (by walk_at "mine:pre") ?_); intro v9u18 h9u18 tk9u18 g9u18 F9u18 N9u18 p9u18; obtain ⟨D9u18, t1, t2, t3, p9u18, f9u18, o9u18⟩ := p9u18; subst p9u18; replace N9u18 := newsAdd1 f9u18 o9u18 N9u18 (by assumption); clear o9u18 f9u18; (try k_sweep))
  trivial
theorem offF3 : True := by
  w_top off
  trivial
theorem dirS_len (x : Str) : (dirS x).length ≤ x.length := by
  unfold dirS
  have h : (dirHead x).length ≤ x.length := Txt.slice_le _ _ _
  split
  · split
    · exact Nat.le_trans (len_stripBy _ _ _ _) h
    · exact h
  · exact h
def deepF : Nat → Str → Nat
  | 0, _ => 0
  | n + 1, x => if (x != Str.ofString "/") = true then deepF n (dirS x) + 1 else 0
def DeepInv (p₀ p : Str) (t : Int) : Prop := p.length ≤ 1000 ∧ 0 ≤ t ∧ t ≤ 9 ∧ ((deepF (9 - t.toNat) p : Nat) : Int) + t = deepF 9 p₀
theorem deep_start {p₀ : Str} (h : p₀.length ≤ 1000) : DeepInv p₀ p₀ 0 := ⟨h, by lia, by lia, by simp⟩
theorem deep_turn {p₀ p : Str} {t : Int} (h : DeepInv p₀ p t) (e : (p != Str.ofString "/") = true) (ht : t < 9) : DeepInv p₀ (dirS p) (t + 1) := by
  obtain ⟨h1, h2, h3, h4⟩ := h
  refine ⟨Nat.le_trans (dirS_len p) h1, by lia, by lia, ?_⟩
  rw [← h4]
  have : 9 - t.toNat = (9 - (t + 1).toNat) + 1 := by lia
  rw [this]
  simp only [deepF, e, if_true]
  lia
theorem deep_done1 {p₀ p : Str} {t : Int} (h : DeepInv p₀ p t) (e : (p != Str.ofString "/") = false) : t = deepF 9 p₀ := by
  obtain ⟨h1, h2, h3, h4⟩ := h
  rw [← h4]
  cases 9 - t.toNat with
  | zero => simp [deepF]
  | succ n => simp [deepF, e]
theorem deep_done2 {p₀ p : Str} {t : Int} (h : DeepInv p₀ p t) (e : ¬ t < 9) : t = deepF 9 p₀ := by
  obtain ⟨h1, h2, h3, h4⟩ := h
  rw [← h4]
  have : t.toNat = 9 := by lia
  rw [this]; simp [deepF]
theorem linesF3_1 : True := by
  k_with "mine:pre" => exact And.left (by assumption : DeepInv _ _ _)
  k_with "exec While BoolOp cons nil" => k_while_given ["path!"] (fun p₀ (_ : List Int) p t => DeepInv p₀ p t) (fun p₀ (_ : List Int) p t => (9 - t).toNat) "path" "turns"
  trivial
set_option maxRecDepth 100000 in
set_option maxHeartbeats 8000000 in
theorem sp_deep (w : World) (mean : ExcName → Option Value) (mg mb : Str → Option Value) (x : Str) (t : Tok) :
    About PySem.Challenge.rw_rt0094_01 Mine.pre.heap_1_1 (Sp w mean mg mb 278 [Value.str x t] 7 (fun _ => x.length ≤ 1000) (fun _ _ v => ∃ t, v = Value.int (deepF 9 x) t)) := by
  k_fill; unfold About Sp; intro dp un gd cn cs a ccd cl outer A₀ base h₀ L m s Q E B F X T hk hd hu hp hret
  k_with "state" => first | exact deep_start (by assumption) | exact deep_turn (by assumption) (by assumption) (by assumption)
  walk_at "mine:go"
  all_goals first | (refine sp_ret (s := s) (Q := Q) hret (by k_asm) ?_; refine ⟨_, congrArg (fun z => Value.int z _) ?_⟩; with_reducible (first | exact deep_done1 (by assumption) (by assumption) | exact deep_done2 (by assumption) (by assumption)))

theorem linesF3_2 : True := by
  k_with "call ref" => ((with_reducible show wpAny _ _ (call (Value.ref 278) [Value.str _ _]) _ _ _); k_dflt (refine' Sp.use (sp_deep _ _ _ _ _ _) (by k_asm) (by k_asm) (by k_asm) (by k_asm) (by k_asm) (by first | exact rfl | assumption) (by ktr_room) (by ktr_units) (by walk_at "mine:pre") ?_); intro v9u21 h9u21 tk9u21 g9u21 F9u21 N9u21 p9u21; obtain ⟨t9u21, p9u21⟩ := p9u21; subst p9u21; (try k_sweep))
  trivial
theorem offF4 : True := by
  w_top off
  trivial
def joinS (x y : Str) : Str := if Txt.endswith x (Str.ofString "/") = true then x ++ Str.ofString "zz" ++ Str.ofString "/.." ++ (Str.ofString "/" ++ y) else x ++ Str.ofString "/zz" ++ Str.ofString "/.." ++ (Str.ofString "/" ++ y)
theorem join1 {x y : Str} (h : Txt.endswith x (Str.ofString "/") = true) : x ++ Str.ofString "zz" ++ Str.ofString "/.." ++ (Str.ofString "/" ++ y) = joinS x y := by unfold joinS; rw [if_pos h]
theorem join2 {x y : Str} (h : Txt.endswith x (Str.ofString "/") = false) : x ++ Str.ofString "/zz" ++ Str.ofString "/.." ++ (Str.ofString "/" ++ y) = joinS x y := by unfold joinS; rw [if_neg (by rw [h]; decide)]
local macro_rules | `(tactic| kxt_pos) => `(tactic| assumption)
set_option maxRecDepth 100000 in
set_option maxHeartbeats 8000000 in
theorem sp_join (w : World) (mean : ExcName → Option Value) (mg mb : Str → Option Value) (x y : Str) (t t1 t2 t3 : Tok) :
    About PySem.Challenge.rw_rt0094_01 Mine.pre.heap_1_1 (Sp w mean mg mb 170 [Value.str x t, Value.str (Str.ofString "zz") t1, Value.str (Str.ofString "..") t2, Value.str y t3] 7 (fun _ => 1 ≤ x.length ∧ x.length ≤ 1000 ∧ 1 ≤ y.length ∧ y.length ≤ 10 ∧ Txt.startswith y (Str.ofString "/") = false) (fun _ _ v => ∃ t, v = Value.str (joinS x y) t)) := by
  k_fill; unfold About Sp; intro dp un gd cn cs a ccd cl outer A₀ base h₀ L m s Q E B F X T hk hd hu hp hret
  obtain ⟨hp1, hp2, hp3, hp4, hp5⟩ := hp
  refine wpAny_call ?_
  k_dflt walk_at "mine:enterRest"
  k_steps
  all_goals (refine sp_ret (s := s) (Q := Q) hret (by k_asm) ?_; refine ⟨_, congrArg (fun z => Value.str z _) ?_⟩; with_reducible (first | exact join1 (by assumption) | exact join2 (by assumption)))

theorem linesF4_1 : True := by
  k_with "call ref" => ((with_reducible show wpAny _ _ (call (Value.ref 170) [Value.str _ _, Value.str _ _, Value.str _ _, Value.str _ _]) _ _ _); k_dflt (refine' Sp.use (sp_join _ _ _ _ _ _ _ _ _ _) (by k_asm) (by k_asm) (by k_asm) (by k_asm) (by k_asm) (by first | exact rfl | assumption) (by ktr_room) (by ktr_units) (by walk_at "mine:pre") ?_); intro v9u22 h9u22 tk9u22 g9u22 F9u22 N9u22 p9u22; obtain ⟨t9u22, p9u22⟩ := p9u22; subst p9u22; (try k_sweep))
  trivial
theorem offLoops : True := by
  w_top off
  trivial
/-- what a turn of a for leaves: the iterator (at I) as it was, and J of the frame's map and of a ledger -/
def FvEnd (h₀ : Heap) (L I : Addr) (ob : Obj) (J : (Str → Option Value) → List (Addr × Obj) → Prop) (s₁ s₂ : Shared) : Prop :=
  ∃ h' tk m' news' nx, s₂ = { s₁ with heap := h', toks := tk } ∧ Fr h₀ L h' m' ∧ News h₀ L h' news' ∧ (∀ p ∈ nx, p ∈ news') ∧ (I, ob) ∈ news' ∧ (∀ p ∈ nx, p.1 ≠ I) ∧ J m' nx
def FvPost (h₀ : Heap) (L I : Addr) (ob : Obj) (J : (Str → Option Value) → List (Addr × Obj) → Prop) (s₁ : Shared) (Q : Flow → Shared → Prop) (f : Flow) (s₂ : Shared) : Prop :=
  match f with
  | .ret v => Q (.ret v) s₂
  | .brk => Q .next s₂
  | _ => FvEnd h₀ L I ob J s₁ s₂
theorem fv_end {h₀ h' : Heap} {L I : Addr} {ob : Obj} {J : (Str → Option Value) → List (Addr × Obj) → Prop} {s₁ : Shared} {tk : Nat} {m' : Str → Option Value} {news' : List (Addr × Obj)} (nx : List (Addr × Obj))
    (F : Fr h₀ L h' m') (N : News h₀ L h' news') (hn : ∀ p ∈ nx, p ∈ news') (hi : (I, ob) ∈ news') (ha : ∀ p ∈ nx, p.1 ≠ I) (hj : J m' nx) : FvEnd h₀ L I ob J s₁ { s₁ with heap := h', toks := tk } :=
  ⟨h', tk, m', news', nx, rfl, F, N, hn, hi, ha, hj⟩

section
variable {prog : Program} {w : World} {A : Around} {E : Value → Shared → Prop} {s : Shared} {env : Env} {h₀ : Heap} {x : Str} {body : List Stmt} {Q : Flow → Shared → Prop}
theorem for_walks {I : Addr} {fp : List Addr} {n : Nat} {P : Nat → Value → Prop} {St : Nat → Heap → Prop} {m₀ : Str → Option Value} {news : List (Addr × Obj)} (J : Nat → (Str → Option Value) → List (Addr × Obj) → Prop)
    (W : Walks prog w A I fp [I] n P St) (hI : h₀.get? I = none) (hIL : env.locals ∉ fp) (hfp : ∀ b ∈ fp, b ≠ I → (∃ o, h₀.get? b = some o) ∨ ∃ o, ∀ i m nx, J i m nx → (b, o) ∈ nx) (hIfp : I ∈ fp) (hlive : ∀ i h, St i h → ∃ o, h.get? I = some o)
    (hst : St 0 s.heap) (F : Fr h₀ env.locals s.heap m₀) (N : News h₀ env.locals s.heap news) (hnI : ∀ p ∈ news, p.1 ≠ I) (hj : J 0 m₀ news)
    (turn : ∀ i v m₁ nx h tk I ob, i < n → P i v → (∀ p ∈ nx, p.1 ≠ I) → J i m₁ nx → Fr h₀ env.locals h (fun y => if y = x then some v else m₁ y) → News h₀ env.locals h ((I, ob) :: nx) →
      wpAny (model prog w) A (execs body env) (FvPost h₀ env.locals I ob (J (i + 1)) { s with heap := h, toks := tk } Q) E { s with heap := h, toks := tk })
    (done : ∀ m₁ nx h tk, J n m₁ nx → Fr h₀ env.locals h m₁ → News h₀ env.locals h nx → Q .next { s with heap := h, toks := tk }) :
    LoopAtV prog w A h₀ env x body Q E (.ref I) s := by
  refine ⟨I, fp, [I], n, P, St, m₀, news, J, rfl, W, hIL, ?_, ?_, hst, F, N, hj, ?_, ?_⟩
  · intro b hb; rw [List.mem_singleton.mp hb]; exact hI
  · intro p hp q; exact hnI p hp (List.mem_singleton.mp q)
  · rintro i v m₁ news₁ s₁ own ⟨hh', tk', rfl⟩ hin hP hJ hoff hown hget hall hSt F₁ N₁
    obtain ⟨ob, hob⟩ := hlive _ _ hSt
    have hmem : (I, ob) ∈ own := hall I hIfp hI ob hob
    have hoff' : ∀ p ∈ news₁, p.1 ≠ I := fun p hp q => hoff p hp (List.mem_singleton.mpr q)
    have N₂ : News h₀ env.locals hh' ((I, ob) :: news₁) := fun p hp => by
      rcases List.mem_cons.mp hp with rfl | hp
      · exact N₁ _ (List.mem_append.mpr (.inl hmem))
      · exact N₁ _ (List.mem_append.mpr (.inr hp))
    refine wpAny_mono (turn i v m₁ news₁ hh' tk' I ob hin hP hoff' hJ F₁ N₂) (fun f s₂ p => ?_) fun _ _ e => e
    have fin : FvEnd h₀ env.locals I ob (J (i + 1)) { s with heap := hh', toks := tk' } s₂ → LoopStepU h₀ env.locals [I] own (J (i + 1)) { s with heap := hh', toks := tk' } .next s₂ := by
      rintro ⟨h', tk, m', news', nx, e, F', N', hn, ho, ha, hm⟩
      refine ⟨rfl, h', tk, m', nx, e, F', fun p hp => ?_, fun p hp q => ha p hp (List.mem_singleton.mp q), hm⟩
      rcases List.mem_append.mp hp with h | h
      · by_cases hpI : p.1 = I
        · have h2 : hh'.get? p.1 = some p.2 := hget p h
          have hob' : hh'.get? I = some ob := hob
          rw [hpI, hob'] at h2
          have h3 : p = (I, ob) := Prod.ext hpI (Option.some.inj h2).symm
          rw [h3]; exact N' _ ho
        · rcases hfp p.1 (hown p h) hpI with ⟨o, hbo⟩ | ⟨o, hbo⟩
          · have := (N₁ p (List.mem_append.mpr (.inl h))).2.2
            rw [hbo] at this; cases this
          · have h1 := (N₁ _ (List.mem_append.mpr (.inr (hbo _ _ _ hJ)))).1
            have h2 : hh'.get? p.1 = some p.2 := hget p h
            have h1' : hh'.get? p.1 = some o := h1
            rw [h1'] at h2
            have h3 : p = (p.1, o) := Prod.ext rfl (Option.some.inj h2).symm
            rw [h3]; exact N' _ (hn _ (hbo _ _ _ hm))
      · exact N' p (hn p h)
    cases f with
    | ret v => exact p
    | brk => exact p
    | next => exact fin p
    | cont => exact fin p
  · intro h' tk m' news' F' N' _ hJ
    exact done m' news' h' tk hJ F' N'

/-- a for over a list that does not turn -/
theorem for_list {l : Addr} {items : List Value} {m₀ : Str → Option Value} {news : List (Addr × Obj)} (J : Nat → (Str → Option Value) → List (Addr × Obj) → Prop)
    (hh : A.handled = none) (hl : s.heap.IsList l items.toArray) (hne : l ≠ env.locals) (hk : (∃ o, h₀.get? l = some o) ∨ ∃ o, ∀ i m nx, J i m nx → (l, o) ∈ nx) (F : Fr h₀ env.locals s.heap m₀) (N : News h₀ env.locals s.heap news) (hj : J 0 m₀ news)
    (turn : ∀ i v m₁ nx h tk I ob, i < items.length → items[i]? = some v → (∀ p ∈ nx, p.1 ≠ I) → J i m₁ nx → Fr h₀ env.locals h (fun y => if y = x then some v else m₁ y) → News h₀ env.locals h ((I, ob) :: nx) →
      wpAny (model prog w) A (execs body env) (FvPost h₀ env.locals I ob (J (i + 1)) { s with heap := h, toks := tk } Q) E { s with heap := h, toks := tk })
    (done : ∀ m₁ nx h tk, J items.length m₁ nx → Fr h₀ env.locals h m₁ → News h₀ env.locals h nx → Q .next { s with heap := h, toks := tk }) :
    wpAny (model prog w) A (pyIter (.ref l)) (fun it s₂ => LoopAtV prog w A h₀ env x body Q E it s₂) E s := by
  obtain ⟨ol, hol, _⟩ := id hl
  have hneI : l ≠ s.heap.objs.size := Nat.ne_of_lt (Heap.lt_size hol)
  refine wpAny_pyIter_list hl ?_
  have W := Walks.list (prog := prog) (w := w) hh s.heap.objs.size l hneI items.toArray
  have hlen : items.toArray.size = items.length := by simp
  rw [hlen] at W
  refine for_walks (s := { s with heap := _ }) J W (next_is_new F) ?_ ?_ (by simp) (fun i h st => by obtain ⟨o, ho, _⟩ := st.1; exact ⟨o, ho⟩) ⟨⟨_, Heap.get?_push_size _ rfl, rfl, rfl⟩, hl.at fun o e => Heap.get?_push_of_some _ e⟩ (F.push _) (fun p hp => ⟨Heap.get?_push_of_some _ (N p hp).1, (N p hp).2⟩)
    (fun p hp q => absurd (Heap.lt_size (N p hp).1) (by rw [q]; exact Nat.lt_irrefl _)) hj (fun i v m₁ nx h tk I ob hi hP => turn i v m₁ nx h tk I ob hi (by simpa using hP)) done
  · intro hm
    rcases List.mem_cons.mp hm with e | hm
    · exact absurd F.ns.lt (e ▸ Nat.lt_irrefl _)
    · exact hne (List.mem_singleton.mp hm).symm
  · intro b hb hbI
    rcases List.mem_cons.mp hb with e | hb
    · exact absurd e hbI
    · rw [List.mem_singleton.mp hb]; exact hk
end
def AllNe (d : Addr) : List (Addr × Obj) → Prop
  | [] => True
  | p :: r => @Ne Nat p.1 d ∧ AllNe d r
theorem allNe_of {d : Addr} : ∀ {l : List (Addr × Obj)}, (∀ p ∈ l, p.1 ≠ d) → AllNe d l
  | [], _ => trivial
  | p :: _, h => ⟨h p (.head _), allNe_of fun q hq => h q (.tail _ hq)⟩
theorem allNe_out {d : Addr} {l : List (Addr × Obj)} (h : AllNe d l) : ∀ p ∈ l, p.1 ≠ d := by
  induction l with
  | nil => intro p hp; cases hp
  | cons q r ih =>
    intro p hp
    rcases List.mem_cons.mp hp with rfl | hp
    · exact h.1
    · exact ih h.2 p hp

theorem linesLoops_1 : True := by
  k_with "FvPost" => (dsimp only [FvPost])
  trivial
theorem offListV : True := by
  w_top off
  trivial
theorem strs_snoc : ∀ {vs : List Value} {a : List Str} {b : Str}, StrsAre vs (a ++ [b]) → ∃ vs' t, vs = vs' ++ [Value.str b t] ∧ StrsAre vs' a
  | _, [], b, h => by
    cases h with
    | cons _ t h => cases h; exact ⟨[], t, rfl, .nil⟩
  | _, y :: a, b, h => by
    cases h with
    | cons _ t h =>
      obtain ⟨vs', t', rfl, h'⟩ := strs_snoc h
      exact ⟨Value.str y t :: vs', t', rfl, .cons y t h'⟩
theorem strs_get : ∀ {vs : List Value} {ys : List Str} {i : Nat} {v : Value}, StrsAre vs ys → vs[i]? = some v → ∃ y t, v = .str y t ∧ ys[i]? = some y
  | _, _, 0, _, .cons y t _, e => by cases e; exact ⟨y, t, rfl, rfl⟩
  | _, _, i + 1, _, .cons y t h, e => strs_get (i := i) h (by simpa using e)
theorem strs_len : ∀ {vs : List Value} {ys : List Str}, StrsAre vs ys → vs.length = ys.length
  | _, _, .nil => rfl
  | _, _, .cons _ _ h => by simp [strs_len h]
theorem take_next {α : Type} {l : List α} {i : Nat} {y : α} (h : l[i]? = some y) : l.take (i + 1) = l.take i ++ [y] := by simp [List.take_add_one, h]
theorem strs_add {vs : List Value} {a : List Str} {b : Str} {t : Tok} : StrsAre vs a → StrsAre (vs ++ [Value.str b t]) (a ++ [b])
  | .nil => .cons b t .nil
  | .cons y u h => .cons y u (strs_add h)
theorem strs_one {c : Str} {t : Tok} : StrsAre [Value.str c t] ([] ++ [c]) := .cons c t .nil
section
variable {prog : Program} {w : World} {A : Around} {E : Value → Shared → Prop} {s : Shared} {h₀ : Heap} {L D : Addr} {m : Str → Option Value} {news news' : List (Addr × Obj)} {n : Nat} {vs : List Value} {v : Value}
theorem truthy_nil {Q : Bool → Shared → Prop} (N : News h₀ L s.heap news) (hm : (D, listOf #[] n) ∈ news) (h : ∀ k, Q false { s with toks := k }) : wpAny (model prog w) A (truthy (.ref D)) Q E s :=
  wpAny_truthy_list (items := #[]) ⟨_, (N _ hm).1, rfl, n, rfl⟩ (by decide) (h _)
theorem truthy_snoc {Q : Bool → Shared → Prop} (N : News h₀ L s.heap news) (hm : (D, listOf (vs ++ [v]).toArray n) ∈ news) (hl : vs.length ≤ 100000) (h : ∀ k, Q true { s with toks := k }) : wpAny (model prog w) A (truthy (.ref D)) Q E s :=
  wpAny_truthy_list (items := (vs ++ [v]).toArray) ⟨_, (N _ hm).1, rfl, n, rfl⟩ (by simp only [List.size_toArray, List.length_append, List.length_cons, List.length_nil]; lia) (by
    have e : (!(vs ++ [v]).toArray.isEmpty) = true := by simp
    rw [e]; exact h _)
theorem last_snoc {value slice : Expr} {u : Tok} {Q : Value → Shared → Prop} (N : News h₀ L s.heap news) (hm : (D, listOf (vs ++ [v]).toArray n) ∈ news) (h : Q v s)
    (hs : subscripted slice false (.ref D) (.int (-1) u) = operate [.ref D, .int (-1) u] (getItem (.ref D) (.int (-1) u)) := by with_unfolding_all rfl) :
    wpAny (model prog w) A (subscriptTail value slice (.ref D) (.int (-1) u)) Q E s := by
  have hL : s.heap.IsList D (vs ++ [v]).toArray := ⟨_, (N _ hm).1, rfl, n, rfl⟩
  refine tail_any hL.typeIs slot_list_getitem.lookup (wpAny_getItem_list_neg hL (by decide) ?_ (by decide) ?_ h) hs
  · simp only [List.size_toArray, List.length_append, List.length_cons, List.length_nil]; lia
  · have e : ((-1 : Int) + ((vs ++ [v]).toArray.size : Nat)).toNat = vs.length := by simp only [List.size_toArray, List.length_append, List.length_cons, List.length_nil]; lia
    rw [e]; simp
theorem pop_snoc {Q : Value → Shared → Prop} (F : Fr h₀ L s.heap m) (N : News h₀ L s.heap news) (U : Upd D (listOf (vs ++ [v]).toArray n) (listOf vs.toArray (n + 1)) news news') (hl : vs.length ≤ 100000)
    (h : ∀ h', Fr h₀ L h' m → News h₀ L h' news' → Q v { s with heap := h' }) : wpAny (model prog w) A (call (.builtin "list.pop") [.ref D]) Q E s :=
  kl_pop F N (by simpa using kpa_last v vs) U (by simp only [List.length_append, List.length_cons, List.length_nil, sizeLine_eq]; lia) h
theorem append_snoc {Q : Value → Shared → Prop} (F : Fr h₀ L s.heap m) (N : News h₀ L s.heap news) (U : Upd D (listOf vs.toArray n) (listOf (vs ++ [v]).toArray (n + 1)) news news') (hl : vs.length ≤ 100000)
    (h : ∀ h', Fr h₀ L h' m → News h₀ L h' news' → Q .none { s with heap := h' }) : wpAny (model prog w) A (call (.builtin "list.append") [.ref D, v]) Q E s :=
  append_K (its := vs.toArray) (n := n) F N (by rw [List.push_toArray]; exact U) h (by rw [List.size_toArray, sizeLine_eq]; lia)
end

theorem linesListV_1 : True := by
  k_with "mine:short" => first | (with_reducible assumption) | omega | decide
  k_with "truthy ref" => ((with_reducible show wpAny _ _ (truthy (Value.ref _)) _ _ _); k_dflt (refine' truthy_nil (by k_asm) (by k_mem) ?_; k_whole; intro ku25'))
  k_with "truthy ref" => ((with_reducible show wpAny _ _ (truthy (Value.ref _)) _ _ _); k_dflt (refine' truthy_snoc (by k_asm) (by k_mem) (by walk_at "mine:short") ?_; k_whole; intro ku26'))
  k_with "subscriptTail Name UnaryOp ref int" => ((with_reducible show wpAny _ _ (subscriptTail _ _ (Value.ref _) (Value.int _ _)) _ _ _); k_dflt (refine' last_snoc (by k_asm) (by k_mem) ?_; k_whole))
  k_with "call builtin:list.pop" => ((with_reducible show wpAny _ _ (call (Value.builtin _) [Value.ref _]) _ _ _); k_dflt (refine' pop_snoc (by k_asm) (by k_asm) (by k_upd) (by walk_at "mine:short") ?_; k_whole; intro hu28' Fu28' Nu28'; (try k_sweep)))
  trivial
theorem offF5 : True := by
  w_top off
  trivial
theorem splitS_len (x : Str) : (splitS x).2.length ≤ x.length := by
  unfold splitS
  split
  · exact Nat.le_refl _
  · split
    · exact Txt.slice_le _ _ _
    · split
      · exact Txt.slice_le _ _ _
      · exact Txt.slice_le _ _ _
def normStep (ini : Str) (acc : List Str) (c : Str) : List Str :=
  if (c.length : Int) = 0 then acc
  else if (c == Str.ofString ".") = true then acc
  else if (c != Str.ofString "..") = true then acc ++ [c]
  else match acc.getLast? with
    | none => if (ini.length : Int) = 0 then [c] else []
    | some b => if (b == Str.ofString "..") = true then acc ++ [c] else acc.dropLast
section
variable {ini c b : Str} {acc a : List Str}
theorem ns1 (h : (c.length : Int) = 0) : normStep ini acc c = acc := by unfold normStep; rw [if_pos h]
theorem ns2 (h : (c.length : Int) ≠ 0) (h2 : (c == Str.ofString ".") = true) : normStep ini acc c = acc := by unfold normStep; rw [if_neg h, if_pos h2]
theorem ns3 (h : (c.length : Int) ≠ 0) (h2 : (c == Str.ofString ".") = false) (h3 : (c != Str.ofString "..") = true) : normStep ini acc c = acc ++ [c] := by
  unfold normStep; rw [if_neg h, if_neg (by rw [h2]; decide), if_pos h3]
theorem ns4 (h : (c.length : Int) ≠ 0) (h2 : (c == Str.ofString ".") = false) (h3 : (c != Str.ofString "..") = false) (h4 : (ini.length : Int) = 0) : normStep ini [] c = [c] := by
  unfold normStep; rw [if_neg h, if_neg (by rw [h2]; decide), if_neg (by rw [h3]; decide)]; simp only [List.getLast?_nil]; rw [if_pos h4]
theorem ns5 (h : (c.length : Int) ≠ 0) (h2 : (c == Str.ofString ".") = false) (h3 : (c != Str.ofString "..") = false) (h4 : (ini.length : Int) ≠ 0) : normStep ini [] c = [] := by
  unfold normStep; rw [if_neg h, if_neg (by rw [h2]; decide), if_neg (by rw [h3]; decide)]; simp only [List.getLast?_nil]; rw [if_neg h4]
theorem ns6 (h : (c.length : Int) ≠ 0) (h2 : (c == Str.ofString ".") = false) (h3 : (c != Str.ofString "..") = false) (h4 : (b == Str.ofString "..") = true) : normStep ini (a ++ [b]) c = a ++ [b] ++ [c] := by
  unfold normStep; rw [if_neg h, if_neg (by rw [h2]; decide), if_neg (by rw [h3]; decide)]; simp only [List.getLast?_concat]; rw [if_pos h4]
theorem ns7 (h : (c.length : Int) ≠ 0) (h2 : (c == Str.ofString ".") = false) (h3 : (c != Str.ofString "..") = false) (h4 : (b == Str.ofString "..") = false) : normStep ini (a ++ [b]) c = a := by
  unfold normStep; rw [if_neg h, if_neg (by rw [h2]; decide), if_neg (by rw [h3]; decide)]; simp only [List.getLast?_concat]; rw [if_neg (by rw [h4]; decide), List.dropLast_concat]
end
def normList (x : Str) : List Str := (Txt.split (splitS x).2 (Str.ofString "/")).foldl (normStep (splitS x).1) []
def normS (x : Str) : Str := if (((splitS x).1 ++ Txt.join (Str.ofString "/") (normList x)).length : Int) ≠ 0 then (splitS x).1 ++ Txt.join (Str.ofString "/") (normList x) else Str.ofString "."
theorem len_slash : (Str.ofString "/").length = 1 := by decide +kernel
theorem len_nil : (Str.ofString "").length = 0 := by decide +kernel
theorem splitS_len1 (x : Str) (hx : x.length ≤ 1000) : (splitS x).1.length ≤ 1000 := by
  unfold splitS
  split
  · rw [len_nil]; lia
  · split
    · rw [len_slash]; lia
    · split
      · rw [len_slash]; lia
      · exact Nat.le_trans (Txt.slice_le _ _ _) hx
def wt (l : List Str) : Nat := (l.map (·.length)).sum + l.length
theorem wt_join : ∀ l : List Str, wt l ≤ (Str.join (Str.ofString "/") l).length + 1
  | [] => by simp [wt]
  | [a] => by simp [wt, Str.join]
  | a :: b :: r => by
    have ih := wt_join (b :: r)
    rw [Str.join, Str.length_append, Str.length_append, len_slash]
    simp only [wt, List.map_cons, List.sum_cons, List.length_cons] at ih ⊢
    lia
    exact List.cons_ne_nil _ _
theorem join_len : ∀ l : List Str, (Str.join (Str.ofString "/") l).length ≤ wt l
  | [] => by simp [wt, Str.join, Str.empty, Str.length]
  | [a] => by simp [wt, Str.join]
  | a :: b :: r => by
    have ih := join_len (b :: r)
    rw [Str.join, Str.length_append, Str.length_append, len_slash]
    simp only [wt, List.map_cons, List.sum_cons, List.length_cons] at ih ⊢
    lia
    exact List.cons_ne_nil _ _
theorem wt_app (a b : List Str) : wt (a ++ b) = wt a + wt b := by simp [wt]; lia
theorem wt_drop (a : List Str) : wt a.dropLast ≤ wt a := by
  rcases List.eq_nil_or_concat a with rfl | ⟨l, b, rfl⟩
  · simp [wt]
  · rw [List.concat_eq_append, List.dropLast_concat, wt_app]; lia
theorem wt_step (ini : Str) (acc : List Str) (c : Str) : wt (normStep ini acc c) ≤ wt acc + wt [c] := by
  unfold normStep
  have h1 : wt [] = 0 := rfl
  have h2 : ∀ b : List Str, 0 ≤ wt b := fun _ => Nat.zero_le _
  split
  · lia
  · split
    · lia
    · split
      · rw [wt_app]; lia
      · split
        · split <;> lia
        · split
          · rw [wt_app]; lia
          · have := wt_drop acc; lia
theorem wt_fold (ini : Str) : ∀ (l acc : List Str), wt (l.foldl (normStep ini) acc) ≤ wt acc + wt l
  | [], acc => by simp [wt]
  | c :: r, acc => by
    have h1 := wt_fold ini r (normStep ini acc c)
    have h2 := wt_step ini acc c
    have h3 : wt (c :: r) = wt [c] + wt r := wt_app [c] r
    rw [List.foldl_cons, h3]; lia
theorem normList_weight {x : Str} (hx : x.length ≤ 1000) : wt (normList x) ≤ 1001 := by
  have h1 := wt_fold (splitS x).1 (Txt.split (splitS x).2 (Str.ofString "/")) []
  have h2 := wt_join (Txt.split (splitS x).2 (Str.ofString "/"))
  rw [StrLaws.join_split] at h2
  have h3 := splitS_len x
  have h4 : wt [] = 0 := rfl
  unfold normList
  lia
theorem normList_short {x : Str} (hx : x.length ≤ 1000) (i : Nat) : (((Txt.split (splitS x).2 (Str.ofString "/")).take i).foldl (normStep (splitS x).1) []).length ≤ 1001 := by
  have h1 := wt_fold (splitS x).1 ((Txt.split (splitS x).2 (Str.ofString "/")).take i) []
  have h2 := wt_join (Txt.split (splitS x).2 (Str.ofString "/"))
  rw [StrLaws.join_split] at h2
  have h3 := splitS_len x
  have h4 : wt [] = 0 := rfl
  have h5 : wt ((Txt.split (splitS x).2 (Str.ofString "/")).take i) ≤ wt (Txt.split (splitS x).2 (Str.ofString "/")) := by
    have := wt_app ((Txt.split (splitS x).2 (Str.ofString "/")).take i) ((Txt.split (splitS x).2 (Str.ofString "/")).drop i)
    rw [List.take_append_drop] at this
    lia
  have h6 : ∀ l : List Str, l.length ≤ wt l := fun l => by unfold wt; lia
  have := h6 (((Txt.split (splitS x).2 (Str.ofString "/")).take i).foldl (normStep (splitS x).1) [])
  lia
/-- what a turn of normpath's loop leaves -/
def NormJ (m₀ : Str → Option Value) (lc : Addr) (rest : List (Addr × Obj)) (acc : List Str) (m : Str → Option Value) (nx : List (Addr × Obj)) : Prop :=
  (∀ z, z ≠ Str.ofString "comp" → m z = m₀ z) ∧ ∃ vs n, nx = (lc, listOf vs.toArray n) :: rest ∧ StrsAre vs acc
theorem norm_close {h₀ h' : Heap} {L I lc : Addr} {ob : Obj} {m₀ m' : Str → Option Value} {rest : List (Addr × Obj)} {vs : List Value} {acc' : List Str} {n : Nat} {s₁ : Shared} {tk : Nat}
    (F : Fr h₀ L h' m') (N : News h₀ L h' ((I, ob) :: (lc, listOf vs.toArray n) :: rest)) (ne : AllNe I ((lc, listOf #[] 0) :: rest)) (hm : ∀ z, z ≠ Str.ofString "comp" → m' z = m₀ z) (hs : StrsAre vs acc') :
    FvEnd h₀ L I ob (NormJ m₀ lc rest acc') s₁ { s₁ with heap := h', toks := tk } :=
  fv_end ((lc, listOf vs.toArray n) :: rest) F N (fun p hp => List.mem_cons_of_mem _ hp) (List.Mem.head _) (fun p hp => by
    rcases List.mem_cons.mp hp with rfl | hp
    · exact ne.1
    · exact allNe_out ne.2 p hp) ⟨hm, vs, n, rfl, hs⟩
theorem linesF5_1 : True := by
  k_with "mine:strs" => first | exact StrsAre.nil | (with_reducible assumption) | exact StrsAre.cons _ _ StrsAre.nil | exact strs_one | (refine strs_add ?_; walk_at "mine:strs")
  k_with "FvEnd" => ((with_reducible show FvEnd _ _ _ _ (NormJ _ _ _ _) _ _); (rename Fr _ _ _ _ => eF); (rename News _ _ _ _ => eN); (try simp only [List.push_toArray, List.nil_append] at eN); k_dflt (refine' norm_close eF eN (by (simp only [AllNe, and_true]; assumption)) (by exact fun z hz => if_neg hz) (by with_reducible (first | (rw [ns1 (by assumption)]; walk_at "mine:strs") | (rw [ns2 (by assumption) (by assumption)]; walk_at "mine:strs") | (rw [ns3 (by assumption) (by assumption) (by assumption)]; walk_at "mine:strs") | (rw [ns4 (by assumption) (by assumption) (by assumption) (by assumption)]; walk_at "mine:strs") | (rw [ns5 (by assumption) (by assumption) (by assumption) (by assumption)]; walk_at "mine:strs") | (rw [ns6 (by assumption) (by assumption) (by assumption) (by assumption)]; walk_at "mine:strs") | (rw [ns7 (by assumption) (by assumption) (by assumption) (by assumption)]; walk_at "mine:strs")))))
  trivial
section
variable {prog : Program} {w : World} {A : Around} {E : Value → Shared → Prop} {s : Shared} {env : Env} {h₀ : Heap} {body : List Stmt} {Q : Flow → Shared → Prop}
theorem norm_loop {l lc : Addr} {items : List Value} {cs : List Str} {nn n₀ : Nat} {m₀ : Str → Option Value} {rest : List (Addr × Obj)} (ini : Str)
    (hh : A.handled = none) (hi : StrsAre items cs) (hlen : ∀ c ∈ cs, c.length ≤ 1000) (hw : ∀ i, ((cs.take i).foldl (normStep ini) []).length ≤ 1001) (hl : (l, listOf items.toArray nn) ∈ rest) (F : Fr h₀ env.locals s.heap m₀) (N : News h₀ env.locals s.heap ((lc, listOf #[] n₀) :: rest))
    (turn0 : ∀ (I : Addr) (ob : Obj), AllNe I ((lc, listOf #[] 0) :: rest) → ∀ c t n h tk, c.length ≤ 1000 → Fr h₀ env.locals h (fun y => if y = Str.ofString "comp" then some (.str c t) else m₀ y) → News h₀ env.locals h ((I, ob) :: (lc, listOf #[] n) :: rest) →
      wpAny (model prog w) A (execs body env) (FvPost h₀ env.locals I ob (NormJ m₀ lc rest (normStep ini [] c)) { s with heap := h, toks := tk } Q) E { s with heap := h, toks := tk })
    (turn1 : ∀ (I : Addr) (ob : Obj), AllNe I ((lc, listOf #[] 0) :: rest) → ∀ a b vs tb c t n h tk, c.length ≤ 1000 → vs.length ≤ 1000 → StrsAre vs a → Fr h₀ env.locals h (fun y => if y = Str.ofString "comp" then some (.str c t) else m₀ y) → News h₀ env.locals h ((I, ob) :: (lc, listOf (vs ++ [Value.str b tb]).toArray n) :: rest) →
      wpAny (model prog w) A (execs body env) (FvPost h₀ env.locals I ob (NormJ m₀ lc rest (normStep ini (a ++ [b]) c)) { s with heap := h, toks := tk } Q) E { s with heap := h, toks := tk })
    (done : ∀ (I : Addr) (ob : Obj), True → ∀ (u : Str → Option Value) vs n h tk, StrsAre vs (cs.foldl (normStep ini) []) → Fr h₀ env.locals h (fun y => if y = Str.ofString "comp" then u y else m₀ y) → News h₀ env.locals h ((lc, listOf vs.toArray n) :: rest) → Q .next { s with heap := h, toks := tk }) :
    wpAny (model prog w) A (pyIter (.ref l)) (fun it s₂ => LoopAtV prog w A h₀ env (Str.ofString "comp") body Q E it s₂) E s := by
  have hN := N _ (List.mem_cons_of_mem _ hl)
  refine for_list (fun i m nx => NormJ m₀ lc rest ((cs.take i).foldl (normStep ini) []) m nx) hh ⟨_, hN.1, rfl, nn, rfl⟩ hN.2.1 (.inr ⟨listOf items.toArray nn, ?_⟩) F N ⟨fun _ _ => rfl, [], n₀, rfl, .nil⟩ ?_ ?_
  · rintro i m nx ⟨_, vs, n, rfl, _⟩
    exact List.mem_cons_of_mem _ hl
  · rintro i v m₁ nx h tk I ob _ hv hne ⟨hm, vs, n, rfl, hs⟩ F₁ N₁
    obtain ⟨c, t, rfl, hc⟩ := strs_get hi hv
    have hcm := hlen c (List.mem_of_getElem? hc)
    have em : (fun y => if y = Str.ofString "comp" then some (Value.str c t) else m₁ y) = fun y => if y = Str.ofString "comp" then some (Value.str c t) else m₀ y := by
      funext y
      by_cases hy : y = Str.ofString "comp"
      · rw [if_pos hy, if_pos hy]
      · rw [if_neg hy, if_neg hy, hm y hy]
    rw [em] at F₁
    have hne' : AllNe I ((lc, listOf #[] 0) :: rest) := ⟨(show lc ≠ I from hne (lc, listOf vs.toArray n) (List.Mem.head _)), allNe_of fun p hp => hne p (.tail _ hp)⟩
    have hwi := hw i
    rw [take_next hc, List.foldl_append]
    show wpAny _ _ _ (FvPost _ _ _ _ (NormJ m₀ lc rest (normStep ini ((cs.take i).foldl (normStep ini) []) c)) _ _) _ _
    generalize (cs.take i).foldl (normStep ini) [] = acc at hs hwi
    rcases List.eq_nil_or_concat acc with rfl | ⟨a, b, rfl⟩
    · cases hs
      exact turn0 I ob hne' c t n h tk hcm F₁ N₁
    · rw [List.concat_eq_append] at hs ⊢
      obtain ⟨vs', tb, rfl, hs'⟩ := strs_snoc hs
      exact turn1 I ob hne' a b vs' tb c t n h tk hcm (by have := strs_len hs'; simp at hwi; lia) hs' F₁ N₁
  · rintro m₁ nx h tk ⟨hm, vs, n, rfl, hs⟩ F₁ N₁
    rw [strs_len hi, List.take_length] at hs
    refine done 0 default trivial m₁ vs n h tk hs ?_ N₁
    have em : (fun y => if y = Str.ofString "comp" then m₁ y else m₀ y) = m₁ := by
      funext y
      by_cases hy : y = Str.ofString "comp"
      · rw [if_pos hy]
      · rw [if_neg hy, hm y hy]
    rw [em]; exact F₁
theorem norm_loop2 {l lc : Addr} {items : List Value} {nn n₀ : Nat} {m₀ : Str → Option Value} {rest : List (Addr × Obj)} {x : Str}
    (hh : A.handled = none) (hx : x.length ≤ 1000) (hle : ∀ a ∈ Txt.split (splitS x).2 (Str.ofString "/"), a.length ≤ (splitS x).2.length) (hi : StrsAre items (Txt.split (splitS x).2 (Str.ofString "/"))) (hl : (l, listOf items.toArray nn) ∈ rest) (F : Fr h₀ env.locals s.heap m₀) (N : News h₀ env.locals s.heap ((lc, listOf #[] n₀) :: rest))
    (turn0 : ∀ (I : Addr) (ob : Obj), AllNe I ((lc, listOf #[] 0) :: rest) → ∀ c t n h tk, c.length ≤ 1000 → Fr h₀ env.locals h (fun y => if y = Str.ofString "comp" then some (.str c t) else m₀ y) → News h₀ env.locals h ((I, ob) :: (lc, listOf #[] n) :: rest) →
      wpAny (model prog w) A (execs body env) (FvPost h₀ env.locals I ob (NormJ m₀ lc rest (normStep (splitS x).1 [] c)) { s with heap := h, toks := tk } Q) E { s with heap := h, toks := tk })
    (turn1 : ∀ (I : Addr) (ob : Obj), AllNe I ((lc, listOf #[] 0) :: rest) → ∀ a b vs tb c t n h tk, c.length ≤ 1000 → vs.length ≤ 1000 → StrsAre vs a → Fr h₀ env.locals h (fun y => if y = Str.ofString "comp" then some (.str c t) else m₀ y) → News h₀ env.locals h ((I, ob) :: (lc, listOf (vs ++ [Value.str b tb]).toArray n) :: rest) →
      wpAny (model prog w) A (execs body env) (FvPost h₀ env.locals I ob (NormJ m₀ lc rest (normStep (splitS x).1 (a ++ [b]) c)) { s with heap := h, toks := tk } Q) E { s with heap := h, toks := tk })
    (done : ∀ (I : Addr) (ob : Obj), True → ∀ (u : Str → Option Value) vs n h tk, StrsAre vs (normList x) → ((normList x).map (·.length)).sum + (normList x).length ≤ 1048576 → (Txt.join (Str.ofString "/") (normList x)).length ≤ 1001 → (splitS x).1.length ≤ 1000 → Fr h₀ env.locals h (fun y => if y = Str.ofString "comp" then u y else m₀ y) → News h₀ env.locals h ((lc, listOf vs.toArray n) :: rest) → Q .next { s with heap := h, toks := tk }) :
    wpAny (model prog w) A (pyIter (.ref l)) (fun it s₂ => LoopAtV prog w A h₀ env (Str.ofString "comp") body Q E it s₂) E s :=
  norm_loop (splitS x).1 hh hi (fun c hc => Nat.le_trans (hle c hc) (Nat.le_trans (splitS_len x) hx)) (fun i => normList_short hx i) hl F N turn0 turn1 fun I ob hI u vs n h tk hs => done I ob hI u vs n h tk hs (Nat.le_trans (normList_weight hx) (by decide)) (by rw [show Txt.join (Str.ofString "/") (normList x) = Str.join (Str.ofString "/") (normList x) from StrLaws.glued_eq_join _ _]; exact Nat.le_trans (join_len _) (normList_weight hx)) (splitS_len1 x hx)
end
section
variable {prog : Program} {w : World} {A : Around} {E : Value → Shared → Prop} {s : Shared} {h₀ : Heap} {L : Addr} {m : Str → Option Value} {news : List (Addr × Obj)} {x y : Str} {t u : Tok}
theorem split_D {Q : Value → Shared → Prop} (hF : Fr h₀ L s.heap m) (hN : News h₀ L s.heap news) (hy : (y.length == 0) = false) (hsz : x.length ≤ 1000)
    (h : ∀ D vs h' k, StrsAre vs (Txt.split x y) → (∀ a ∈ Txt.split x y, a.length ≤ x.length) → Fr h₀ L h' m → News h₀ L h' ((D, listOf vs.toArray 0) :: news) → (∀ p ∈ news, p.1 < D) → Q (.ref D) { s with heap := h', toks := k }) :
    wpAny (model prog w) A (call (.builtin "str.split") [.str x t, .str y u]) Q E s :=
  splitN1A hF hN hy (fun l h' k e sa le _ F N => h _ _ h' k (e ▸ sa) (e ▸ le) F N fun p hp => Heap.lt_size (hN p hp).1) (by rw [sizeLine_eq]; lia)
end
theorem linesF5_2 : True := by
  k_with "mine:pre" => exact Nat.le_trans (splitS_len _) (by assumption)
  k_with "call builtin:str.split" => ((with_reducible show wpAny _ _ (call (Value.builtin _) [Value.str _ _, Value.str _ _]) _ _ _); k_dflt (refine' split_D (by k_asm) (by k_asm) (by decide +kernel) (by walk_at "mine:pre") ?_; k_whole; intro Du32' vsu32' hu32' ku32' sau32' leu32' Fu32' Nu32' l1; (try k_lt l1); (try k_sweep)))
  k_with "pyIter ref" => ((with_reducible show wpAny _ _ (pyIter (Value.ref _)) (fun it s₂ => LoopAtV _ _ _ _ _ (PySem.Str.ofString "comp") _ _ _ it s₂) _ _); (rename StrsAre _ _ => sAu33'); (rename Fr _ _ _ _ => lFu33'); (rename News _ _ _ _ => lNu33'); k_dflt (refine' norm_loop2 (by exact rfl) (by assumption) (by assumption) sAu33' (by k_mem) lFu33' lNu33' _ _ _); (all_goals (intro Iu33' obu33' hneu33'; (try simp only [AllNe, and_true] at hneu33'); intros; clear lFu33' lNu33'; (try k_fold))))
  k_with "call builtin:str.join" => ((with_reducible show wpAny _ _ (call (Value.builtin _) [Value.str _ _, Value.ref _]) _ _ _); k_dflt (refine' join_listW (by exact News.isList (by k_asm) (by k_mem)) (by with_reducible assumption) (by decide +kernel) (by with_reducible assumption) ?_; k_whole; intro tu34' ku34'))
  trivial
theorem norm1 {x : Str} (h : (((splitS x).1 ++ Txt.join (Str.ofString "/") (normList x)).length : Int) ≠ 0) : (splitS x).1 ++ Txt.join (Str.ofString "/") (normList x) = normS x := by unfold normS; rw [if_pos h]
theorem norm2 {x : Str} (h : (((splitS x).1 ++ Txt.join (Str.ofString "/") (normList x)).length : Int) = 0) : Str.ofString "." = normS x := by unfold normS; rw [if_neg (fun z => z h)]
set_option maxRecDepth 100000 in
set_option maxHeartbeats 8000000 in
theorem sp_normpath (w : World) (mean : ExcName → Option Value) (mg mb : Str → Option Value) (x : Str) (t : Tok) :
    About PySem.Challenge.rw_rt0094_01 Mine.pre.heap_1_1 (Sp w mean mg mb 191 [Value.str x t] 8 (fun _ => 1 ≤ x.length ∧ x.length ≤ 1000) (fun _ _ v => ∃ t, v = Value.str (normS x) t)) := by
  k_fill; unfold About Sp; intro dp un gd cn cs a ccd cl outer A₀ base h₀ L m s Q E B F X T hk hd hu hp hret
  obtain ⟨hp1, hp2⟩ := hp
  have hini := splitS_len1 x hp2
  walk_at "mine:go"
  all_goals first | (exfalso; omega) | (refine sp_ret (s := s) (Q := Q) hret (by k_asm) ?_; refine ⟨_, congrArg (fun z => Value.str z _) ?_⟩; with_reducible (first | exact norm1 (by assumption) | exact norm2 (by assumption)))

theorem linesF5_3 : True := by
  k_with "call ref" => ((with_reducible show wpAny _ _ (call (Value.ref 191) [Value.str _ _]) _ _ _); k_dflt (refine' Sp.use (sp_normpath _ _ _ _ _ _) (by k_asm) (by k_asm) (by k_asm) (by k_asm) (by k_asm) (by first | exact rfl | assumption) (by ktr_room) (by ktr_units) (by walk_at "mine:pre") ?_); intro v9u35 h9u35 tk9u35 g9u35 F9u35 N9u35 p9u35; obtain ⟨t9u35, p9u35⟩ := p9u35; subst p9u35; (try k_sweep))
  trivial
theorem offForGen : True := by
  w_top off
  trivial
/-- the loop of a for, from its iterator on -/
def ForAt (prog : Program) (w : World) (A : Around) (env : Env) (target : Expr) (body orelse : List Stmt) (Q : Flow → Shared → Prop) (E : Value → Shared → Prop) (it : Value) (s₂ : Shared) : Prop :=
  codeAny (model prog w) A (.forLoop target it body orelse env) (fun r s' => match r with | .ok f => Q f s' | .error e => cameBackBy (model prog w) A env E e s') s₂
section
variable {prog : Program} {w : World} {A : Around} {E : Value → Shared → Prop} {s : Shared} {env : Env} {h₀ : Heap} {target : Expr} {body orelse : List Stmt} {Q : Flow → Shared → Prop}
theorem exec_ForAt {iter : Expr} {pos : Pos} (h : wpAny (model prog w) A (eval iter env) (fun x s₁ => wpAny (model prog w) A (pyIter x) (fun it s₂ => ForAt prog w A env target body orelse Q E it s₂) E s₁) E s)
    (hs : ∀ x, foldedSetIterable iter env x = pure x := by intro _; rfl) : wpAny (model prog w) A (exec (.For target iter body orelse pos) env) Q E s := wpAny_For h hs

theorem letGo_plain {I : Addr} {v : Value} {T : String} {Q : Unit → Shared → Prop} (hI : ∃ o, s.heap.get? I = some o ∧ o.cls = .type T)
    (hT : ["enumerate", "zip", "dict_itemiterator", "dict_reverseitemiterator", "odict_iterator", "itertools.zip_longest", "itertools.pairwise"].contains T = false) (h : Q () s) :
    wpAny (model prog w) A (letOwnedTupleGo target (.ref I) v) Q E s := by
  obtain ⟨o, ho, hc⟩ := hI
  unfold letOwnedTupleGo
  split
  · split
    · rename_i r a hra
      cases hra
      refine wpAny_bind (wpAny_load ho ?_)
      obtain ⟨c, d, dt, sl⟩ := o
      simp only at hc; subst hc
      cases dt <;> first | exact wpAny_pure h | (dsimp only; simp only [hT, Bool.false_and, Bool.false_eq_true, if_false]; exact wpAny_pure h)
    · exact wpAny_pure h
  · split
    · rename_i r a hra
      cases hra
      refine wpAny_bind (wpAny_load ho ?_)
      obtain ⟨c, d, dt, sl⟩ := o
      simp only at hc; subst hc
      cases dt <;> first | exact wpAny_pure h | (dsimp only; simp only [hT, Bool.false_and, Bool.false_eq_true, if_false]; exact wpAny_pure h)
    · exact wpAny_pure h
  · exact wpAny_pure h

theorem for_gen {I : Addr} {fp : List Addr} {n : Nat} {P : Nat → Value → Prop} {St : Nat → Heap → Prop} {T : String} {m₀ : Str → Option Value} {news : List (Addr × Obj)} (J : Nat → (Str → Option Value) → List (Addr × Obj) → Prop)
    (W : Walks prog w A I fp [I] n P St) (hI : h₀.get? I = none) (hIL : I ≠ env.locals) (hfp : ∀ b ∈ fp, b ≠ I → (∃ o, h₀.get? b = some o) ∨ ∃ o, ∀ i m nx, J i m nx → (b, o) ∈ nx)
    (hlive : ∀ i h, St i h → ∃ o, h.get? I = some o ∧ o.cls = .type T)
    (hT : ["enumerate", "zip", "dict_itemiterator", "dict_reverseitemiterator", "odict_iterator", "itertools.zip_longest", "itertools.pairwise"].contains T = false)
    (hst : St 0 s.heap) (F : Fr h₀ env.locals s.heap m₀) (N : News h₀ env.locals s.heap news) (hnI : ∀ p ∈ news, p.1 ≠ I) (hj : J 0 m₀ news) (hE : PassesOwn (model prog w) A env E)
    (turn : ∀ (ob : Obj) i v m₁ nx h tk, i < n → P i v → (∀ p ∈ nx, p.1 ≠ I) → J i m₁ nx → Fr h₀ env.locals h m₁ → News h₀ env.locals h ((I, ob) :: nx) →
      wpAny (model prog w) A (assign target env v) (fun _ s₂ => wpAny (model prog w) A (execs body env) (FvPost h₀ env.locals I ob (J (i + 1)) { s with heap := h, toks := tk } Q) E s₂) E { s with heap := h, toks := tk })
    (done : ∀ m₁ nx h tk, J n m₁ nx → Fr h₀ env.locals h m₁ → News h₀ env.locals h nx → wpAny (model prog w) A (execs orelse env) Q E { s with heap := h, toks := tk }) :
    ForAt prog w A env target body orelse Q E (.ref I) s := by
  unfold ForAt
  refine codeAny_forLoop_any
    (fun k s' => ∃ h' tk m' nx i, s' = { s with heap := h', toks := tk } ∧ St i h' ∧ Fr h₀ env.locals h' m' ∧ News h₀ env.locals h' nx ∧ (∀ p ∈ nx, p.1 ≠ I) ∧ J i m' nx ∧ i ≤ n ∧ k = n + 1 - i) ?_ (n + 1)
    ⟨s.heap, s.toks, m₀, news, 0, rfl, hst, F, N, hnI, hj, Nat.zero_le _, rfl⟩
  rintro k s' ⟨H, tk, m', nx, i, rfl, hst', F', N', hnI', hJ, hi, rfl⟩
  have next : ∀ h₁ : Heap, (∀ b o, b ∉ [I] → H.get? b = some o → h₁.get? b = some o) → Fr h₀ env.locals h₁ m' ∧ News h₀ env.locals h₁ nx := fun h₁ hk₁ =>
    ⟨⟨F'.ns.at' fun o e => hk₁ _ o (fun q => hIL (List.mem_singleton.mp q).symm) e, fun b o e => hk₁ b o (fun q => by rw [List.mem_singleton.mp q, hI] at e; cases e) (F'.keep b o e), F'.above⟩,
      fun p hp => ⟨hk₁ _ _ (fun q => hnI' p hp (List.mem_singleton.mp q)) (N' p hp).1, (N' p hp).2⟩⟩
  by_cases hlt : i < n
  · refine W.item i _ _ _ hlt hst' fun v h₁ tk₁ hP hst₁ hk₁ => ?_
    obtain ⟨F₁, N₁⟩ := next h₁ hk₁
    obtain ⟨ob, hob, hcl⟩ := hlive _ _ hst₁
    refine letGo_plain ⟨ob, hob, hcl⟩ hT ?_
    have N₂ : News h₀ env.locals h₁ ((I, ob) :: nx) := fun p hp => by
      rcases List.mem_cons.mp hp with rfl | hp
      · exact ⟨hob, hIL, hI⟩
      · exact N₁ p hp
    refine wpAny_passesOwn hE (wpAny_mono (turn ob i v m' nx h₁ tk₁ hlt hP hnI' hJ F₁ N₂) (fun _ s₂ h₂ => wpAny_passesOwn hE (wpAny_mono h₂ (fun f s₃ h₃ => ?_) fun _ _ e => e)) fun _ _ e => e)
    have fin : FvEnd h₀ env.locals I ob (J (i + 1)) { s with heap := h₁, toks := tk₁ } s₃ → ∃ m, m < n + 1 - i ∧ ∃ h' tk m' nx j, s₃ = { s with heap := h', toks := tk } ∧ St j h' ∧ Fr h₀ env.locals h' m' ∧ News h₀ env.locals h' nx ∧ (∀ p ∈ nx, p.1 ≠ I) ∧ J j m' nx ∧ j ≤ n ∧ m = n + 1 - j := by
      rintro ⟨h', tk', m₂, news', nx', e, F₃, N₃, hn, ho, ha, hm⟩
      refine ⟨n + 1 - (i + 1), by lia, h', tk', m₂, nx', i + 1, e, W.frame _ _ _ hst₁ fun b hb o hbo => ?_, F₃, fun p hp => N₃ p (hn p hp), ha, hm, hlt, rfl⟩
      by_cases hbI : b = I
      · subst hbI
        rw [hob] at hbo; cases hbo
        exact (N₃ _ ho).1
      · rcases hfp b hb hbI with ⟨o', ho'⟩ | ⟨o', ho'⟩
        · have h1 := F₁.keep _ _ ho'
          rw [h1] at hbo; cases hbo
          exact F₃.keep _ _ ho'
        · have h1 := (N₁ _ (ho' _ _ _ hJ)).1
          have h1' : h₁.get? b = some o' := h1
          rw [h1'] at hbo; cases hbo
          exact (N₃ _ (hn _ (ho' _ _ _ hm))).1
    cases f with
    | ret v => exact h₃
    | brk => exact h₃
    | next => exact fin h₃
    | cont => exact fin h₃
  · have hin : i = n := by lia
    subst hin
    refine W.done _ _ _ hst' fun h₁ tk₁ hk₁ => ?_
    obtain ⟨F₁, N₁⟩ := next h₁ hk₁
    exact wpAny_passesOwn hE (done m' nx h₁ tk₁ hJ F₁ N₁)

/-- a for over an old tuple -/
theorem for_tupK {D : Addr} {items : List Value} {m₀ : Str → Option Value} {news : List (Addr × Obj)} (J : Nat → (Str → Option Value) → List (Addr × Obj) → Prop)
    (hh : A.handled = none) (hD : h₀.IsTuple D items.toArray) (F : Fr h₀ env.locals s.heap m₀) (N : News h₀ env.locals s.heap news) (hj : J 0 m₀ news)
    (turn : ∀ (I : Addr) (ob : Obj) i v m₁ nx h tk, (∀ p ∈ nx, p.1 ≠ I) → i < items.length → items[i]? = some v → J i m₁ nx → Fr h₀ env.locals h m₁ → News h₀ env.locals h ((I, ob) :: nx) →
      wpAny (model prog w) A (assign target env v) (fun _ s₂ => wpAny (model prog w) A (execs body env) (FvPost h₀ env.locals I ob (J (i + 1)) { s with heap := h, toks := tk } Q) E s₂) E { s with heap := h, toks := tk })
    (done : ∀ m₁ nx h tk, J items.length m₁ nx → Fr h₀ env.locals h m₁ → News h₀ env.locals h nx → wpAny (model prog w) A (execs orelse env) Q E { s with heap := h, toks := tk })
    (hE : PassesOwn (model prog w) A env E) :
    wpAny (model prog w) A (pyIter (.ref D)) (fun it s₂ => ForAt prog w A env target body orelse Q E it s₂) E s := by
  have ht : s.heap.IsTuple D items.toArray := hD.at fun o e => F.keep D o e
  obtain ⟨oD, hoD, _⟩ := id hD
  have hlt : D < s.heap.objs.size := Heap.lt_size (F.keep _ _ hoD)
  refine wpAny_pyIter_tuple ht ?_
  have W := Walks.tuple (prog := prog) (w := w) hh s.heap.objs.size D (Nat.ne_of_lt hlt) items.toArray
  have hlen : items.toArray.size = items.length := by simp
  rw [hlen] at W
  refine for_gen (s := { s with heap := _ }) J W (next_is_new F) (Nat.ne_of_gt F.ns.lt) ?_ (T := "tuple_iterator") (fun i h st => by obtain ⟨o, ho, hc, _⟩ := st.1; exact ⟨o, ho, hc⟩) (by decide) ⟨⟨_, Heap.get?_push_size _ rfl, rfl, rfl⟩, ht.at fun o e => Heap.get?_push_of_some _ e⟩ (F.push _) (fun p hp => ⟨Heap.get?_push_of_some _ (N p hp).1, (N p hp).2⟩)
    (fun p hp q => absurd (Heap.lt_size (N p hp).1) (by rw [q]; exact Nat.lt_irrefl _)) hj hE (fun ob i v m₁ nx h tk hi hP hne => turn _ ob i v m₁ nx h tk hne hi (by simpa using hP)) done
  intro b hb hbI
  rcases List.mem_cons.mp hb with e | hb
  · exact absurd e hbI
  · rw [List.mem_singleton.mp hb]; exact .inl ⟨oD, hoD⟩

/-- a for over a list that does not turn (old, or of the ledger) -/
theorem for_listG {D : Addr} {items : List Value} {m₀ : Str → Option Value} {news : List (Addr × Obj)} (J : Nat → (Str → Option Value) → List (Addr × Obj) → Prop)
    (hh : A.handled = none) (hl : s.heap.IsList D items.toArray) (hk : (∃ o, h₀.get? D = some o) ∨ ∃ o, ∀ i m nx, J i m nx → (D, o) ∈ nx) (F : Fr h₀ env.locals s.heap m₀) (N : News h₀ env.locals s.heap news) (hj : J 0 m₀ news)
    (turn : ∀ (I : Addr) (ob : Obj) i v m₁ nx h tk, (∀ p ∈ nx, p.1 ≠ I) → i < items.length → items[i]? = some v → J i m₁ nx → Fr h₀ env.locals h m₁ → News h₀ env.locals h ((I, ob) :: nx) →
      wpAny (model prog w) A (assign target env v) (fun _ s₂ => wpAny (model prog w) A (execs body env) (FvPost h₀ env.locals I ob (J (i + 1)) { s with heap := h, toks := tk } Q) E s₂) E { s with heap := h, toks := tk })
    (done : ∀ m₁ nx h tk, J items.length m₁ nx → Fr h₀ env.locals h m₁ → News h₀ env.locals h nx → wpAny (model prog w) A (execs orelse env) Q E { s with heap := h, toks := tk })
    (hE : PassesOwn (model prog w) A env E) :
    wpAny (model prog w) A (pyIter (.ref D)) (fun it s₂ => ForAt prog w A env target body orelse Q E it s₂) E s := by
  obtain ⟨oD, hoD, _⟩ := id hl
  have hlt : D < s.heap.objs.size := Heap.lt_size hoD
  refine wpAny_pyIter_list hl ?_
  have W := Walks.list (prog := prog) (w := w) hh s.heap.objs.size D (Nat.ne_of_lt hlt) items.toArray
  have hlen : items.toArray.size = items.length := by simp
  rw [hlen] at W
  refine for_gen (s := { s with heap := _ }) J W (next_is_new F) (Nat.ne_of_gt F.ns.lt) ?_ (T := "list_iterator") (fun i h st => by obtain ⟨o, ho, hc, _⟩ := st.1; exact ⟨o, ho, hc⟩) (by decide) ⟨⟨_, Heap.get?_push_size _ rfl, rfl, rfl⟩, hl.at fun o e => Heap.get?_push_of_some _ e⟩ (F.push _) (fun p hp => ⟨Heap.get?_push_of_some _ (N p hp).1, (N p hp).2⟩)
    (fun p hp q => absurd (Heap.lt_size (N p hp).1) (by rw [q]; exact Nat.lt_irrefl _)) hj hE (fun ob i v m₁ nx h tk hi hP hne => turn _ ob i v m₁ nx h tk hne hi (by simpa using hP)) done
  intro b hb hbI
  rcases List.mem_cons.mp hb with e | hb
  · exact absurd e hbI
  · rw [List.mem_singleton.mp hb]; exact hk
end

theorem offForEnum : True := by
  w_top off
  trivial
open AutoSeq1 (wpAny_loadPart') in
set_option maxRecDepth 100000 in
theorem meets_enumerate_newT (l : Addr) (items : Array Value) (n : Nat) (dct : Option Addr) (sl : Array (Option Value)) :
    Meets (Builtin.«enumerate.__new__» ⟨[.type "enumerate", .ref l], []⟩) (fun _ R s => s.heap.get? l = some { cls := .type "tuple", dict := dct, data := .seq items n, slots := sl } ∧
      R (.ok (.ret (.ref (s.heap.push { cls := .type "tuple_iterator", data := .fields #[.ref l, .int 0 0] }).objs.size)))
        { s with heap := (s.heap.push { cls := .type "tuple_iterator", data := .fields #[.ref l, .int 0 0] }).push { cls := .type "enumerate", data := .fields #[.none, .bool false, .ref s.heap.objs.size, rawInt 0, .none, .none] } }) :=
  .of_wp fun prog w A R s h => by
    obtain ⟨hp, g, d, tk, os⟩ := s; obtain ⟨hl, h⟩ := h
    have hsub := sub_enumerate
    have hL : Heap.IsTuple (Shared.heap ⟨hp, g, d, tk, os⟩) l items := ⟨_, hl, rfl, n, rfl⟩
    wp_walk using wpAny_loadPart' hl
    refine wpAny_stack_any fun st => wpAny_pure ?_
    split
    · rename_i c _ _ _ _ _
      cases (c == Value.type "enumerate")
      · wp_walk using wpAny_loadPart' hl, wpAny_pyIter_tuple hL
        exact ⟨_, rfl, h⟩
      · wp_walk using wpAny_loadPart' hl, wpAny_pyIter_tuple hL
        exact ⟨_, rfl, h⟩
    · wp_walk using wpAny_loadPart' hl, wpAny_pyIter_tuple hL
      exact ⟨_, rfl, h⟩
section
variable {prog : Program} {w : World} {A : Around} {E : Value → Shared → Prop} {s : Shared}
theorem call_enumerate_tuple {l : Addr} {items : Array Value} {Q : Value → Shared → Prop} (hL : s.heap.IsTuple l items)
    (h : ∀ h', IsEnum h' (s.heap.objs.size + 1) s.heap.objs.size 0 .none → h'.IsTupleIter s.heap.objs.size l 0 → h'.objs.size = s.heap.objs.size + 2 →
      (∀ b o, s.heap.get? b = some o → h'.get? b = some o) → Q (.ref (s.heap.objs.size + 1)) { s with heap := h' }) :
    wpAny (model prog w) A (call (.type "enumerate") [.ref l]) Q E s := by
  obtain ⟨⟨c, dct, dt, sl⟩, hl, hc, n, hd⟩ := hL
  replace hc : c = .type "tuple" := hc
  replace hd : dt = .seq items n := hd
  subst hc hd
  refine callType_new F.called_enumerate (by decide) (F.typeCall_enumerate_1 _) (F.newCall_enumerate_1 _) (fun obj => F.args_object_init_2 obj _) F.entry_enumerate_new
    (meets_enumerate_newT l items n dct sl) ⟨hl, ?_⟩
  have hz : (s.heap.push { cls := .type "tuple_iterator", data := .fields #[.ref l, .int 0 0] }).objs.size = s.heap.objs.size + 1 := Heap.size_push ..
  show _ ∧ _
  rw [hz]
  have he : IsEnum ((s.heap.push { cls := .type "tuple_iterator", data := .fields #[.ref l, .int 0 0] }).push
      { cls := .type "enumerate", data := .fields #[.none, .bool false, .ref s.heap.objs.size, rawInt 0, .none, .none] }) (s.heap.objs.size + 1) s.heap.objs.size 0 .none := by
    have := Heap.get?_push_size (s.heap.push { cls := .type "tuple_iterator", data := .fields #[.ref l, .int 0 0] })
      (o := { cls := .type "enumerate", data := .fields #[.none, .bool false, .ref s.heap.objs.size, rawInt 0, .none, .none] }) rfl
    rw [hz] at this; exact this
  refine ⟨⟨_, he, rfl⟩, h _ he ⟨_, Heap.get?_push_of_some _ (Heap.get?_push_size _ rfl), rfl, rfl⟩ (by rw [Heap.size_push, hz]) fun b o x => Heap.get?_push_of_some _ (Heap.get?_push_of_some _ x)⟩

theorem nextOf_tuple_item {it l : Addr} {i : Nat} {items : Array Value} {x : Value} {Q : Value → Shared → Prop} (hit : s.heap.IsTupleIter it l i)
    (hl : s.heap.IsTuple l items) (hx : items[i]? = some x)
    (hQ : ∀ h', h'.IsTupleIter it l (i + 1) → Heap.SameBut it s.heap h' → Q x { s with heap := h' }) :
    wpAny (model prog w) A (Builtin.SmallTypes.nextOf (.ref it)) Q E s := by
  obtain ⟨o, ho, hc, hd⟩ := id hit
  obtain ⟨ol, hol, _, nl, hdl⟩ := hl
  unfold Builtin.SmallTypes.nextOf
  refine wpAny_bind (wpAny_callSpecial?_slot (name := Str.ofString "__next__") hit.typeIs F.slot_tuple_iterator_next
    (wpAny_call_entry F.slot_tuple_iterator_next hit.typeIs F.entry_tuple_iterator_next ?_ (F.args_tuple_iterator_next_1 _)))
  show wpAny _ _ (field (.ref it) 0 >>= _) _ _ s
  refine wpAny_bind (wpAny_field ho hd (x := .ref l) rfl ?_)
  show wpAny _ _ (if (Value.ref l == Value.none) = true then _ else _) _ _ s
  rw [if_neg (show ¬ ((Value.ref l == Value.none) = true) from Bool.false_ne_true)]
  show wpAny _ _ (field (.ref it) 1 >>= _) _ _ s
  refine wpAny_bind (wpAny_field ho hd (x := .int i 0) rfl ?_)
  show wpAny _ _ (seqItems? (.ref l) >>= _) _ _ s
  refine wpAny_bind (wpAny_seqItems hol hdl ?_)
  simp only [Int.toNat_natCast, hx]
  refine wpAny_bind (wpAny_setField ho hd (by simp) (wpAny_pure ⟨x, rfl, wpAny_pure (hQ _ ?_ (Heap.SameBut.update ..))⟩))
  exact ⟨_, Heap.get?_update_self _ ho (Obj.isFreed_of_fields (Obj.data_mapFields hd _)), (Obj.cls_mapFields ..).trans hc, by
    rw [Obj.data_mapFields hd]; simp [rawInt]⟩
theorem nextOf_tuple_end {it l : Addr} {i : Nat} {items : Array Value} {Q : Value → Shared → Prop} (hh : A.handled = none)
    (hit : s.heap.IsTupleIter it l i) (hl : s.heap.IsTuple l items) (hx : items[i]? = none)
    (hE : ∀ h' e, Heap.ExtBut it s.heap h' → (∃ o, h'.get? e = some o ∧ o.cls = .type "StopIteration") → E (.ref e) { s with heap := h' }) :
    wpAny (model prog w) A (Builtin.SmallTypes.nextOf (.ref it)) Q E s := by
  obtain ⟨o, ho, hc, hd⟩ := id hit
  obtain ⟨ol, hol, _, nl, hdl⟩ := hl
  unfold Builtin.SmallTypes.nextOf
  refine wpAny_bind (wpAny_callSpecial?_slot (name := Str.ofString "__next__") hit.typeIs F.slot_tuple_iterator_next
    (wpAny_call_entry F.slot_tuple_iterator_next hit.typeIs F.entry_tuple_iterator_next ?_ (F.args_tuple_iterator_next_1 _)))
  show wpAny _ _ (field (.ref it) 0 >>= _) _ _ s
  refine wpAny_bind (wpAny_field ho hd (x := .ref l) rfl ?_)
  show wpAny _ _ (if (Value.ref l == Value.none) = true then _ else _) _ _ s
  rw [if_neg (show ¬ ((Value.ref l == Value.none) = true) from Bool.false_ne_true)]
  show wpAny _ _ (field (.ref it) 1 >>= _) _ _ s
  refine wpAny_bind (wpAny_field ho hd (x := .int i 0) rfl ?_)
  show wpAny _ _ (seqItems? (.ref l) >>= _) _ _ s
  refine wpAny_bind (wpAny_seqItems hol hdl ?_)
  simp only [Int.toNat_natCast, hx]
  refine wpAny_bind (wpAny_rule (wpAny_bind (wpAny_setField ho hd (by simp) ?_)))
  show wpAny _ _ (newExc (.type "StopIteration") [] >>= _) _ _ _
  refine wpAny_bind ?_
  simp only [newExc, newTuple]
  refine wpAny_bind (wpAny_newObj_type ?_ (by size_fits))
  refine wpAny_bind (m := firstArgMember _ _) (wpAny_of_eq (a := Value.none) (by first | rfl | (simp only [firstArgMember]; rfl)) ?_)
  refine wpAny_newObj_type ?_ (by size_fits)
  simp only [raiseNew]
  refine wpAny_bind (wpAny_handled ?_)
  first | rw [show A.in1.handled = none from hh] | rw [hh]
  refine wpAny_bind (wpAny_pure (wpAny_throw ?_))
  exact hE _ _ (((Heap.SameBut.update ..).extBut.push _).push _) ⟨_, Heap.get?_push_size _ rfl, rfl⟩
theorem draws_tuple (hh : A.handled = none) (it l : Addr) (hne : l ≠ it) (items : Array Value) :
    Draws prog w A it [it, l] items.size (fun i v => items[i]? = some v) (fun i h => h.IsTupleIter it l i ∧ h.IsTuple l items) where
  live := fun _ _ st => let ⟨o, ho, _⟩ := st.1; ⟨o, ho⟩
  frame := fun _ _ _ st hk => ⟨st.1.at fun o e => hk it (by simp) o e, st.2.at fun o e => hk l (by simp) o e⟩
  item := fun i s Q E hi st hQ => by
    refine nextOf_tuple_item st.1 st.2 (x := items[i]) (by simp [hi]) fun h' hit' hs' => ?_
    exact hQ _ h' s.toks (by simp [hi]) ⟨hit', st.2.extBut hs'.extBut hne⟩ hs'
  done := fun s Q E st hE => nextOf_tuple_end hh st.1 st.2 (by simp) hE
end

theorem ltS {h : Heap} {a : Addr} {o : Obj} (e : h.get? a = some o) : @LT.lt Nat instLTNat a h.objs.size := Heap.lt_size e
theorem neS {a b : Addr} (h : a ≠ b) : @Ne Nat a b := h
/-- what a turn of a for over an enumerate leaves: the two iterators as they were -/
def FeEnd (h₀ : Heap) (L : Addr) (own : List (Addr × Obj)) (J : (Str → Option Value) → List (Addr × Obj) → Prop) (s₁ s₂ : Shared) : Prop :=
  ∃ h' tk m' news' nx, s₂ = { s₁ with heap := h', toks := tk } ∧ Fr h₀ L h' m' ∧ News h₀ L h' news' ∧ (∀ p ∈ nx, p ∈ news') ∧ (∀ p ∈ own, p ∈ news') ∧ (∀ p ∈ nx, ∀ q ∈ own, p.1 ≠ q.1) ∧ J m' nx
def FePost (h₀ : Heap) (L : Addr) (own : List (Addr × Obj)) (J : (Str → Option Value) → List (Addr × Obj) → Prop) (s₁ : Shared) (Q : Flow → Shared → Prop) (f : Flow) (s₂ : Shared) : Prop :=
  match f with
  | .ret v => Q (.ret v) s₂
  | .brk => Q .next s₂
  | _ => FeEnd h₀ L own J s₁ s₂
theorem fe_end {h₀ h' : Heap} {L : Addr} {own : List (Addr × Obj)} {J : (Str → Option Value) → List (Addr × Obj) → Prop} {s₁ : Shared} {tk : Nat} {m' : Str → Option Value} {news' : List (Addr × Obj)} (nx : List (Addr × Obj))
    (F : Fr h₀ L h' m') (N : News h₀ L h' news') (hn : ∀ p ∈ nx, p ∈ news') (hi : ∀ p ∈ own, p ∈ news') (ha : ∀ p ∈ nx, ∀ q ∈ own, p.1 ≠ q.1) (hj : J m' nx) : FeEnd h₀ L own J s₁ { s₁ with heap := h', toks := tk } :=
  ⟨h', tk, m', news', nx, rfl, F, N, hn, hi, ha, hj⟩
section
variable {prog : Program} {w : World} {A : Around} {E : Value → Shared → Prop} {s : Shared} {env : Env} {h₀ : Heap} {elts : List Expr} {x1 : Nat} {pt : Pos} {body orelse : List Stmt} {Q : Flow → Shared → Prop}
/-- a for over an enumerate of an old tuple -/
theorem for_enumK {D : Addr} {items : List Value} {m₀ : Str → Option Value} {news : List (Addr × Obj)} (J : Nat → (Str → Option Value) → List (Addr × Obj) → Prop)
    (hh : A.handled = none) (hD : h₀.IsTuple D items.toArray) (F : Fr h₀ env.locals s.heap m₀) (N : News h₀ env.locals s.heap news) (hj : J 0 m₀ news)
    (turn : ∀ (e it T : Addr) (oe oi oT : Obj) i v tok m₁ nx h tk, e ≠ it → T ≠ e → T ≠ it → (∀ p ∈ nx, p.1 ≠ e ∧ p.1 ≠ it ∧ p.1 ≠ T) → i < items.length → items[i]? = some v → J i m₁ nx → oT.cls = .type "tuple" → (∃ n, oT.data = .seq #[.int (i : Nat) tok, v] n) →
      Fr h₀ env.locals h m₁ → News h₀ env.locals h ((T, oT) :: (e, oe) :: (it, oi) :: nx) →
      wpAny (model prog w) A (assign (.Tuple elts x1 pt) env (.ref T)) (fun _ s₂ => wpAny (model prog w) A (execs body env) (FePost h₀ env.locals [(e, oe), (it, oi)] (J (i + 1)) { s with heap := h, toks := tk } Q) E s₂) E { s with heap := h, toks := tk })
    (done : ∀ m₁ nx h tk, J items.length m₁ nx → Fr h₀ env.locals h m₁ → News h₀ env.locals h nx → wpAny (model prog w) A (execs orelse env) Q E { s with heap := h, toks := tk })
    (hE : PassesOwn (model prog w) A env E) :
    wpAny (model prog w) A (call (.type "enumerate") [.ref D]) (fun xv s₁ => wpAny (model prog w) A (pyIter xv) (fun it s₂ => ForAt prog w A env (.Tuple elts x1 pt) body orelse Q E it s₂) E s₁) E s := by
  have ht : s.heap.IsTuple D items.toArray := hD.at fun o e => F.keep D o e
  obtain ⟨oD, hoD, _⟩ := id hD
  have hltD := ltS (F.keep _ _ hoD)
  refine call_enumerate_tuple ht fun h' hen hit hsz hk => ?_
  have F₀ : Fr h₀ env.locals h' m₀ := frGrew F hk
  have N₀ : News h₀ env.locals h' news := newsGrew N hk
  have hL : @LT.lt Nat instLTNat env.locals s.heap.objs.size := F.ns.lt
  have nI : h₀.get? s.heap.objs.size = none := by
    cases q : h₀.get? s.heap.objs.size with
    | none => rfl
    | some o => exact absurd (Heap.lt_size (F.keep _ _ q)) (Nat.lt_irrefl _)
  have nE : h₀.get? (s.heap.objs.size + 1) = none := by
    cases q : h₀.get? (s.heap.objs.size + 1) with
    | none => rfl
    | some o => have := ltS (F.keep _ _ q); lia
  have hnw : ∀ p ∈ news, @LT.lt Nat instLTNat p.1 s.heap.objs.size := fun p hp => ltS (N p hp).1
  generalize hez : s.heap.objs.size + 1 = e at hen nE
  generalize hiz : s.heap.objs.size = it at hit nI hen
  have hei : @Ne Nat e it := by lia
  have hef : e ∉ [it, D] := by
    intro q
    rcases List.mem_cons.mp q with q | q
    · exact hei q
    · have q' : @Eq Nat e D := List.mem_singleton.mp q
      lia
  have W := WalksT.enumerateD (draws_tuple (prog := prog) (w := w) (A := A.in1) hh it D (show @Ne Nat D it by lia) items.toArray) e hei hef (by simp)
  have hlen : items.toArray.size = items.length := by simp
  rw [hlen] at W
  have hst : (∃ old, IsEnum h' e it ((0 : Nat) : Int) old) ∧ h'.IsTupleIter it D 0 ∧ h'.IsTuple D items.toArray := ⟨⟨_, hen⟩, hit, ht.at fun o e => hk D o e⟩
  refine W.self 0 _ _ _ hst ?_
  unfold ForAt
  refine codeAny_forLoop_any
    (fun k s' => ∃ H tk m' nx i, s' = { s with heap := H, toks := tk } ∧ ((∃ old, IsEnum H e it (i : Nat) old) ∧ H.IsTupleIter it D i ∧ H.IsTuple D items.toArray) ∧ Fr h₀ env.locals H m' ∧ News h₀ env.locals H nx ∧ (∀ p ∈ nx, p.1 ≠ e ∧ p.1 ≠ it) ∧ J i m' nx ∧ i ≤ items.length ∧ k = items.length + 1 - i) ?_ (items.length + 1)
    ⟨h', s.toks, m₀, news, 0, rfl, hst, F₀, N₀, fun p hp => ⟨show @Ne Nat p.1 e by have := hnw p hp; lia, show @Ne Nat p.1 it by have := hnw p hp; lia⟩, hj, Nat.zero_le _, rfl⟩
  rintro k s' ⟨H, tk, m', nx, i, rfl, hst', F', N', hnI', hJ, hi, rfl⟩
  have hLe : @Ne Nat env.locals e := by lia
  have hLi : @Ne Nat env.locals it := by lia
  have next : ∀ h₁ : Heap, (∀ b o, b ∉ [e, it] → H.get? b = some o → h₁.get? b = some o) → Fr h₀ env.locals h₁ m' ∧ News h₀ env.locals h₁ nx := fun h₁ hk₁ =>
    ⟨⟨F'.ns.at' fun o x => hk₁ _ o (fun q => by rcases List.mem_cons.mp q with q | q; exact hLe q; exact hLi (List.mem_singleton.mp q)) x,
      fun b o x => hk₁ b o (fun q => by rcases List.mem_cons.mp q with q | q; (rw [q, nE] at x; cases x); (rw [List.mem_singleton.mp q, nI] at x; cases x)) (F'.keep b o x), F'.above⟩,
      fun p hp => ⟨hk₁ _ _ (fun q => by rcases List.mem_cons.mp q with q | q; exact (hnI' p hp).1 q; exact (hnI' p hp).2 (List.mem_singleton.mp q)) (N' p hp).1, (N' p hp).2⟩⟩
  by_cases hlt : i < items.length
  · refine W.item i _ _ _ hlt hst' fun T vals h₁ tk₁ hPt hTn hT hMid hk₁ => ?_
    obtain ⟨tok, x, hPx, rfl⟩ := hPt
    have hTe : T ∉ [e, it] := W.apart i T h₁ hMid
    refine W.go elts x1 pt i T _ _ _ hMid fun h₂ hst₂ hk₂ => ?_
    have hk₃ : ∀ b o, b ∉ [e, it] → H.get? b = some o → h₂.get? b = some o := fun b o hb q => hk₂ b o hb (hk₁ b o hb q)
    obtain ⟨F₂, N₂⟩ := next h₂ hk₃
    obtain ⟨oT, hoT, hcT, hdT⟩ := hT
    have hoT₂ := hk₂ T oT hTe hoT
    obtain ⟨⟨old₂, hen₂⟩, hit₂, htp₂⟩ := hst₂
    obtain ⟨oi, hoi, _⟩ := id hit₂
    have hxv : items[i]? = some x := by simpa using hPx
    have hsz' : ∀ p ∈ nx, @LT.lt Nat instLTNat p.1 H.objs.size := fun p hp => ltS (N' p hp).1
    have hTn' : @LE.le Nat instLENat H.objs.size T := hTn
    have T1 : T ≠ e := fun q => hTe (by simp [q])
    have T2 : T ≠ it := fun q => hTe (by simp [q])
    have hLH : @LT.lt Nat instLTNat env.locals H.objs.size := F'.ns.lt
    have TL : @Ne Nat T env.locals := by lia
    have T0 : h₀.get? T = none := by
      cases q : h₀.get? T with
      | none => rfl
      | some o => have := ltS (F'.keep _ _ q); lia
    obtain ⟨oe, hoe⟩ : ∃ oe, h₂.get? e = some oe := ⟨_, hen₂⟩
    have N₃ : News h₀ env.locals h₂ ((T, oT) :: (e, oe) :: (it, oi) :: nx) := fun p hp => by
      rcases List.mem_cons.mp hp with rfl | hp
      · exact ⟨hoT₂, TL, T0⟩
      · rcases List.mem_cons.mp hp with rfl | hp
        · exact ⟨hoe, hLe.symm, nE⟩
        · rcases List.mem_cons.mp hp with rfl | hp
          · exact ⟨hoi, hLi.symm, nI⟩
          · exact N₂ p hp
    refine wpAny_passesOwn hE (wpAny_mono (turn e it T oe oi oT i x tok m' nx h₂ tk₁ hei T1 T2 (fun p hp => ⟨(hnI' p hp).1, (hnI' p hp).2, show @Ne Nat p.1 T by have := hsz' p hp; lia⟩) hlt hxv hJ hcT hdT F₂ N₃)
      (fun _ s₂ h₂' => wpAny_passesOwn hE (wpAny_mono h₂' (fun f s₃ h₃ => ?_) fun _ _ e => e)) fun _ _ e => e)
    have fin : FeEnd h₀ env.locals [(e, oe), (it, oi)] (J (i + 1)) { s with heap := h₂, toks := tk₁ } s₃ → ∃ m, m < items.length + 1 - i ∧ ∃ H tk m' nx j, s₃ = { s with heap := H, toks := tk } ∧ ((∃ old, IsEnum H e it (j : Nat) old) ∧ H.IsTupleIter it D j ∧ H.IsTuple D items.toArray) ∧ Fr h₀ env.locals H m' ∧ News h₀ env.locals H nx ∧ (∀ p ∈ nx, p.1 ≠ e ∧ p.1 ≠ it) ∧ J j m' nx ∧ j ≤ items.length ∧ m = items.length + 1 - j := by
      rintro ⟨h₄, tk', m₂, news', nx', ee, F₃, N₄, hn, ho, ha, hm⟩
      have he₄ := (N₄ _ (ho _ (List.Mem.head _))).1
      have hi₄ := (N₄ _ (ho _ (List.Mem.tail _ (List.Mem.head _)))).1
      have hen₄ : IsEnum h₄ e it ((i + 1 : Nat) : Int) old₂ := he₄.trans (hoe.symm.trans hen₂)
      refine ⟨items.length + 1 - (i + 1), by lia, h₄, tk', m₂, nx', i + 1, ee, ⟨⟨old₂, hen₄⟩, hit₂.at fun o q => ?_, hD.at fun o q => F₃.keep D o q⟩, F₃, fun p hp => N₄ p (hn p hp), fun p hp => ⟨ha p hp _ (List.Mem.head _), ha p hp _ (List.Mem.tail _ (List.Mem.head _))⟩, hm, hlt, rfl⟩
      rw [hoi] at q; cases q
      exact hi₄
    cases f with
    | ret v => exact h₃
    | brk => exact h₃
    | next => exact fin h₃
    | cont => exact fin h₃
  · have hin : i = items.length := by lia
    subst hin
    refine W.done _ _ _ hst' fun h₁ tk₁ hk₁ => ?_
    obtain ⟨F₁, N₁⟩ := next h₁ hk₁
    exact wpAny_passesOwn hE (done m' nx h₁ tk₁ hJ F₁ N₁)
end

theorem offF6a : True := by
  w_top off
  trivial
/-- the kinds' bits and letters, as filemode's table has them -/
def bits0 : List (Int × Str) := [(40960, Str.ofString "l"), (49152, Str.ofString "s"), (32768, Str.ofString "-"), (24576, Str.ofString "b"), (16384, Str.ofString "d"), (8192, Str.ofString "c"), (4096, Str.ofString "p")]
def PairIs (h : Heap) (P : Addr) (b : Int) (c : Str) : Prop := ∃ t t', h.IsTuple P #[.int b t, .str c t']
def TabIs (h : Heap) (i : Nat) (D : Addr) : Prop :=
  ∃ Ps : List Addr, h.IsTuple D (Ps.map Value.ref).toArray ∧ Ps.length ≤ 7 ∧ (i = 0 → Ps.length = 7) ∧ ∀ (j : Nat) (P : Addr), Ps[j]? = some P → ∃ b c, PairIs h P b c ∧ c.length = 1 ∧ 0 ≤ b ∧ b < 65536 ∧ (i = 0 → bits0[j]? = some (b, c))
def tabRefs : List Addr := [227, 229, 231, 235, 237, 239, 243, 245, 247, 251]
theorem cases8 {Q : Nat → Prop} {n : Nat} (h : ∀ j, j < n → Q j) (j : Nat) (hj : j < n) : Q j := h j hj
set_option maxRecDepth 100000 in
set_option maxHeartbeats 8000000 in
theorem tabs_ok (w : World) (h : Heap) : About PySem.Challenge.rw_rt0094_01 Mine.pre.heap_1_1 ((Mine.pre.heap_1_1 w.params).In h → h.IsTuple 252 (tabRefs.map Value.ref).toArray ∧ ∀ (i : Nat) (D : Addr), tabRefs[i]? = some D → TabIs h i D) := by
  k_fill; unfold About; intro X
  have p220 : PairIs h 220 40960 (Str.ofString "l") := ⟨_, _, _, X 220 _ (by k_is), rfl, _, rfl⟩
  have p221 : PairIs h 221 49152 (Str.ofString "s") := ⟨_, _, _, X 221 _ (by k_is), rfl, _, rfl⟩
  have p222 : PairIs h 222 32768 (Str.ofString "-") := ⟨_, _, _, X 222 _ (by k_is), rfl, _, rfl⟩
  have p223 : PairIs h 223 24576 (Str.ofString "b") := ⟨_, _, _, X 223 _ (by k_is), rfl, _, rfl⟩
  have p224 : PairIs h 224 16384 (Str.ofString "d") := ⟨_, _, _, X 224 _ (by k_is), rfl, _, rfl⟩
  have p225 : PairIs h 225 8192 (Str.ofString "c") := ⟨_, _, _, X 225 _ (by k_is), rfl, _, rfl⟩
  have p226 : PairIs h 226 4096 (Str.ofString "p") := ⟨_, _, _, X 226 _ (by k_is), rfl, _, rfl⟩
  have p228 : PairIs h 228 256 (Str.ofString "r") := ⟨_, _, _, X 228 _ (by k_is), rfl, _, rfl⟩
  have p230 : PairIs h 230 128 (Str.ofString "w") := ⟨_, _, _, X 230 _ (by k_is), rfl, _, rfl⟩
  have p232 : PairIs h 232 2112 (Str.ofString "s") := ⟨_, _, _, X 232 _ (by k_is), rfl, _, rfl⟩
  have p233 : PairIs h 233 2048 (Str.ofString "S") := ⟨_, _, _, X 233 _ (by k_is), rfl, _, rfl⟩
  have p234 : PairIs h 234 64 (Str.ofString "x") := ⟨_, _, _, X 234 _ (by k_is), rfl, _, rfl⟩
  have p236 : PairIs h 236 32 (Str.ofString "r") := ⟨_, _, _, X 236 _ (by k_is), rfl, _, rfl⟩
  have p238 : PairIs h 238 16 (Str.ofString "w") := ⟨_, _, _, X 238 _ (by k_is), rfl, _, rfl⟩
  have p240 : PairIs h 240 1032 (Str.ofString "s") := ⟨_, _, _, X 240 _ (by k_is), rfl, _, rfl⟩
  have p241 : PairIs h 241 1024 (Str.ofString "S") := ⟨_, _, _, X 241 _ (by k_is), rfl, _, rfl⟩
  have p242 : PairIs h 242 8 (Str.ofString "x") := ⟨_, _, _, X 242 _ (by k_is), rfl, _, rfl⟩
  have p244 : PairIs h 244 4 (Str.ofString "r") := ⟨_, _, _, X 244 _ (by k_is), rfl, _, rfl⟩
  have p246 : PairIs h 246 2 (Str.ofString "w") := ⟨_, _, _, X 246 _ (by k_is), rfl, _, rfl⟩
  have p248 : PairIs h 248 513 (Str.ofString "t") := ⟨_, _, _, X 248 _ (by k_is), rfl, _, rfl⟩
  have p249 : PairIs h 249 512 (Str.ofString "T") := ⟨_, _, _, X 249 _ (by k_is), rfl, _, rfl⟩
  have p250 : PairIs h 250 1 (Str.ofString "x") := ⟨_, _, _, X 250 _ (by k_is), rfl, _, rfl⟩
  have t0 : TabIs h 0 227 := by
    refine ⟨[220, 221, 222, 223, 224, 225, 226], ⟨_, X 227 _ (by k_is), rfl, _, rfl⟩, by decide, by decide, fun j P hj => ?_⟩
    rcases j with _ | j
    · cases hj; exact ⟨_, _, p220, by decide +kernel, by decide, by decide, fun e => by first | rfl | cases e⟩
    rcases j with _ | j
    · cases hj; exact ⟨_, _, p221, by decide +kernel, by decide, by decide, fun e => by first | rfl | cases e⟩
    rcases j with _ | j
    · cases hj; exact ⟨_, _, p222, by decide +kernel, by decide, by decide, fun e => by first | rfl | cases e⟩
    rcases j with _ | j
    · cases hj; exact ⟨_, _, p223, by decide +kernel, by decide, by decide, fun e => by first | rfl | cases e⟩
    rcases j with _ | j
    · cases hj; exact ⟨_, _, p224, by decide +kernel, by decide, by decide, fun e => by first | rfl | cases e⟩
    rcases j with _ | j
    · cases hj; exact ⟨_, _, p225, by decide +kernel, by decide, by decide, fun e => by first | rfl | cases e⟩
    rcases j with _ | j
    · cases hj; exact ⟨_, _, p226, by decide +kernel, by decide, by decide, fun e => by first | rfl | cases e⟩
    cases hj
  have t1 : TabIs h 1 229 := by
    refine ⟨[228], ⟨_, X 229 _ (by k_is), rfl, _, rfl⟩, by decide, by decide, fun j P hj => ?_⟩
    rcases j with _ | j
    · cases hj; exact ⟨_, _, p228, by decide +kernel, by decide, by decide, fun e => by first | rfl | cases e⟩
    cases hj
  have t2 : TabIs h 2 231 := by
    refine ⟨[230], ⟨_, X 231 _ (by k_is), rfl, _, rfl⟩, by decide, by decide, fun j P hj => ?_⟩
    rcases j with _ | j
    · cases hj; exact ⟨_, _, p230, by decide +kernel, by decide, by decide, fun e => by first | rfl | cases e⟩
    cases hj
  have t3 : TabIs h 3 235 := by
    refine ⟨[232, 233, 234], ⟨_, X 235 _ (by k_is), rfl, _, rfl⟩, by decide, by decide, fun j P hj => ?_⟩
    rcases j with _ | j
    · cases hj; exact ⟨_, _, p232, by decide +kernel, by decide, by decide, fun e => by first | rfl | cases e⟩
    rcases j with _ | j
    · cases hj; exact ⟨_, _, p233, by decide +kernel, by decide, by decide, fun e => by first | rfl | cases e⟩
    rcases j with _ | j
    · cases hj; exact ⟨_, _, p234, by decide +kernel, by decide, by decide, fun e => by first | rfl | cases e⟩
    cases hj
  have t4 : TabIs h 4 237 := by
    refine ⟨[236], ⟨_, X 237 _ (by k_is), rfl, _, rfl⟩, by decide, by decide, fun j P hj => ?_⟩
    rcases j with _ | j
    · cases hj; exact ⟨_, _, p236, by decide +kernel, by decide, by decide, fun e => by first | rfl | cases e⟩
    cases hj
  have t5 : TabIs h 5 239 := by
    refine ⟨[238], ⟨_, X 239 _ (by k_is), rfl, _, rfl⟩, by decide, by decide, fun j P hj => ?_⟩
    rcases j with _ | j
    · cases hj; exact ⟨_, _, p238, by decide +kernel, by decide, by decide, fun e => by first | rfl | cases e⟩
    cases hj
  have t6 : TabIs h 6 243 := by
    refine ⟨[240, 241, 242], ⟨_, X 243 _ (by k_is), rfl, _, rfl⟩, by decide, by decide, fun j P hj => ?_⟩
    rcases j with _ | j
    · cases hj; exact ⟨_, _, p240, by decide +kernel, by decide, by decide, fun e => by first | rfl | cases e⟩
    rcases j with _ | j
    · cases hj; exact ⟨_, _, p241, by decide +kernel, by decide, by decide, fun e => by first | rfl | cases e⟩
    rcases j with _ | j
    · cases hj; exact ⟨_, _, p242, by decide +kernel, by decide, by decide, fun e => by first | rfl | cases e⟩
    cases hj
  have t7 : TabIs h 7 245 := by
    refine ⟨[244], ⟨_, X 245 _ (by k_is), rfl, _, rfl⟩, by decide, by decide, fun j P hj => ?_⟩
    rcases j with _ | j
    · cases hj; exact ⟨_, _, p244, by decide +kernel, by decide, by decide, fun e => by first | rfl | cases e⟩
    cases hj
  have t8 : TabIs h 8 247 := by
    refine ⟨[246], ⟨_, X 247 _ (by k_is), rfl, _, rfl⟩, by decide, by decide, fun j P hj => ?_⟩
    rcases j with _ | j
    · cases hj; exact ⟨_, _, p246, by decide +kernel, by decide, by decide, fun e => by first | rfl | cases e⟩
    cases hj
  have t9 : TabIs h 9 251 := by
    refine ⟨[248, 249, 250], ⟨_, X 251 _ (by k_is), rfl, _, rfl⟩, by decide, by decide, fun j P hj => ?_⟩
    rcases j with _ | j
    · cases hj; exact ⟨_, _, p248, by decide +kernel, by decide, by decide, fun e => by first | rfl | cases e⟩
    rcases j with _ | j
    · cases hj; exact ⟨_, _, p249, by decide +kernel, by decide, by decide, fun e => by first | rfl | cases e⟩
    rcases j with _ | j
    · cases hj; exact ⟨_, _, p250, by decide +kernel, by decide, by decide, fun e => by first | rfl | cases e⟩
    cases hj
  refine ⟨⟨_, X 252 _ (by k_is), rfl, _, rfl⟩, fun i D hi => ?_⟩
  rcases i with _ | i
  · cases hi; exact t0
  rcases i with _ | i
  · cases hi; exact t1
  rcases i with _ | i
  · cases hi; exact t2
  rcases i with _ | i
  · cases hi; exact t3
  rcases i with _ | i
  · cases hi; exact t4
  rcases i with _ | i
  · cases hi; exact t5
  rcases i with _ | i
  · cases hi; exact t6
  rcases i with _ | i
  · cases hi; exact t7
  rcases i with _ | i
  · cases hi; exact t8
  rcases i with _ | i
  · cases hi; exact t9
  cases hi

theorem offF6b : True := by
  w_top off
  trivial
def tcS (k : Int) : Str := ((bits0.find? fun p => p.1 == k).map (·.2)).getD (Str.ofString "?")
theorem tcS_at {j : Nat} {b : Int} {c : Str} (h : bits0[j]? = some (b, c)) : c = tcS b := by
  unfold bits0 at h
  rcases j with _ | _ | _ | _ | _ | _ | _ | j
  all_goals (try (cases h; rfl))
  cases h
/-- the letters so far -/
def PermOk (k : Int) (i : Nat) (vs : List Value) : Prop := ∃ ps, StrsAre vs ps ∧ ps.length = i ∧ (∀ p ∈ ps, p.length = 1) ∧ (0 < i → ps.head? = some (tcS k))
theorem PermOk.len {k : Int} {i : Nat} {vs : List Value} (h : PermOk k i vs) : vs.length = i := by obtain ⟨ps, h1, h2, _⟩ := h; rw [← h2]; exact strs_len h1
theorem PermOk.add {k : Int} {i : Nat} {vs : List Value} {c : Str} {t : Tok} (h : PermOk k i vs) (hc : c.length = 1) (h0 : (i : Int) = 0 → c = tcS k) : PermOk k (i + 1) (vs ++ [Value.str c t]) := by
  obtain ⟨ps, h1, h2, h3, h4⟩ := h
  refine ⟨ps ++ [c], strs_add h1, by simp [h2], fun p hp => ?_, fun _ => ?_⟩
  · rcases List.mem_append.mp hp with hp | hp
    · exact h3 p hp
    · rw [List.mem_singleton.mp hp]; exact hc
  · rcases Nat.eq_zero_or_pos i with hi | hi
    · subst hi
      have : ps = [] := List.length_eq_zero_iff.mp h2
      subst this
      simp [h0 rfl]
    · have := h4 hi
      cases ps with
      | nil => simp at this
      | cons a r => simpa using this
abbrev fmStored : List Str := [Str.ofString "index", Str.ofString "table", Str.ofString "bit", Str.ofString "char"]
abbrev fmStored2 : List Str := [Str.ofString "bit", Str.ofString "char"]
def FileJ (m₀ : Str → Option Value) (lp : Addr) (k : Int) (i : Nat) (m : Str → Option Value) (nx : List (Addr × Obj)) : Prop :=
  (∀ z, fmStored.contains z = false → m z = m₀ z) ∧ ∃ vs n, nx = [(lp, listOf vs.toArray n)] ∧ PermOk k i vs
def FileJ2 (m₁ : Str → Option Value) (led : List (Addr × Obj)) (k : Int) (i j : Nat) (m : Str → Option Value) (nx : List (Addr × Obj)) : Prop :=
  (∀ z, fmStored2.contains z = false → m z = m₁ z) ∧ nx = led ∧ ((i : Int) = 0 → ∀ j', j' < j → ∀ b c, bits0[j']? = some (b, c) → k ≠ b)
theorem map_forget {m m₀ : Str → Option Value} {st : List Str} (h : ∀ z, st.contains z = false → m z = m₀ z) : m = fun z => if st.contains z = true then m z else m₀ z := by
  funext z
  cases q : st.contains z with
  | true => simp
  | false => simp only [Bool.false_eq_true, if_false]; exact h z q
section
variable {prog : Program} {w : World} {A : Around} {E : Value → Shared → Prop} {s : Shared} {env : Env} {h₀ : Heap} {elts : List Expr} {x1 : Nat} {pt : Pos} {body orelse : List Stmt} {Q : Flow → Shared → Prop}
theorem file_outer {D lp : Addr} {n₀ : Nat} {m₀ : Str → Option Value} {k : Int} (hk : k = 16384 ∨ k = 32768 ∨ k = 40960) (hh : A.handled = none) (hT : h₀.IsTuple D (tabRefs.map Value.ref).toArray) (hTs : ∀ (i : Nat) (D : Addr), tabRefs[i]? = some D → TabIs h₀ i D)
    (F : Fr h₀ env.locals s.heap m₀) (N : News h₀ env.locals s.heap [(lp, listOf #[] n₀)])
    (turn : ∀ (e it T : Addr) (oe oi : Obj) (dT : Option Addr) (nT : Nat) (sT : Array (Option Value)), (@Ne Nat e it ∧ @Ne Nat T e ∧ @Ne Nat T it ∧ @Ne Nat lp e ∧ @Ne Nat lp it ∧ @Ne Nat lp T) → ∀ (i : Nat) D' tok (u : Str → Option Value) vs n h tk, i < 10 → TabIs h₀ i D' → PermOk k i vs → vs.length < 10 →
      Fr h₀ env.locals h (fun z => if fmStored.contains z = true then u z else m₀ z) → News h₀ env.locals h [(T, ⟨.type "tuple", dT, .seq #[.int (i : Nat) tok, .ref D'] nT, sT⟩), (e, oe), (it, oi), (lp, listOf vs.toArray n)] →
      wpAny (model prog w) A (assign (.Tuple elts x1 pt) env (.ref T)) (fun _ s₂ => wpAny (model prog w) A (execs body env) (FePost h₀ env.locals [(e, oe), (it, oi)] (FileJ m₀ lp k (i + 1)) { s with heap := h, toks := tk } Q) E s₂) E { s with heap := h, toks := tk })
    (done : ∀ (u : Str → Option Value) vs n h tk, PermOk k 10 vs → Fr h₀ env.locals h (fun z => if fmStored.contains z = true then u z else m₀ z) → News h₀ env.locals h [(lp, listOf vs.toArray n)] → wpAny (model prog w) A (execs orelse env) Q E { s with heap := h, toks := tk })
    (hE : PassesOwn (model prog w) A env E) :
    wpAny (model prog w) A (call (.type "enumerate") [.ref D]) (fun xv s₁ => wpAny (model prog w) A (pyIter xv) (fun it s₂ => ForAt prog w A env (.Tuple elts x1 pt) body orelse Q E it s₂) E s₁) E s := by
  refine for_enumK (fun i m nx => FileJ m₀ lp k i m nx) hh hT F N ⟨fun _ _ => rfl, [], n₀, rfl, [], .nil, rfl, by simp, by simp⟩ ?_ ?_ hE
  · rintro e it T oe oi ⟨cT, dT, ddT, sT⟩ i v tok m₁ nx h tk h1 h2 h3 hne hi hv ⟨hm, vs, n, rfl, hp⟩ hcT ⟨nT, hdT⟩ F₁ N₁
    simp only at hcT hdT; subst hcT hdT
    have hn := hne _ (List.Mem.head _)
    have hi' : i < 10 := by simpa [tabRefs] using hi
    rw [map_forget hm] at F₁
    rw [List.getElem?_map] at hv
    obtain ⟨D', hD', rfl⟩ := Option.map_eq_some_iff.mp hv
    exact turn e it T oe oi dT nT sT ⟨h1, h2, h3, hn.1, hn.2.1, hn.2.2⟩ i D' tok m₁ vs n h tk hi' (hTs i D' hD') hp (by rw [hp.len]; exact hi') F₁ N₁
  · rintro m₁ nx h tk ⟨hm, vs, n, rfl, hp⟩ F₁ N₁
    rw [map_forget hm] at F₁
    exact done m₁ vs n h tk (by simpa [tabRefs] using hp) F₁ N₁
theorem file_inner {D : Addr} {i : Nat} {k : Int} {m₁ : Str → Option Value} {news : List (Addr × Obj)} (hh : A.handled = none) (hT : TabIs h₀ i D) (hk : k = 16384 ∨ k = 32768 ∨ k = 40960)
    (F : Fr h₀ env.locals s.heap m₁) (N : News h₀ env.locals s.heap news)
    (turn : ∀ (I : Addr) (ob : Obj), AllNe I news → ∀ (j : Nat) P b c t t' (u : Str → Option Value) h tk, h₀.IsTuple P #[.int b t, .str c t'] → IsTup h₀ P #[.int b t, .str c t'] → c.length = 1 → 0 ≤ b → b < 65536 → ((i : Int) = 0 → bits0[j]? = some (b, c)) → ((i : Int) = 0 → ∀ j', j' < j → ∀ b c, bits0[j']? = some (b, c) → k ≠ b) →
      Fr h₀ env.locals h (fun z => if fmStored2.contains z = true then u z else m₁ z) → News h₀ env.locals h ((I, ob) :: news) →
      wpAny (model prog w) A (assign (.Tuple elts x1 pt) env (.ref P)) (fun _ s₂ => wpAny (model prog w) A (execs body env) (FvPost h₀ env.locals I ob (FileJ2 m₁ news k i (j + 1)) { s with heap := h, toks := tk } Q) E s₂) E { s with heap := h, toks := tk })
    (done : ∀ (u : Str → Option Value) h tk, (i : Int) ≠ 0 → Fr h₀ env.locals h (fun z => if fmStored2.contains z = true then u z else m₁ z) → News h₀ env.locals h news → wpAny (model prog w) A (execs orelse env) Q E { s with heap := h, toks := tk })
    (hE : PassesOwn (model prog w) A env E) :
    wpAny (model prog w) A (pyIter (.ref D)) (fun it s₂ => ForAt prog w A env (.Tuple elts x1 pt) body orelse Q E it s₂) E s := by
  obtain ⟨Ps, hPs, h7, h7', hP⟩ := hT
  refine for_tupK (fun j m nx => FileJ2 m₁ news k i j m nx) hh hPs F N ⟨fun _ _ => rfl, rfl, fun _ j' hj' => absurd hj' (Nat.not_lt_zero _)⟩ ?_ ?_ hE
  · rintro I ob j v m₂ nx h tk hne hj hv ⟨hm, rfl, hpr⟩ F₁ N₁
    rw [map_forget hm] at F₁
    rw [List.getElem?_map] at hv
    obtain ⟨P, hPj, rfl⟩ := Option.map_eq_some_iff.mp hv
    obtain ⟨b, c, ⟨t, t', hPP⟩, hc, hb, hb', h0⟩ := hP j P hPj
    exact turn I ob (allNe_of hne) j P b c t t' m₂ h tk hPP hPP hc hb hb' (fun e => h0 (by lia)) hpr F₁ N₁
  · rintro m₂ nx h tk ⟨hm, rfl, hpr⟩ F₁ N₁
    rw [map_forget hm] at F₁
    refine done m₂ h tk (fun h0 => ?_) F₁ N₁
    have e7 := h7' (by lia)
    rw [List.length_map, e7] at hpr
    have := hpr h0
    rcases hk with rfl | rfl | rfl
    · exact this 4 (by decide) _ _ rfl rfl
    · exact this 2 (by decide) _ _ rfl rfl
    · exact this 0 (by decide) _ _ rfl rfl
end
theorem file_close {h₀ h' : Heap} {L lp e it : Addr} {oe oi : Obj} {m₀ m' : Str → Option Value} {news' : List (Addr × Obj)} {vs : List Value} {c : Str} {t : Tok} {k : Int} {i n : Nat} {s₁ : Shared} {tk : Nat}
    (F : Fr h₀ L h' m') (N : News h₀ L h' news') (h1 : (lp, listOf (vs ++ [Value.str c t]).toArray n) ∈ news') (h2 : (e, oe) ∈ news') (h3 : (it, oi) ∈ news') (a1 : @Ne Nat lp e) (a2 : @Ne Nat lp it)
    (hm : ∀ z, fmStored.contains z = false → m' z = m₀ z) (hp : PermOk k i vs) (hc : c.length = 1) (h0 : (i : Int) = 0 → c = tcS k) : FeEnd h₀ L [(e, oe), (it, oi)] (FileJ m₀ lp k (i + 1)) s₁ { s₁ with heap := h', toks := tk } :=
  fe_end [(lp, listOf (vs ++ [Value.str c t]).toArray n)] F N (fun p hp => by rw [List.mem_singleton.mp hp]; exact h1)
    (fun p hp => by rcases List.mem_cons.mp hp with rfl | hp; exact h2; rw [List.mem_singleton.mp hp]; exact h3)
    (fun p hp q hq => by rw [List.mem_singleton.mp hp]; rcases List.mem_cons.mp hq with rfl | hq; exact a1; rw [List.mem_singleton.mp hq]; exact a2) ⟨hm, _, n, rfl, hp.add hc h0⟩
theorem file_close2 {h₀ h' : Heap} {L I : Addr} {ob : Obj} {m₁ m' : Str → Option Value} {news : List (Addr × Obj)} {k b : Int} {c : Str} {i j : Nat} {s₁ : Shared} {tk : Nat}
    (F : Fr h₀ L h' m') (N : News h₀ L h' ((I, ob) :: news)) (ne : AllNe I news) (hm : ∀ z, fmStored2.contains z = false → m' z = m₁ z)
    (h0 : (i : Int) = 0 → bits0[j]? = some (b, c)) (hpr : (i : Int) = 0 → ∀ j', j' < j → ∀ b c, bits0[j']? = some (b, c) → k ≠ b) (hno : (i : Int) = 0 → k ≠ b) : FvEnd h₀ L I ob (FileJ2 m₁ news k i (j + 1)) s₁ { s₁ with heap := h', toks := tk } :=
  fv_end news F N (fun p hp => List.mem_cons_of_mem _ hp) (List.Mem.head _) (allNe_out ne) ⟨hm, rfl, fun hi j' hj' b' c' hb' => by
    rcases Nat.lt_succ_iff_lt_or_eq.mp hj' with h | h
    · exact hpr hi j' h b' c' hb'
    · subst h
      have := h0 hi
      rw [this] at hb'; cases hb'
      exact hno hi⟩
theorem allNe4 {d a b c e : Addr} {o1 o2 o3 o4 : Obj} (h : AllNe d [(a, o1), (b, o2), (c, o3), (e, o4)]) : @Ne Nat a d ∧ @Ne Nat b d ∧ @Ne Nat c d ∧ @Ne Nat e d := ⟨h.1, h.2.1, h.2.2.1, h.2.2.2.1⟩
theorem keeps_upd {m' m : Str → Option Value} {st : List Str} {x : Str} {v : Option Value} (hx : st.contains x = true) (h : ∀ z, st.contains z = false → m' z = m z) : ∀ z, st.contains z = false → (fun y => if y = x then v else m' y) z = m z := by
  intro z hz
  have : z ≠ x := by rintro rfl; rw [hx] at hz; cases hz
  simp only [if_neg this]; exact h z hz
theorem keeps_forget {u m' m : Str → Option Value} {st st' : List Str} (hx : ∀ z ∈ st', st.contains z = true) (h : ∀ z, st.contains z = false → m' z = m z) : ∀ z, st.contains z = false → (fun y => if st'.contains y = true then u y else m' y) z = m z := by
  intro z hz
  have : ¬ st'.contains z = true := by
    intro q
    have := hx z (by simpa using q)
    rw [this] at hz; cases hz
  simp only [if_neg this]; exact h z hz
theorem keeps_rfl {m : Str → Option Value} {st : List Str} : ∀ z, st.contains z = false → m z = m z := fun _ _ => rfl
theorem linesF6b_1 : True := by
  k_with "mine:keeps" => (repeat (first | exact keeps_rfl | refine keeps_upd (by decide +kernel) ?_ | refine keeps_forget (by decide +kernel) ?_))
  trivial
theorem join0 : ∀ ps : List Str, (Str.join (Str.ofString "") ps).cps.toList = ps.flatMap (·.cps.toList)
  | [] => rfl
  | [a] => by simp [Str.join]
  | a :: b :: r => by
    rw [Str.join, Str.cps_append, Str.cps_append, Array.toList_append, Array.toList_append, join0 (b :: r)]
    have : (Str.ofString "").cps.toList = [] := by decide +kernel
    simp [this]
    exact List.cons_ne_nil _ _
theorem flat_ones : ∀ ps : List Str, (∀ p ∈ ps, p.length = 1) → (ps.flatMap (·.cps.toList)).length = ps.length ∧ (ps.map (·.length)).sum = ps.length
  | [], _ => ⟨rfl, rfl⟩
  | p :: r, h => by
    have ih := flat_ones r fun q hq => h q (.tail _ hq)
    have := h p (.head _)
    rw [Str.length] at this
    simp [Str.length, ih.1] at ih ⊢; simp only [this, ih]; lia
/-- what filemode writes: the kind's letter and nine signs -/
def FmS (k : Int) (y : Str) : Prop := ∃ r : List Nat, y.cps.toList = (tcS k).cps.toList ++ r ∧ r.length = 9
theorem perm_fm {k : Int} {ps : List Str} (h2 : ps.length = 10) (h3 : ∀ p ∈ ps, p.length = 1) (h4 : ps.head? = some (tcS k)) : FmS k (Txt.join (Str.ofString "") ps) := by
  have e : Txt.join (Str.ofString "") ps = Str.join (Str.ofString "") ps := StrLaws.glued_eq_join _ _
  rw [e]
  cases ps with
  | nil => cases h2
  | cons p r =>
    cases h4
    refine ⟨r.flatMap (·.cps.toList), by rw [join0, List.flatMap_cons], ?_⟩
    rw [(flat_ones r fun q hq => h3 q (.tail _ hq)).1]; simpa using h2
section
variable {prog : Program} {w : World} {A : Around} {E : Value → Shared → Prop} {s : Shared} {h₀ : Heap} {L D : Addr} {news : List (Addr × Obj)} {n : Nat} {vs : List Value} {k : Int} {t : Tok}
theorem fm_join {Q : Value → Shared → Prop} (N : News h₀ L s.heap news) (hm : (D, listOf vs.toArray n) ∈ news) (hp : PermOk k 10 vs) (h : ∀ y t' k', FmS k y → Q (.str y t') { s with toks := k' }) :
    wpAny (model prog w) A (call (.builtin "str.join") [.str (Str.ofString "") t, .ref D]) Q E s := by
  obtain ⟨ps, h1, h2, h3, h4⟩ := hp
  refine join_listW (News.isList N hm) h1 (by decide +kernel) ?_ fun t' k' => h _ t' k' (perm_fm h2 h3 (h4 (by decide)))
  rw [(flat_ones ps h3).2]; lia
end
theorem linesF6b_2 : True := by
  k_with "call builtin:str.join" => ((with_reducible show wpAny _ _ (call (Value.builtin _) [Value.str _ _, Value.ref _]) _ _ _); k_dflt (refine' fm_join (by k_asm) (by k_mem) (by with_reducible assumption) ?_; k_whole; intro yu37' tu37' ku37' fmu37'))
  k_with "call builtin:list.append" => ((with_reducible show wpAny _ _ (call (Value.builtin _) [Value.ref _, Value.str _ _]) _ _ _); k_dflt (refine' append_snoc (by k_asm) (by k_asm) (by k_upd) (by walk_at "mine:short") ?_; k_whole; intro hu38' Fu38' Nu38'; (try k_sweep)))
  k_with "FvEnd" => ((with_reducible show FvEnd _ _ _ _ (FileJ2 _ _ _ _ _) _ _); (rename Fr _ _ _ _ => eF); (rename News _ _ _ _ => eN); (rename AllNe _ _ => eA); k_dflt (refine' file_close2 eF eN eA (by walk_at "mine:keeps") (by assumption) (by assumption) (by first | (intro _; assumption) | (intro e; exact absurd e (by assumption)))))
  k_with "FeEnd" => ((with_reducible show FeEnd _ _ _ (FileJ _ _ _ _) _ _); (rename Fr _ _ _ _ => eF); (rename News _ _ _ _ => eN); k_dflt (refine' file_close eF eN (by k_mem) (by k_mem) (by k_mem) (by walk_at "mine:nes") (by walk_at "mine:nes") (by walk_at "mine:keeps") (by assumption) (by first | assumption | decide +kernel) (by first | (intro e; exact absurd e (by assumption)) | (intro e; have q1 := (by assumption : (_ : Int) = 0 → bits0[_]? = some _) e; have q2 := tcS_at q1; simpa [*] using q2))))
  k_with "FePost" => (dsimp only [FePost])
  k_with "exec For Tuple Call cons nil" => ((with_reducible show wpAny _ _ (exec (Stmt.For (Expr.Tuple [Expr.Name (PySem.Str.ofString "index") _, _] _ _) _ _ _ _) _) _ _ _); refine exec_ForAt ?_)
  k_with "exec For Tuple Name cons cons" => ((with_reducible show wpAny _ _ (exec (Stmt.For (Expr.Tuple [Expr.Name (PySem.Str.ofString "bit") _, _] _ _) _ _ _ _) _) _ _ _); refine exec_ForAt ?_)
  k_with "call type:enumerate" => ((with_reducible show wpAny _ _ (call _ _) (fun xv s₁ => wpAny _ _ (pyIter xv) (fun it s₂ => ForAt _ _ _ _ _ _ _ _ _ it s₂) _ s₁) _ _); (rename Fr _ _ _ _ => lFu44'); (rename News _ _ _ _ => lNu44'); (rename (_ = (16384 : Int) ∨ _) => hku44'); k_dflt (refine' file_outer hku44' (by exact rfl) (And.left (by assumption)) (And.right (by assumption)) lFu44' lNu44' _ _ (by passes_own)); (all_goals (intros; clear lFu44' lNu44'; (try k_fold))))
  k_with "pyIter ref" => ((with_reducible show wpAny _ _ (pyIter (Value.ref _)) (fun it s₂ => ForAt _ _ _ _ (Expr.Tuple [Expr.Name (PySem.Str.ofString "bit") _, _] _ _) _ _ _ _ it s₂) _ _); (rename Fr _ _ _ _ => lFu45'); (rename News _ _ _ _ => lNu45'); (rename TabIs _ _ _ => tTu45'); (rename (_ = (16384 : Int) ∨ _) => hku45'); k_dflt (refine' file_inner (by exact rfl) tTu45' hku45' lFu45' lNu45' _ _ (by passes_own)); (all_goals (intros; clear lFu45' lNu45'; (try (have aNu45' := allNe4 (by assumption))); (try k_fold))))
  trivial
set_option maxRecDepth 100000 in
set_option maxHeartbeats 8000000 in
theorem sp_filemode (w : World) (mean : ExcName → Option Value) (mg mb : Str → Option Value) (x : Int) (t : Tok) :
    About PySem.Challenge.rw_rt0094_01 Mine.pre.heap_1_1 (Sp w mean mg mb 259 [Value.int x t] 6 (fun _ => PySem.Builtin.bitAnd x 61440 = 16384 ∨ PySem.Builtin.bitAnd x 61440 = 32768 ∨ PySem.Builtin.bitAnd x 61440 = 40960) (fun _ _ v => ∃ y t, v = Value.str y t ∧ FmS (PySem.Builtin.bitAnd x 61440) y)) := by
  k_fill; unfold About Sp; intro dp un gd cn cs a ccd cl outer A₀ base h₀ L m s Q E B F X T hk hd hu hp hret
  have hTs := tabs_ok w s.heap (X.keeps F.keep)
  walk_at "mine:go"
  all_goals (refine sp_ret (s := s) (Q := Q) hret (by k_asm) ?_; exact ⟨_, _, rfl, by assumption⟩)

theorem linesF6b_3 : True := by
  k_with "call ref" => ((with_reducible show wpAny _ _ (call (Value.ref 259) [Value.int _ _]) _ _ _); k_dflt (refine' Sp.use (sp_filemode _ _ _ _ _ _) (by k_asm) (by k_asm) (by k_asm) (by k_asm) (by k_asm) (by first | exact rfl | assumption) (by ktr_room) (by ktr_units) (by walk_at "mine:pre") ?_); intro v9u46 h9u46 tk9u46 g9u46 F9u46 N9u46 p9u46; obtain ⟨y9u46, t9u46, p9u46, fm9u46⟩ := p9u46; subst p9u46; (try k_sweep))
  trivial
theorem offForRange : True := by
  w_top off
  trivial
section
variable {prog : Program} {w : World} {A : Around} {E : Value → Shared → Prop} {s : Shared} {env : Env} {h₀ : Heap} {target : Expr} {body orelse : List Stmt} {Q : Flow → Shared → Prop}
/-- a for over range(n) -/
theorem for_rangeK {n : Nat} {t : Tok} {m₀ : Str → Option Value} {news : List (Addr × Obj)} (J : Nat → (Str → Option Value) → List (Addr × Obj) → Prop)
    (hh : A.handled = none) (hn : n < 100000) (F : Fr h₀ env.locals s.heap m₀) (N : News h₀ env.locals s.heap news) (hj : J 0 m₀ news)
    (turn : ∀ (I : Addr) (ob : Obj) i tok m₁ nx h tk, (∀ p ∈ nx, p.1 ≠ I) → i < n → J i m₁ nx → Fr h₀ env.locals h m₁ → News h₀ env.locals h ((I, ob) :: nx) →
      wpAny (model prog w) A (assign target env (.int (i : Nat) tok)) (fun _ s₂ => wpAny (model prog w) A (execs body env) (FvPost h₀ env.locals I ob (J (i + 1)) { s with heap := h, toks := tk } Q) E s₂) E { s with heap := h, toks := tk })
    (done : ∀ m₁ nx h tk, J n m₁ nx → Fr h₀ env.locals h m₁ → News h₀ env.locals h nx → wpAny (model prog w) A (execs orelse env) Q E { s with heap := h, toks := tk })
    (hE : PassesOwn (model prog w) A env E) :
    wpAny (model prog w) A (call (.type "range") [.int (n : Int) t]) (fun xv s₁ => wpAny (model prog w) A (pyIter xv) (fun it s₂ => ForAt prog w A env target body orelse Q E it s₂) E s₁) E s := by
  refine call_range_1 ?_
  have F₁ := F.push { cls := .type "range", data := .fields #[.int 0 s.toks, .int n t, .int 1 (s.toks + 1)] }
  have N₁ : News h₀ env.locals (s.heap.push { cls := .type "range", data := .fields #[.int 0 s.toks, .int n t, .int 1 (s.toks + 1)] }) news := fun p hp => ⟨Heap.get?_push_of_some _ (N p hp).1, (N p hp).2⟩
  refine wpAny_pyIter_range (IsRange.new ..) (small_one (by lia) (by lia) (by lia) (by lia)) ?_
  dsimp only
  have W := Walks.range (prog := prog) (w := w) hh (s.heap.push { cls := .type "range", data := .fields #[.int 0 s.toks, .int n t, .int 1 (s.toks + 1)] }).objs.size 0 1 n
  refine for_gen (s := ⟨_, _, _, _, _⟩) J W (next_is_new F₁) (Nat.ne_of_gt F₁.ns.lt) ?_ (T := "range_iterator") (fun i h st => ⟨_, st, rfl⟩) (by decide) ?_ (F₁.push _) (fun p hp => ⟨Heap.get?_push_of_some _ (N₁ p hp).1, (N₁ p hp).2⟩)
    (fun p hp q => absurd (Heap.lt_size (N₁ p hp).1) (by rw [q]; exact Nat.lt_irrefl _)) hj hE (fun ob i v m₁ nx h tk hi hP hne hJ F N => ?_) done
  · intro b hb hbI
    exact absurd (List.mem_singleton.mp hb) hbI
  · show IsRangeIter _ _ _ _ _
    rw [rangeSize_one]
    have : (if (0 : Int) < n then (n : Int) - 0 else 0) = n := by split <;> lia
    rw [this]
    have e0 : (0 : Int) + ((0 : Nat) : Int) * 1 = 0 := rfl
    have e1 : (n : Int) - ((0 : Nat) : Int) = n := by lia
    rw [e0, e1]
    exact Heap.get?_push_size _ rfl
  · obtain ⟨tok, rfl⟩ := hP
    have e : (0 : Int) + (i : Nat) * 1 = (i : Nat) := by lia
    rw [e]
    exact turn _ ob i tok m₁ nx h tk hne hi hJ F N
end

theorem offF7 : True := by
  w_top off
  trivial
def letterAt (k : Nat) : Str := ⟨#[97 + k]⟩
/-- the path of the entry whose mask is m -/
def pathB (m : Nat) : Str := ((List.range 9).filter fun i => m.testBit i).foldl (fun a i => a ++ Str.ofString "/" ++ letterAt i) (Str.ofString "")
def showP (m : Nat) : Str := if m = 0 then Str.ofString "/" else pathB m
def Kind3 (x : Int) : Prop := PySem.Builtin.bitAnd x 61440 = 16384 ∨ PySem.Builtin.bitAnd x 61440 = 32768 ∨ PySem.Builtin.bitAnd x 61440 = 40960
abbrev Ent := Str × Int × Int
def TOk (es : List Ent) : Prop := ∃ g : Nat → Nat, g 0 = 0 ∧ ∀ j e, es[j]? = some e → e.1 = showP (g j) ∧ g j < 2 ^ j ∧ (0 < j → Kind3 e.2.1 ∧ ∃ a : Nat, e.2.2 = (a : Int) ∧ a < j ∧ g j = g a + 2 ^ (j - 1))
def EntIs (p : Addr × Obj) (e : Ent) : Prop := ∃ t t' t'' n, p.2 = listOf #[.str e.1 t, .int e.2.1 t', .int e.2.2 t''] n
inductive EntsAre : List (Addr × Obj) → List Ent → Prop
  | nil : EntsAre [] []
  | cons {p e es ents} : EntIs p e → EntsAre es ents → EntsAre (p :: es) (e :: ents)
def ItIs (I : Addr) (_ : Obj) (D F₀ : Addr) : Prop := @Ne Nat D I ∧ @Ne Nat F₀ I
def EsNe (I : Addr) (es : List (Addr × Obj)) : Prop := ∀ p ∈ es, p.1 ≠ I
def FoldOk (i : Nat) (fs : List Value) : Prop := ∃ ys : List Int, IntsAre fs ys ∧ 0 < ys.length ∧ ys.length ≤ i + 1 ∧ ∀ y ∈ ys, 0 ≤ y ∧ y ≤ i
def TreeV (i : Nat) (refs : List Value) (es : List (Addr × Obj)) : Prop := ∃ ents, TOk ents ∧ ents.length = i + 1 ∧ refs = es.map (fun p => Value.ref p.1) ∧ EntsAre es ents
theorem ints_len : ∀ {vs : List Value} {ys : List Int}, IntsAre vs ys → vs.length = ys.length
  | _, _, .nil => rfl
  | _, _, .cons _ _ h => by simp [ints_len h]
theorem ints_get : ∀ {vs : List Value} {ys : List Int} {i : Nat}, IntsAre vs ys → i < vs.length → ∃ y t, vs[i]? = some (.int y t) ∧ ys[i]? = some y
  | _, _, 0, .cons y t _, _ => ⟨y, t, rfl, rfl⟩
  | _, _, i + 1, .cons y t h, e => by
    obtain ⟨y', t', h1, h2⟩ := ints_get (i := i) h (by simpa using e)
    exact ⟨y', t', by simpa using h1, by simpa using h2⟩
theorem ints_add {vs : List Value} {a : List Int} {b : Int} {t : Tok} : IntsAre vs a → IntsAre (vs ++ [Value.int b t]) (a ++ [b])
  | .nil => .cons b t .nil
  | .cons y u h => .cons y u (ints_add h)
theorem ents_len : ∀ {es : List (Addr × Obj)} {ents : List Ent}, EntsAre es ents → es.length = ents.length
  | _, _, .nil => rfl
  | _, _, .cons _ h => by simp [ents_len h]
theorem ents_get : ∀ {es : List (Addr × Obj)} {ents : List Ent} {i : Nat} {e : Ent}, EntsAre es ents → ents[i]? = some e → ∃ p, es[i]? = some p ∧ EntIs p e
  | _, _, 0, _, .cons (p := p) h _, e => by cases e; exact ⟨p, rfl, h⟩
  | _, _, i + 1, _, .cons _ h, e => by
    obtain ⟨p, h1, h2⟩ := ents_get (i := i) h (by simpa using e)
    exact ⟨p, by simpa using h1, h2⟩
theorem ents_add : ∀ {es : List (Addr × Obj)} {ents : List Ent} {p : Addr × Obj} {e : Ent}, EntsAre es ents → EntIs p e → EntsAre (es ++ [p]) (ents ++ [e])
  | _, _, _, _, .nil, h => .cons h .nil
  | _, _, _, _, .cons h r, q => .cons h (ents_add r q)
theorem entIs_inj {p : Addr × Obj} {a b : Ent} (x : EntIs p a) (y : EntIs p b) : a = b := by
  obtain ⟨t1, t2, t3, n, e⟩ := x
  obtain ⟨u1, u2, u3, n', e'⟩ := y
  rw [e] at e'
  unfold W.listOf at e'
  obtain ⟨a1, a2, a3⟩ := a
  obtain ⟨b1, b2, b3⟩ := b
  simp at e'
  obtain ⟨⟨⟨h1, _⟩, ⟨h2, _⟩, h3, _⟩, _⟩ := e'
  subst h1 h2 h3; rfl
theorem ents_inj : ∀ {es : List (Addr × Obj)} {a b : List Ent}, EntsAre es a → EntsAre es b → a = b
  | _, _, _, .nil, .nil => rfl
  | _, _, _, .cons h r, .cons h' r' => by rw [entIs_inj h h', ents_inj r r']
/-- the path of the k-th entry -/
def PathAt (es : List (Addr × Obj)) (k : Int) (p : Str) : Prop := ∃ ents e, EntsAre es ents ∧ ents[k.toNat]? = some e ∧ e.1 = p
def letr (i : Nat) : Str := Txt.item (Str.ofString "abcdefghij") (i : Int)
theorem path_add : ∀ i, i < 9 → ∀ m, m < 2 ^ i → (m ≠ 0 → showP m ++ Str.ofString "/" ++ letr i = showP (m + 2 ^ i)) ∧ (m = 0 → Str.ofString "/" ++ letr i = showP (m + 2 ^ i)) := by decide +kernel
theorem path_len : ∀ m, m < 512 → (showP m).length ≤ 100 := by decide +kernel
theorem bits_ok0 : ∀ a : Nat, a < 64 → ∀ b : Nat, b < 64 → PySem.Builtin.bitAnd (16384 + ((64 * a + b : Nat) : Int)) 61440 = 16384 ∧ PySem.Builtin.bitAnd (32768 + ((64 * a + b : Nat) : Int)) 61440 = 32768 ∧ PySem.Builtin.bitAnd (40960 + ((64 * a + b : Nat) : Int)) 61440 = 40960 := by decide +kernel
theorem bits_ok (t : Nat) (h : t < 4096) : PySem.Builtin.bitAnd (16384 + (t : Int)) 61440 = 16384 ∧ PySem.Builtin.bitAnd (32768 + (t : Int)) 61440 = 32768 ∧ PySem.Builtin.bitAnd (40960 + (t : Int)) 61440 = 40960 := by
  have := bits_ok0 (t / 64) (by lia) (t % 64) (by lia)
  rwa [Nat.div_add_mod] at this
theorem kind3_mode (a b : Int) : Kind3 ([16384, 32768, 40960].getD (a.fmod 3).toNat 0 + b.fmod 4096) := by
  have h1 := Int.fmod_nonneg_of_pos a (b := 3) (by decide)
  have h2 := Int.fmod_lt_of_pos a (b := 3) (by decide)
  have h3 := Int.fmod_nonneg_of_pos b (b := 4096) (by decide)
  have h4 := Int.fmod_lt_of_pos b (b := 4096) (by decide)
  have q := bits_ok (b.fmod 4096).toNat (by lia)
  have e : ((b.fmod 4096).toNat : Int) = b.fmod 4096 := by lia
  rw [e] at q
  have : (a.fmod 3).toNat = 0 ∨ (a.fmod 3).toNat = 1 ∨ (a.fmod 3).toNat = 2 := by lia
  rcases this with h | h | h <;> rw [h]
  · exact .inl q.1
  · exact .inr (.inl q.2.1)
  · exact .inr (.inr q.2.2)
theorem tok_add {ents : List Ent} {i : Nat} {p : Str} {mo ab : Int} (h : TOk ents) (hl : ents.length = i + 1) (hi : i < 9) (hk : Kind3 mo) (h0 : 0 ≤ ab) (h1 : ab ≤ i)
    (hp : (0 < ab ∧ ∃ e, ents[ab.toNat]? = some e ∧ p = e.1 ++ Str.ofString "/" ++ letr i) ∨ (ab = 0 ∧ p = Str.ofString "/" ++ letr i)) : TOk (ents ++ [(p, mo, ab)]) := by
  obtain ⟨g, g0, hg⟩ := h
  have hab : ab.toNat < ents.length := by lia
  have hab' : ab.toNat < i + 1 := by lia
  have hab2 : ab.toNat ≠ i + 1 := by lia
  have hab3 : ab = (ab.toNat : Int) := by lia
  obtain ⟨e, he⟩ : ∃ e, ents[ab.toNat]? = some e := ⟨_, List.getElem?_eq_getElem hab⟩
  obtain ⟨q1, q2, q3⟩ := hg _ _ he
  have hlt : g ab.toNat < 2 ^ i := Nat.lt_of_lt_of_le q2 (Nat.pow_le_pow_right (by decide) (by lia))
  have hpa := path_add i hi _ hlt
  refine ⟨fun j => if j = i + 1 then g ab.toNat + 2 ^ i else g j, ?_, fun j e' he' => ?_⟩
  · simp [g0]
  · rcases Nat.lt_or_ge j (i + 1) with hj | hj
    · rw [List.getElem?_append_left (by lia)] at he'
      have := hg j e' he'
      have n1 : j ≠ i + 1 := by lia
      simp only [if_neg n1]
      refine ⟨this.1, this.2.1, fun hp => ?_⟩
      obtain ⟨k3, a, e2, ha, hga⟩ := this.2.2 hp
      have n2 : a ≠ i + 1 := by lia
      exact ⟨k3, a, e2, ha, by rw [if_neg n2]; exact hga⟩
    · have hj' : j = i + 1 := by
        rcases Nat.lt_or_ge j (i + 2) with h | h
        · lia
        · rw [List.getElem?_eq_none (by simp; lia)] at he'; cases he'
      subst hj'
      rw [List.getElem?_append_right (by lia), hl, Nat.sub_self] at he'
      cases he'
      simp only [if_true]
      refine ⟨?_, ?_, fun _ => ⟨hk, ab.toNat, hab3, hab', ?_⟩⟩
      · rcases hp with ⟨hpos, e2, he2, rfl⟩ | ⟨rfl, rfl⟩
        · rw [he] at he2; cases he2
          obtain ⟨_, a, _, _, hga⟩ := q3 (by lia)
          have : g ab.toNat ≠ 0 := by
            have : 0 < 2 ^ (ab.toNat - 1) := Nat.pow_pos (by decide)
            lia
          show e.1 ++ _ ++ _ = _
          rw [q1]; exact hpa.1 this
        · exact hpa.2 (by simpa using g0)
      · rw [Nat.pow_succ]; lia
      · rw [if_neg hab2, Nat.add_sub_cancel]
theorem tok_mask {ents : List Ent} {k : Nat} {e : Ent} (h : TOk ents) (hl : ents.length ≤ 10) (he : ents[k]? = some e) : e.1.length ≤ 100 := by
  obtain ⟨g, g0, hg⟩ := h
  obtain ⟨q1, q2, _⟩ := hg _ _ he
  have : k < ents.length := (List.getElem?_eq_some_iff.mp he).1
  rw [q1]
  exact path_len _ (Nat.lt_of_lt_of_le q2 (Nat.pow_le_pow_right (n := 2) (j := 9) (by decide) (by lia)))
theorem FoldOk.len {i : Nat} {fs : List Value} (h : FoldOk i fs) : 0 < fs.length ∧ fs.length ≤ i + 1 := by
  obtain ⟨ys, h1, h2, h3, _⟩ := h
  rw [ints_len h1]; exact ⟨h2, h3⟩
theorem TreeV.len {i : Nat} {refs : List Value} {es : List (Addr × Obj)} (h : TreeV i refs es) : refs.length = i + 1 := by
  obtain ⟨ents, _, h2, rfl, h4⟩ := h
  rw [List.length_map, ents_len h4, h2]
section
variable {prog : Program} {w : World} {A : Around} {E : Value → Shared → Prop} {s : Shared} {h₀ : Heap} {L D : Addr} {m : Str → Option Value} {news : List (Addr × Obj)} {n : Nat} {i : Nat} {value slice : Expr} {u : Tok}
theorem fold_get {fs : List Value} {k : Int} {Q : Value → Shared → Prop} (N : News h₀ L s.heap news) (hm : (D, listOf fs.toArray n) ∈ news) (hf : FoldOk i fs) (h0 : 0 ≤ k) (h1 : k < fs.length) (hi : i < 100)
    (h : ∀ y t, 0 ≤ y → y ≤ (i : Int) → Q (.int y t) s) (hs : subscripted slice false (.ref D) (.int k u) = operate [.ref D, .int k u] (getItem (.ref D) (.int k u)) := by with_unfolding_all rfl) :
    wpAny (model prog w) A (subscriptTail value slice (.ref D) (.int k u)) Q E s := by
  have hl := hf.len
  obtain ⟨ys, h2, _, _, h5⟩ := hf
  obtain ⟨y, t, e1, e2⟩ := ints_get (i := k.toNat) h2 (by lia)
  have hL : s.heap.IsList D fs.toArray := News.isList N hm
  have := h5 y (List.mem_of_getElem? e2)
  exact tail_any hL.typeIs slot_list_getitem.lookup (wpAny_getItem_list hL h0 (by lia) (by simpa using e1) (h y t this.1 this.2)) hs
theorem ent_get {refs : List Value} {es : List (Addr × Obj)} {k : Int} {Q : Value → Shared → Prop} (N : News h₀ L s.heap news) (hm : (D, listOf refs.toArray n) ∈ news) (hes : ∀ p ∈ es, p ∈ news) (hf : TreeV i refs es) (h0 : 0 ≤ k) (h1 : k ≤ i) (hi : i < 10)
    (h : ∀ a p t r, s.heap.IsList a (.str p t :: r).toArray → PathAt es k p → p.length ≤ 100 → Q (.ref a) s) (hs : subscripted slice false (.ref D) (.int k u) = operate [.ref D, .int k u] (getItem (.ref D) (.int k u)) := by with_unfolding_all rfl) :
    wpAny (model prog w) A (subscriptTail value slice (.ref D) (.int k u)) Q E s := by
  obtain ⟨ents, ht, hl, rfl, he⟩ := hf
  have hk : k.toNat < ents.length := by lia
  obtain ⟨e, hek⟩ : ∃ e, ents[k.toNat]? = some e := ⟨_, List.getElem?_eq_getElem hk⟩
  obtain ⟨p, hp, t, t', t'', n', ho⟩ := ents_get he hek
  have hL : s.heap.IsList D (es.map fun p => Value.ref p.1).toArray := News.isList N hm
  have hP : s.heap.get? p.1 = some p.2 := (N _ (hes _ (List.mem_of_getElem? hp))).1
  rw [ho] at hP
  exact tail_any hL.typeIs slot_list_getitem.lookup (wpAny_getItem_list hL h0 (by lia) (x := .ref p.1) (by simp [hp]) (h p.1 e.1 t [.int e.2.1 t', .int e.2.2 t''] ⟨_, hP, rfl, _, rfl⟩ ⟨ents, e, he, hek, rfl⟩ (tok_mask ht (by lia) hek))) hs
theorem heads {p q : Addr × Obj} {h : Heap} (hp : h.get? p.1 = some p.2) (hq : h.get? q.1 = some q.2) (hn : p.2 ≠ q.2) : p.1 ≠ q.1 := fun e => hn (by rw [e, hq] at hp; exact (Option.some.inj hp).symm)
theorem tree_append {F₀ e I : Addr} {ob : Obj} {n' n'' : Nat} {t t' t'' : Tok} {p : Str} {mo ab : Int} {refs fs : List Value} {es : List (Addr × Obj)} {Q : Value → Shared → Prop}
    (F : Fr h₀ L s.heap m) (N : News h₀ L s.heap news) (hm : (D, listOf refs.toArray n) ∈ news) (hn : (e, listOf #[.str p t, .int mo t', .int ab t''] n'') ∈ news) (hf : (F₀, listOf fs.toArray n') ∈ news) (hI : (I, ob) ∈ news) (hes : ∀ p ∈ es, p ∈ news)
    (tv : TreeV i refs es) (fo : FoldOk i fs) (it : ItIs I ob D F₀) (en : EsNe I es) (heI : @Ne Nat e I) (hi : i < 9) (h0 : 0 ≤ ab) (h1 : ab ≤ i) (hk : Kind3 mo) (hp : (0 < ab ∧ ∃ q, PathAt es ab q ∧ p = q ++ Str.ofString "/" ++ letr i) ∨ (ab = 0 ∧ p = Str.ofString "/" ++ letr i))
    (h : ∀ h' (es' : List (Addr × Obj)) refs', Fr h₀ L h' m → EsNe I es' → News h₀ L h' ((D, listOf refs'.toArray (n + 1)) :: (F₀, listOf fs.toArray n') :: (I, ob) :: es') → TreeV (i + 1) refs' es' → FoldOk (i + 1) fs → Q .none { s with heap := h' }) :
    wpAny (model prog w) A (call (.builtin "list.append") [.ref D, .ref e]) Q E s := by
  obtain ⟨ents, ht, hl, rfl, he⟩ := tv
  have gD := (N _ hm).1
  have ge := (N _ hn).1
  have gF := (N _ hf).1
  have e0 : ∃ a r, es.map (fun p => Value.ref p.1) = Value.ref a :: r := by
    cases es with
    | nil => have := ents_len he; rw [hl] at this; cases this
    | cons a r => exact ⟨_, _, rfl⟩
  obtain ⟨a0, r0, e0⟩ := e0
  obtain ⟨ys, f1, f2, f3, f4⟩ := fo
  have f0 : ∃ y t r, fs = Value.int y t :: r := by
    cases f1 with
    | nil => cases f2
    | cons y t _ => exact ⟨_, _, _, rfl⟩
  obtain ⟨y0, t0, s0, f0⟩ := f0
  have N₁ : News h₀ L s.heap ((D, listOf (es.map fun p => Value.ref p.1).toArray n) :: (F₀, listOf fs.toArray n') :: (I, ob) :: (es ++ [(e, listOf #[.str p t, .int mo t', .int ab t''] n'')])) := by
    intro q hq
    rcases List.mem_cons.mp hq with rfl | hq; · exact N _ hm
    rcases List.mem_cons.mp hq with rfl | hq; · exact N _ hf
    rcases List.mem_cons.mp hq with rfl | hq; · exact N _ hI
    rcases List.mem_append.mp hq with hq | hq
    · exact N _ (hes _ hq)
    · rw [List.mem_singleton.mp hq]; exact N _ hn
  refine append_snoc (vs := es.map fun p => Value.ref p.1) F N₁ (.head ?_) (by rw [List.length_map, ents_len he]; lia) fun h' F' N' => ?_
  · intro q hq
    rcases List.mem_cons.mp hq with rfl | hq
    · exact heads gF gD (by rw [e0, f0]; intro q; simp [W.listOf] at q)
    rcases List.mem_cons.mp hq with rfl | hq
    · exact fun q => it.1 q.symm
    rcases List.mem_append.mp hq with hq | hq
    · obtain ⟨j, hj⟩ := List.getElem?_of_mem hq
      have hj' : j < ents.length := by rw [← ents_len he]; exact (List.getElem?_eq_some_iff.mp hj).1
      obtain ⟨p', hp', t1, t2, t3, n3, ho⟩ := ents_get he (List.getElem?_eq_getElem hj')
      rw [hj] at hp'; cases hp'
      exact heads (N _ (hes _ hq)).1 gD (by rw [ho, e0]; intro q; simp [W.listOf] at q)
    · rw [List.mem_singleton.mp hq]
      exact heads ge gD (by rw [e0]; intro q; simp [W.listOf] at q)
  · refine h h' (es ++ [(e, listOf #[.str p t, .int mo t', .int ab t''] n'')]) _ F' (fun q hq => ?_) N' ⟨ents ++ [(p, mo, ab)], tok_add ht hl hi hk h0 h1 ?_, by simp [hl], by simp, ents_add he ⟨t, t', t'', n'', rfl⟩⟩ ⟨ys, f1, f2, by lia, fun y hy => ⟨(f4 y hy).1, by have := (f4 y hy).2; lia⟩⟩
    · rcases List.mem_append.mp hq with hq | hq
      · exact en _ hq
      · rw [List.mem_singleton.mp hq]; exact heI
    · rcases hp with ⟨hpos, q, ⟨ents', e', he', h2, h3⟩, h4⟩ | hp
      · rw [ents_inj he' he] at h2
        exact .inl ⟨hpos, e', h2, by rw [h4, h3]⟩
      · exact .inr hp
theorem fold_append {F₀ I : Addr} {ob : Obj} {n' : Nat} {t : Tok} {y : Int} {refs fs : List Value} {es : List (Addr × Obj)} {Q : Value → Shared → Prop}
    (F : Fr h₀ L s.heap m) (N : News h₀ L s.heap ((D, listOf refs.toArray n) :: (F₀, listOf fs.toArray n') :: (I, ob) :: es)) (tv : TreeV (i + 1) refs es) (fo : FoldOk (i + 1) fs) (hl1 : fs.length ≤ i + 1) (it : ItIs I ob D F₀) (hi : i < 9) (hy : y = (i : Int) + 1)
    (h : ∀ h' fs', Fr h₀ L h' m → News h₀ L h' ((D, listOf refs.toArray n) :: (F₀, listOf fs'.toArray (n' + 1)) :: (I, ob) :: es) → FoldOk (i + 1) fs' → Q .none { s with heap := h' }) :
    wpAny (model prog w) A (call (.builtin "list.append") [.ref F₀, .int y t]) Q E s := by
  obtain ⟨ents, ht, hl, rfl, he⟩ := tv
  have gD := (N _ (.head _)).1
  have gF := (N _ (.tail _ (.head _))).1
  have e0 : ∃ a r, es.map (fun p => Value.ref p.1) = Value.ref a :: r := by
    cases es with
    | nil => have := ents_len he; rw [hl] at this; cases this
    | cons a r => exact ⟨_, _, rfl⟩
  obtain ⟨a0, r0, e0⟩ := e0
  obtain ⟨ys, f1, f2, f3, f4⟩ := fo
  have f0 : ∃ y t r, fs = Value.int y t :: r := by
    cases f1 with
    | nil => cases f2
    | cons y t _ => exact ⟨_, _, _, rfl⟩
  obtain ⟨y0, t0, s0, f0⟩ := f0
  refine append_snoc F N (.tail ?_ (.head ?_)) (by lia) fun h' F' N' => h h' _ F' N' ⟨ys ++ [y], ints_add f1, by simp, by rw [List.length_append, ← ints_len f1]; simp; lia, ?_⟩
  · exact heads gD gF (by rw [e0, f0]; intro q; simp [W.listOf] at q)
  · intro q hq
    rcases List.mem_cons.mp hq with rfl | hq
    · exact fun q => it.2 q.symm
    obtain ⟨j, hj⟩ := List.getElem?_of_mem hq
    have hj' : j < ents.length := by rw [← ents_len he]; exact (List.getElem?_eq_some_iff.mp hj).1
    obtain ⟨p', hp', t1, t2, t3, n3, ho⟩ := ents_get he (List.getElem?_eq_getElem hj')
    rw [hj] at hp'; cases hp'
    exact heads (N _ (.tail _ (.tail _ (.tail _ hq)))).1 gF (by rw [ho, f0]; intro q; simp [W.listOf] at q)
  · intro z hz
    rcases List.mem_append.mp hz with hz | hz
    · exact f4 z hz
    · rw [List.mem_singleton.mp hz, hy]; lia
theorem item_head {a : Addr} {x : Value} {r : List Value} {Q : Value → Shared → Prop} (hl : s.heap.IsList a (x :: r).toArray) (h : Q x s) (hs : subscripted slice false (.ref a) (.int 0 u) = operate [.ref a, .int 0 u] (getItem (.ref a) (.int 0 u)) := by with_unfolding_all rfl) :
    wpAny (model prog w) A (subscriptTail value slice (.ref a) (.int 0 u)) Q E s :=
  tail_any hl.typeIs slot_list_getitem.lookup (wpAny_getItem_list hl (by decide) (by decide) (by simp) h) hs
end
theorem linesF7_1 : True := by
  k_with "subscriptTail Name BinOp ref int" => ((with_reducible show wpAny _ _ (subscriptTail _ _ (Value.ref _) (Value.int _ _)) _ _ _); (k_dflt (refine' fold_get (by k_asm) (by k_mem) (by assumption) (by walk_at "mine:idx") (by walk_at "mine:idx") (by omega) ?_; k_whole; intro yu47' tu47' y0u47' y1u47')))
  k_with "subscriptTail Name Name ref int" => ((with_reducible show wpAny _ _ (subscriptTail _ _ (Value.ref _) (Value.int _ _)) _ _ _); (with_reducible rename TreeV _ _ _ => tvu48'); (k_dflt (refine' ent_get (by k_asm) (by k_mem) (by (intro p hp; (repeat (first | exact hp | apply List.Mem.tail)))) tvu48' (by omega) (by omega) (by omega) ?_; k_whole; intro au48' pu48' tu48' ru48' ilu48' enu48' plu48')))
  k_with "subscriptTail Subscript Constant ref int" => ((with_reducible show wpAny _ _ (subscriptTail _ _ (Value.ref _) (Value.int _ _)) _ _ _); (k_dflt (refine' item_head (by assumption) ?_; k_whole)))
  k_with "mine:idx" => omega
  k_with "mine:idx" => (first | exact Int.fmod_nonneg_of_pos _ (by omega) | exact Int.fmod_lt_of_pos _ (by omega) | exact Int.emod_nonneg _ (by omega) | exact Int.emod_lt_of_pos _ (by omega))
  trivial
theorem news_two {h₀ h' : Heap} {L : Addr} {x y : Addr × Obj} {es : List (Addr × Obj)} (N : News h₀ L h' (x :: y :: es)) : ∀ p ∈ x :: es, h'.get? p.1 = some p.2 ∧ h₀.get? p.1 = none := by
  intro p hp
  rcases List.mem_cons.mp hp with rfl | hp
  · exact ⟨(N _ (.head _)).1, (N _ (.head _)).2.2⟩
  · exact ⟨(N _ (.tail _ (.tail _ hp))).1, (N _ (.tail _ (.tail _ hp))).2.2⟩
abbrev treeStored : List Str := [Str.ofString "k", Str.ofString "x", Str.ofString "above", Str.ofString "kind", Str.ofString "mode", Str.ofString "path"]
def TreeJ (m₀ : Str → Option Value) (D Fo : Addr) (i : Nat) (m : Str → Option Value) (nx : List (Addr × Obj)) : Prop :=
  (∀ z, treeStored.contains z = false → m z = m₀ z) ∧ ∃ refs n fs n' es, nx = (D, listOf refs.toArray n) :: (Fo, listOf fs.toArray n') :: es ∧ TreeV i refs es ∧ FoldOk i fs
section
variable {prog : Program} {w : World} {A : Around} {E : Value → Shared → Prop} {s : Shared} {h₀ : Heap} {L D : Addr} {m : Str → Option Value} {news : List (Addr × Obj)} {n : Nat} {vs : List Value}
theorem len_old {Q : Value → Shared → Prop} (F : Fr h₀ L s.heap m) (hl : h₀.IsList D vs.toArray) (hv : vs.length ≤ 100000) (h : ∀ t k, Q (.int (vs.length : Nat) t) { s with toks := k }) :
    wpAny (model prog w) A (call (.builtin "len") [.ref D]) Q E s :=
  call_len_list (hl.at fun o e => F.keep D o e) (by rw [List.size_toArray]; lia) (by rw [List.size_toArray]; exact h _ _)
theorem len_led {Q : Value → Shared → Prop} (N : News h₀ L s.heap news) (hm : (D, listOf vs.toArray n) ∈ news) (hv : vs.length ≤ 100000) (h : ∀ t k, Q (.int (vs.length : Nat) t) { s with toks := k }) :
    wpAny (model prog w) A (call (.builtin "len") [.ref D]) Q E s :=
  call_len_list (News.isList N hm) (by rw [List.size_toArray]; lia) (by rw [List.size_toArray]; exact h _ _)
end
theorem linesF7_2 : True := by
  k_with "call builtin:len" => ((with_reducible show wpAny _ _ (call (Value.builtin "len") [Value.ref _]) _ _ _); k_dflt (refine' len_old (by k_asm) (by with_reducible assumption) (by walk_at "mine:short") ?_; k_whole; intro tu52' ku52'))
  k_with "call builtin:len" => ((with_reducible show wpAny _ _ (call (Value.builtin "len") [Value.ref _]) _ _ _); k_dflt (refine' len_led (by k_asm) (by k_mem) (by walk_at "mine:short") ?_; k_whole; intro tu53' ku53'))
  trivial
section
variable {prog : Program} {w : World} {A : Around} {E : Value → Shared → Prop} {s : Shared} {env : Env} {h₀ : Heap} {x : Str} {px : Pos} {body orelse : List Stmt} {Q : Flow → Shared → Prop}
theorem tree_loop {D Fo e : Addr} {k n₀ n₁ n₂ : Nat} {t t₁ t₂ t₃ t₄ : Tok} {m₀ : Str → Option Value} (hk : k ≤ 9) (hh : A.handled = none)
    (F : Fr h₀ env.locals s.heap m₀) {news : List (Addr × Obj)} (N₀ : News h₀ env.locals s.heap news) (hmm : ∀ p ∈ [(D, listOf #[.ref e] n₀), (Fo, listOf #[.int 0 t₄] n₁), (e, listOf #[.str (Str.ofString "/") t₁, .int 16877 t₂, .int 0 t₃] n₂)], p ∈ news)
    (turn : ∀ (I : Addr) (ob : Obj) (i : Nat) (tok : Tok) (u : Str → Option Value) (refs : List Value) (n : Nat) (fs : List Value) (n' : Nat) (es : List (Addr × Obj)) (h : Heap) (tk : Nat), i < 9 → i < k → EsNe I es → ItIs I ob D Fo → TreeV i refs es → FoldOk i fs → 0 < fs.length → fs.length ≤ i + 1 → refs.length = i + 1 →
      Fr h₀ env.locals h (fun z => if treeStored.contains z = true then u z else m₀ z) → News h₀ env.locals h ((I, ob) :: (D, listOf refs.toArray n) :: (Fo, listOf fs.toArray n') :: es) →
      wpAny (model prog w) A (assign (.Name x px) env (.int (i : Nat) tok)) (fun _ s₂ => wpAny (model prog w) A (execs body env) (FvPost h₀ env.locals I ob (TreeJ m₀ D Fo (i + 1)) { s with heap := h, toks := tk } Q) E s₂) E { s with heap := h, toks := tk })
    (done : ∀ (u : Str → Option Value) (refs : List Value) (n : Nat) (fs : List Value) (n' : Nat) (es : List (Addr × Obj)) (h : Heap) (tk : Nat), TreeV k refs es → Fr h₀ env.locals h (fun z => if treeStored.contains z = true then u z else m₀ z) → News h₀ env.locals h ((D, listOf refs.toArray n) :: (Fo, listOf fs.toArray n') :: es) → wpAny (model prog w) A (execs orelse env) Q E { s with heap := h, toks := tk })
    (hE : PassesOwn (model prog w) A env E) :
    wpAny (model prog w) A (call (.type "range") [.int (k : Int) t]) (fun xv s₁ => wpAny (model prog w) A (pyIter xv) (fun it s₂ => ForAt prog w A env (.Name x px) body orelse Q E it s₂) E s₁) E s := by
  have N : News h₀ env.locals s.heap _ := fun p hp => N₀ p (hmm p hp)
  refine for_rangeK (TreeJ m₀ D Fo) hh (by lia) F N ⟨fun _ _ => rfl, [.ref e], n₀, [.int 0 t₄], n₁, [(e, listOf #[.str (Str.ofString "/") t₁, .int 16877 t₂, .int 0 t₃] n₂)], rfl, ⟨[(Str.ofString "/", 16877, 0)], ⟨fun _ => 0, rfl, ?t0⟩, rfl, rfl, .cons ⟨t₁, t₂, t₃, n₂, rfl⟩ .nil⟩, [0], .cons 0 t₄ .nil, by decide, by decide, by simp⟩ ?_ ?_ hE
  case t0 =>
    intro j e he
    rcases j with _ | j
    · cases he; exact ⟨rfl, by decide, fun h => absurd h (Nat.lt_irrefl _)⟩
    · cases he
  · rintro I ob i tok m₁ nx h tk hne hi ⟨hm, refs, n, fs, n', es, rfl, h1, h2⟩ F₁ N₁
    rw [map_forget hm] at F₁
    have h3 := h2.len
    exact turn I ob i tok m₁ refs n fs n' es h tk (by lia) hi (fun p hp => hne p (.tail _ (.tail _ hp))) ⟨hne _ (.head _), hne _ (.tail _ (.head _))⟩ h1 h2 (by lia) (by lia) h1.len F₁ N₁
  · rintro m₁ nx h tk ⟨hm, refs, n, fs, n', es, rfl, h1, h2⟩ F₁ N₁
    rw [map_forget hm] at F₁
    exact done m₁ refs n fs n' es h tk h1 F₁ N₁
end
theorem tree_close {h₀ h' : Heap} {L I D F₀ : Addr} {ob : Obj} {m₀ m' : Str → Option Value} {refs fs : List Value} {es : List (Addr × Obj)} {i n n' : Nat} {s₁ : Shared} {tk : Nat}
    (F : Fr h₀ L h' m') (N : News h₀ L h' ((D, listOf refs.toArray n) :: (F₀, listOf fs.toArray n') :: (I, ob) :: es)) (it : ItIs I ob D F₀) (en : EsNe I es) (tv : TreeV (i + 1) refs es) (fo : FoldOk (i + 1) fs) (hm : ∀ z, treeStored.contains z = false → m' z = m₀ z) :
    FvEnd h₀ L I ob (TreeJ m₀ D F₀ (i + 1)) s₁ { s₁ with heap := h', toks := tk } :=
  fv_end ((D, listOf refs.toArray n) :: (F₀, listOf fs.toArray n') :: es) F N (fun p hp => by
    rcases List.mem_cons.mp hp with rfl | hp; · exact .head _
    rcases List.mem_cons.mp hp with rfl | hp; · exact .tail _ (.head _)
    exact .tail _ (.tail _ (.tail _ hp))) (.tail _ (.tail _ (.head _))) (fun p hp => by
    rcases List.mem_cons.mp hp with rfl | hp; · exact it.1
    rcases List.mem_cons.mp hp with rfl | hp; · exact it.2
    exact en _ hp) ⟨hm, refs, n, fs, n', es, rfl, tv, fo⟩
theorem linesF7_3 : True := by
  k_with "FvEnd" => ((with_reducible show FvEnd _ _ _ _ (TreeJ _ _ _ _) _ _); (rename Fr _ _ _ _ => eF); (rename News _ _ _ _ => eN); (with_reducible rename TreeV _ _ _ => tvu54'); (with_reducible rename FoldOk _ _ => fou54'); (with_reducible rename EsNe _ _ => enu54'); (with_reducible rename ItIs _ _ _ _ => itu54'); (k_dflt (refine' tree_close eF eN itu54' enu54' tvu54' fou54' (by walk_at "mine:keeps"))))
  k_with "call builtin:list.append" => ((with_reducible show wpAny _ _ (call (Value.builtin _) [Value.ref _, Value.ref _]) _ _ _); (with_reducible rename TreeV _ _ _ => tvu55'); (with_reducible rename FoldOk _ _ => fou55'); (with_reducible rename EsNe _ _ => enu55'); (with_reducible rename ItIs _ _ _ _ => itu55'); (k_dflt (refine' tree_append (by k_asm) (by k_asm) (by k_mem) (by k_mem) (by k_mem) (by k_mem) (by (intro p hp; (repeat (first | exact hp | apply List.Mem.tail)))) tvu55' fou55' itu55' enu55' (by walk_at "mine:nes") (by omega) (by omega) (by omega) (by exact kind3_mode _ _) (by first | exact .inl ⟨by assumption, _, by assumption, rfl⟩ | exact .inr ⟨by omega, rfl⟩) ?_; k_whole; intro hu55' esu55' refsu55' Fu55' enu55' Nu55' tvu55'' fou55''; (try k_sweep))))
  k_with "call builtin:list.append" => ((with_reducible show wpAny _ _ (call (Value.builtin _) [Value.ref _, Value.int _ _]) _ _ _); (with_reducible rename TreeV _ _ _ => tvu56'); (with_reducible rename FoldOk _ _ => fou56'); (with_reducible rename ItIs _ _ _ _ => itu56'); (k_dflt (refine' fold_append (by k_asm) (by k_asm) tvu56' fou56' (by assumption) itu56' (by omega) (by first | rfl | omega) ?_; k_whole; intro hu56' fsu56' Fu56' Nu56' fou56''; (try k_sweep))))
  k_with "exec For Name Call cons nil" => ((with_reducible show wpAny _ _ (exec (Stmt.For (Expr.Name (PySem.Str.ofString "k") _) _ _ _ _) _) _ _ _); refine exec_ForAt ?_ (by intro _; with_unfolding_all rfl))
  k_with "call type:range" => ((with_reducible show wpAny _ _ (call _ _) (fun xv s₁ => wpAny _ _ (pyIter xv) (fun it s₂ => ForAt _ _ _ _ _ _ _ _ _ it s₂) _ s₁) _ _); ((rename Fr _ _ _ _ => lFu58'); (rename News _ _ _ _ => lNu58'); k_dflt ((refine' tree_loop (D := _) (Fo := _) (e := _) (by omega) (by exact rfl) lFu58' lNu58' (by (refine List.forall_mem_cons.mpr ⟨?_, List.forall_mem_cons.mpr ⟨?_, List.forall_mem_cons.mpr ⟨?_, fun _ h => nomatch h⟩⟩⟩; (rotate_left 2); k_mem; k_mem; k_mem)) _ _ (by passes_own))); (all_goals (intros; clear lFu58' lNu58'; (try k_fold)))))
  trivial
set_option maxRecDepth 100000 in
set_option maxHeartbeats 8000000 in
theorem sp_tree (w : World) (mean : ExcName → Option Value) (mg mb : Str → Option Value) (a₀ : Addr) (vs : List Value) (xs : List Int) :
    About PySem.Challenge.rw_rt0094_01 Mine.pre.heap_1_1 (Sp w mean mg mb 266 [Value.ref a₀] 4 (fun h => h.IsList a₀ vs.toArray ∧ IntsAre vs xs ∧ vs.length ≤ 9) (fun h h' v => ∃ (D : Addr) (refs : List Value) (n : Nat) (es : List (Addr × Obj)), v = Value.ref D ∧ TreeV vs.length refs es ∧ ∀ p ∈ (D, W.listOf refs.toArray n) :: es, h'.get? p.1 = some p.2 ∧ h.get? p.1 = none)) := by
  k_fill; unfold About Sp; intro dp un gd cn cs a ccd cl outer A₀ base h₀ L m s Q E B F X T hk hd hu hp hret
  obtain ⟨hp1, hp2, hp3⟩ := hp
  walk_at "mine:go"
  all_goals (try dsimp only)
  k_steps
  all_goals (refine sp_ret (s := s) (Q := Q) hret (by k_asm) ?_; exact ⟨_, _, _, _, rfl, by assumption, news_two (by assumption)⟩)

theorem offP1 : True := by
  w_top off
  trivial
set_option maxRecDepth 100000
theorem app_uniq {c : Nat} : ∀ {a b r s : List Nat}, c ∉ a → c ∉ b → a ++ c :: r = b ++ c :: s → a = b ∧ r = s
  | [], [], _, _, _, _, h => by simpa using h
  | [], y :: b, _, _, _, hb, h => by
    have := (List.cons.inj h).1
    exact absurd (this ▸ List.Mem.head _ : c ∈ y :: b) hb
  | x :: a, [], _, _, ha, _, h => by
    have := (List.cons.inj h).1
    exact absurd (this ▸ List.Mem.head _ : c ∈ x :: a) ha
  | x :: a, y :: b, _, _, ha, hb, h => by
    have h' := List.cons.inj h
    have ih := app_uniq (fun q => ha (.tail _ q)) (fun q => hb (.tail _ q)) h'.2
    exact ⟨by rw [h'.1, ih.1], ih.2⟩
theorem join_cps (c : Nat) (x y : Str) (r : List Str) : (Str.join ⟨#[c]⟩ (x :: y :: r)).cps.toList = x.cps.toList ++ c :: (Str.join ⟨#[c]⟩ (y :: r)).cps.toList := by
  show (x ++ ⟨#[c]⟩ ++ Str.join ⟨#[c]⟩ (y :: r)).cps.toList = _
  rw [Str.cps_append, Str.cps_append, Array.toList_append, Array.toList_append]
  simp
theorem str_ext {x y : Str} (h : x.cps.toList = y.cps.toList) : x = y := by
  cases x; cases y; simp only [Array.toList_inj] at h; rw [h]
theorem join_uniq (c : Nat) : ∀ ps qs : List Str, ps ≠ [] → qs ≠ [] → (∀ p ∈ ps, c ∉ p.cps.toList) → (∀ q ∈ qs, c ∉ q.cps.toList) → Str.join ⟨#[c]⟩ ps = Str.join ⟨#[c]⟩ qs → ps = qs
  | [], _, h, _, _, _, _ => absurd rfl h
  | _, [], _, h, _, _, _ => absurd rfl h
  | [p], [q], _, _, _, _, h => by rw [show p = q from h]
  | [p], q :: q' :: r, _, _, hp, _, h => by
    have e := congrArg (fun z => z.cps.toList) h
    simp only [join_cps] at e
    have : c ∈ p.cps.toList := by
      show c ∈ (Str.join ⟨#[c]⟩ [p]).cps.toList
      rw [e]; simp
    exact absurd this (hp p (.head _))
  | p :: p' :: r, [q], _, _, _, hq, h => by
    have e := congrArg (fun z => z.cps.toList) h
    simp only [join_cps] at e
    have : c ∈ q.cps.toList := by
      show c ∈ (Str.join ⟨#[c]⟩ [q]).cps.toList
      rw [← e]; simp
    exact absurd this (hq q (.head _))
  | p :: p' :: r, q :: q' :: r', _, _, hp, hq, h => by
    have e := congrArg (fun z => z.cps.toList) h
    simp only [join_cps] at e
    obtain ⟨e1, e2⟩ := app_uniq (hp p (.head _)) (hq q (.head _)) e
    rw [str_ext e1, join_uniq c (p' :: r) (q' :: r') (by simp) (by simp) (fun z hz => hp z (.tail _ hz)) (fun z hz => hq z (.tail _ hz)) (str_ext e2)]
theorem slash_eq : Str.ofString "/" = ⟨#[47]⟩ := by decide +kernel
theorem split_join {ps : List Str} (h0 : ps ≠ []) (hf : ∀ p ∈ ps, 47 ∉ p.cps.toList) : Txt.split (Str.join (Str.ofString "/") ps) (Str.ofString "/") = ps := by
  rw [slash_eq]
  refine join_uniq 47 _ _ (fun q => ?_) h0 (StrLaws.split_free _ 47) hf (StrLaws.join_split _ _)
  have := split_pos (Str.join ⟨#[47]⟩ ps) ⟨#[47]⟩
  rw [q] at this; exact absurd this (by decide)
def namesOf (m : Nat) : List Str := ((List.range 9).filter fun i => m.testBit i).map letr
def upS (m i : Nat) : List Str := namesOf m ++ [Str.ofString "zz", Str.ofString "..", letr i]
theorem letr_eq : ∀ i, i < 9 → letr i = letterAt i := by decide +kernel
theorem letr_ok : ∀ i, i < 9 → (letr i).length = 1 ∧ Txt.startswith (letr i) (Str.ofString "/") = false ∧ 47 ∉ (letr i).cps.toList := by decide +kernel
theorem names_eq (m : Nat) : namesOf m = ((List.range 9).filter fun i => m.testBit i).map letterAt := by
  unfold namesOf
  apply List.map_congr_left
  intro i hi
  exact letr_eq i (List.mem_range.mp (List.mem_filter.mp hi).1)
theorem join_two (c a b : Str) (r : List Str) : Str.join c ((a ++ c ++ b) :: r) = a ++ c ++ Str.join c (b :: r) := by
  cases r with
  | nil => rfl
  | cons d r =>
    show a ++ c ++ b ++ c ++ Str.join c (d :: r) = a ++ c ++ (b ++ c ++ Str.join c (d :: r))
    simp only [Str.append_assoc]
theorem foldl_join (c : Str) (f : Nat → Str) : ∀ (l : List Nat) (a : Str), l.foldl (fun a i => a ++ c ++ f i) a = Str.join c (a :: l.map f)
  | [], _ => rfl
  | x :: l, a => by rw [List.foldl_cons, foldl_join c f l, join_two, List.map_cons]; rfl
theorem names_path (m : Nat) (_ : m < 512) (h0 : m ≠ 0) : showP m = Str.join (Str.ofString "/") (Str.ofString "" :: namesOf m) := by
  unfold showP pathB
  rw [if_neg h0, foldl_join, names_eq]
theorem bits_ne : ∀ m, m < 512 → m ≠ 0 → ((List.range 9).filter fun i => m.testBit i) ≠ [] := by decide +kernel
theorem names_cons {m : Nat} (h : m < 512) (h0 : m ≠ 0) : ∃ i r, namesOf m = letterAt i :: r := by
  have q := bits_ne m h h0
  rw [names_eq]
  cases e : (List.range 9).filter fun i => m.testBit i with
  | nil => exact absurd e q
  | cons i r => exact ⟨i, _, List.map_cons⟩
theorem empty_is : Str.ofString "" = Str.empty := by decide +kernel
theorem show_slash (m : Nat) (h : m < 512) (h0 : m ≠ 0) : showP m = Str.ofString "/" ++ Str.join (Str.ofString "/") (namesOf m) := by
  obtain ⟨i, r, e⟩ := names_cons h h0
  rw [names_path m h h0, e]
  show Str.ofString "" ++ Str.ofString "/" ++ Str.join (Str.ofString "/") (letterAt i :: r) = _
  rw [empty_is, Str.empty_append]
theorem show_len : ∀ m, m < 512 → 1 ≤ (showP m).length := by decide +kernel
theorem show_up (m : Nat) (h : m < 512) (h0 : m ≠ 0) : Str.ofString "/" ++ Str.join (Str.ofString "/") (namesOf m) = showP m ∧ ((showP m).length : Int) ≠ 0 := by
  have := show_len m h
  exact ⟨(show_slash m h h0).symm, by lia⟩
theorem bits_add : ∀ i, i < 9 → ∀ m, m < 2 ^ i → (List.range 9).filter (fun j => (m + 2 ^ i).testBit j) = (List.range 9).filter (fun j => m.testBit j) ++ [i] := by decide +kernel
theorem names_add (i : Nat) (hi : i < 9) (m : Nat) (hm : m < 2 ^ i) : namesOf (m + 2 ^ i) = namesOf m ++ [letr i] := by
  unfold namesOf; rw [bits_add i hi m hm, List.map_append]; rfl
theorem ends_no : ∀ m, m < 512 → m ≠ 0 → Txt.endswith (showP m) (Str.ofString "/") = false := by decide +kernel
theorem join_app (c : Str) : ∀ (l r : List Str), l ≠ [] → r ≠ [] → Str.join c (l ++ r) = Str.join c l ++ c ++ Str.join c r
  | [], _, h, _ => absurd rfl h
  | _, [], _, h => absurd rfl h
  | [a], d :: r, _, _ => rfl
  | a :: b :: l, d :: r, _, h => by
    show a ++ c ++ Str.join c (b :: l ++ d :: r) = a ++ c ++ Str.join c (b :: l) ++ c ++ Str.join c (d :: r)
    rw [join_app c (b :: l) (d :: r) (by simp) h]
    simp only [Str.append_assoc]
theorem splitS_slash {x : Str} {c : Nat} {r : List Nat} (hc : c ≠ 47) (e : x.cps.toList = 47 :: c :: r) : splitS x = (Str.ofString "/", ⟨(c :: r).toArray⟩) := by
  have hl : x.length = 2 + r.length := by
    have := congrArg List.length e
    rw [Array.length_toList] at this
    simp only [List.length_cons] at this
    show x.cps.size = _; lia
  have e1 : Txt.slice x none (some 1) = Str.ofString "/" := by
    have := eq_of_beq (slice_closes_toL (x := x) (j := 1) (by lia) (by lia))
    rw [this, e, show Str.ofString "/" = ⟨#[47]⟩ by decide +kernel]; rfl
  have e2 : Txt.slice x (some 1) (some 2) = ⟨#[c]⟩ := by
    have := eq_of_beq (slice_closesL (x := x) (i := 1) (j := 2) (by lia) (by lia) (by lia))
    rw [this, e]; rfl
  have e3 : Txt.slice x (some 1) none = ⟨(c :: r).toArray⟩ := by
    rw [slice_from_eq (x := x) (i := 1) (b := x.length) (by lia) (by lia) rfl, e, hl]
    have : ((2 + r.length : Nat) : Int) - 1 = ((r.length + 1 : Nat) : Int) := by lia
    rw [this]
    show (⟨((c :: r).take (r.length + 1)).toArray⟩ : Str) = _
    rw [List.take_of_length_le (by simp)]
  have e4 : ((⟨#[c]⟩ : Str) != Str.ofString "/") = true := by
    rw [bne_iff_ne]
    have : Str.ofString "/" = ⟨#[47]⟩ := by decide +kernel
    rw [this]
    intro q; injection q with q; simp at q; exact hc q
  rw [split2 (by rw [e1]; decide +kernel) (by rw [e2]; exact e4), e3]
theorem split_up0 : ∀ i, i < 9 → splitS (joinS (showP 0) (letr i)) = (Str.ofString "/", Str.join (Str.ofString "/") (upS 0 i)) := by decide +kernel
theorem split_up (i : Nat) (hi : i < 9) (m : Nat) (hm : m < 2 ^ i) : splitS (joinS (showP m) (letr i)) = (Str.ofString "/", Str.join (Str.ofString "/") (upS m i)) := by
  by_cases h0 : m = 0
  · subst h0; exact split_up0 i hi
  have hp9 : 2 ^ i ≤ 256 := Nat.pow_le_pow_right (n := 2) (j := 8) (by decide) (by lia)
  obtain ⟨k, r, e⟩ := names_cons (m := m) (by lia) h0
  have hj : joinS (showP m) (letr i) = Str.ofString "/" ++ Str.join (Str.ofString "/") (upS m i) := by
    unfold joinS
    rw [if_neg (by rw [ends_no m (by lia) h0]; decide), show_slash m (by lia) h0]
    unfold upS
    rw [join_app _ _ _ (by rw [e]; simp) (by simp)]
    have a1 : Str.ofString "/zz" = Str.ofString "/" ++ Str.ofString "zz" := by decide +kernel
    have a2 : Str.ofString "/.." = Str.ofString "/" ++ Str.ofString ".." := by decide +kernel
    rw [a1, a2]
    show _ = Str.ofString "/" ++ (Str.join (Str.ofString "/") (namesOf m) ++ Str.ofString "/" ++ (Str.ofString "zz" ++ Str.ofString "/" ++ (Str.ofString ".." ++ Str.ofString "/" ++ letr i)))
    simp only [Str.append_assoc]
  have hs : (Str.ofString "/").cps.toList = [47] := by decide +kernel
  obtain ⟨r', er⟩ : ∃ r', (Str.join (Str.ofString "/") (upS m i)).cps.toList = (97 + k) :: r' := by
    unfold upS
    rw [e, List.cons_append]
    obtain ⟨d, q, ed⟩ : ∃ d q, r ++ [Str.ofString "zz", Str.ofString "..", letr i] = d :: q := by cases r <;> exact ⟨_, _, rfl⟩
    rw [ed]
    refine ⟨(Str.ofString "/" ++ Str.join (Str.ofString "/") (d :: q)).cps.toList, ?_⟩
    show (letterAt k ++ Str.ofString "/" ++ Str.join (Str.ofString "/") (d :: q)).cps.toList = _
    rw [Str.append_assoc, Str.cps_append, Array.toList_append]
    rfl
  rw [hj, splitS_slash (x := Str.ofString "/" ++ Str.join (Str.ofString "/") (upS m i)) (c := 97 + k) (r := r') (by lia) (by rw [Str.cps_append, Array.toList_append, hs, er]; rfl), ← er]
theorem fold_up : ∀ i, i < 9 → ∀ m, m < 2 ^ i → (upS m i).foldl (normStep (Str.ofString "/")) [] = namesOf (m + 2 ^ i) := by decide +kernel
theorem names_free (m : Nat) : ∀ p ∈ namesOf m, 47 ∉ p.cps.toList := by
  intro p hp
  obtain ⟨i, hi, rfl⟩ := List.mem_map.mp hp
  exact (letr_ok i (List.mem_range.mp (List.mem_filter.mp hi).1)).2.2
theorem up_free {m i : Nat} (hi : i < 9) : ∀ p ∈ upS m i, 47 ∉ p.cps.toList := by
  intro p hp
  rcases List.mem_append.mp hp with hp | hp
  · exact names_free m p hp
  · rcases List.mem_cons.mp hp with rfl | hp; · decide +kernel
    rcases List.mem_cons.mp hp with rfl | hp; · decide +kernel
    rw [List.mem_singleton.mp hp]; exact (letr_ok i hi).2.2
theorem lt512 {i m : Nat} (hi : i < 9) (hm : m < 2 ^ i) : m + 2 ^ i < 512 ∧ m + 2 ^ i ≠ 0 := by
  have hp9 : 2 ^ i ≤ 256 := Nat.pow_le_pow_right (n := 2) (j := 8) (by decide) (by lia)
  have hpos : 0 < 2 ^ i := Nat.pow_pos (by decide)
  lia
theorem split_last (i : Nat) (hi : i < 9) (m : Nat) (hm : m < 2 ^ i) : (Txt.split (showP (m + 2 ^ i)) (Str.ofString "/")).getLast? = some (letr i) := by
  have h := lt512 hi hm
  have hs : Txt.split (Str.join (Str.ofString "/") (Str.ofString "" :: namesOf (m + 2 ^ i))) (Str.ofString "/") = Str.ofString "" :: namesOf (m + 2 ^ i) := by
    refine split_join (List.cons_ne_nil _ _) fun p hp => ?_
    rcases List.mem_cons.mp hp with rfl | hp
    · decide +kernel
    · exact names_free _ p hp
  rw [names_path _ h.1 h.2, hs, names_add i hi m hm, ← List.cons_append]
  exact List.getLast?_concat
theorem norm_ok (i : Nat) (hi : i < 9) (m : Nat) (hm : m < 2 ^ i) : normS (joinS (showP m) (letr i)) = showP (m + 2 ^ i) := by
  have h := lt512 hi hm
  have e : normList (joinS (showP m) (letr i)) = namesOf (m + 2 ^ i) := by
    unfold normList
    rw [split_up i hi m hm]
    dsimp only
    rw [split_join (by simp [upS]) (up_free hi)]
    exact fold_up i hi m hm
  have j : Txt.join (Str.ofString "/") (namesOf (m + 2 ^ i)) = Str.join (Str.ofString "/") (namesOf (m + 2 ^ i)) := StrLaws.glued_eq_join _ _
  have q := show_up _ h.1 h.2
  unfold normS
  rw [e, split_up i hi m hm]
  dsimp only
  rw [j, q.1, if_pos q.2]
theorem joinS_len {x y : Str} (hx : x.length ≤ 900) (hy : y.length = 1) : 1 ≤ (joinS x y).length ∧ (joinS x y).length ≤ 1000 := by
  unfold joinS
  have h1 : (Str.ofString "zz").length = 2 := by decide +kernel
  have h2 : (Str.ofString "/..").length = 3 := by decide +kernel
  have h3 : (Str.ofString "/").length = 1 := by decide +kernel
  have h4 : (Str.ofString "/zz").length = 3 := by decide +kernel
  split
  · simp only [Str.length_append, h1, h2, h3, hy]; lia
  · simp only [Str.length_append, h2, h3, h4, hy]; lia

theorem offF8 : True := by
  w_top off
  trivial
theorem tc_len (k : Int) : (tcS k).length = 1 := by
  unfold tcS
  cases q : bits0.find? fun p => p.1 == k with
  | none => rfl
  | some p =>
    have := List.mem_of_find?_eq_some q
    have h : ∀ p ∈ bits0, p.2.length = 1 := by decide +kernel
    exact h p this
theorem fm_len {k : Int} {y : Str} (h : FmS k y) : y.length ≤ 10 := by
  obtain ⟨r, e, hr⟩ := h
  have := tc_len k
  rw [Str.length] at this ⊢
  rw [← Array.length_toList, e, List.length_append, hr, Array.length_toList]; lia
/-- what a row of the listing says -/
structure RowV where
  text : Str
  d : Bool
  f : Bool
  l : Bool
  deep : Int
def RowOk (r : RowV) : Prop := ∃ k m y, (k = 16384 ∨ k = 32768 ∨ k = 40960) ∧ 0 < m ∧ m < 512 ∧ FmS k y ∧ r.text = y ++ Str.ofString " " ++ showP m ∧ r.d = decide (k = 16384) ∧ r.f = decide (k = 32768) ∧ r.l = decide (k = 40960) ∧ r.deep = deepF 9 (showP m)
def RowAt (rs : List (Addr × Obj)) (v : Value) : Prop := ∃ a b r t t' n n', v = .ref a ∧ (a, W.listOf #[.str r.text t, .ref b, .int r.deep t'] n) ∈ rs ∧ (b, W.listOf #[.bool r.d, .bool r.f, .bool r.l] n') ∈ rs ∧ RowOk r
def Tame (rs : List (Addr × Obj)) : Prop := ∀ p ∈ rs, ∃ x r n, p.2 = W.listOf (x :: r : List Value).toArray n ∧ ∀ a, x ≠ .ref a
def RowsV (i : Nat) (vs : List Value) (rs : List (Addr × Obj)) : Prop := vs.length = i ∧ (∀ v ∈ vs, RowAt rs v) ∧ (∀ v ∈ vs, ∃ a, v = .ref a) ∧ Tame rs
def JoinOk (q nm path : Str) : Prop := 1 ≤ q.length ∧ q.length ≤ 1000 ∧ (1 ≤ (joinS q nm).length ∧ (joinS q nm).length ≤ 1000) ∧ normS (joinS q nm) = path
def PathOk (path : Str) : Prop := ∃ m, 0 < m ∧ m < 512 ∧ path = showP m
abbrev listStored : List Str := [Str.ofString "path", Str.ofString "mode", Str.ofString "above", Str.ofString "straight", Str.ofString "kinds"]
def ListJ (m₀ : Str → Option Value) (R D : Addr) (oD : Obj) (i : Nat) (m : Str → Option Value) (nx : List (Addr × Obj)) : Prop :=
  (∀ z, listStored.contains z = false → m z = m₀ z) ∧ ∃ vs n rs, nx = (R, W.listOf vs.toArray n) :: (D, oD) :: rs ∧ RowsV i vs rs
/-- what a turn knows of its entry -/
def EntT (es : List (Addr × Obj)) (k : Nat) (path : Str) (mode ab : Int) : Prop := ∃ nm, (Txt.split path (Str.ofString "/")).getLast? = some nm ∧ nm.length = 1 ∧ Txt.startswith nm (Str.ofString "/") = false ∧ path.length ≤ 1000 ∧ Kind3 mode ∧ PathOk path ∧ 0 ≤ ab ∧ ab ≤ k ∧ ∀ q, PathAt es ab q → JoinOk q nm path
theorem ent_turn {es : List (Addr × Obj)} {refs : List Value} {k i : Nat} {v : Value} {h : Heap} (hk : k ≤ 9) (tv : TreeV k refs es) (hes : ∀ p ∈ es, h.get? p.1 = some p.2) (hv : (refs.drop 1)[i]? = some v) :
    ∃ e path mode ab t t' t'', v = .ref e ∧ h.IsList e [.str path t, .int mode t', .int ab t''].toArray ∧ EntT es k path mode ab := by
  obtain ⟨ents, ⟨g, g0, hg⟩, hl, rfl, he⟩ := tv
  rw [List.getElem?_drop, List.getElem?_map] at hv
  obtain ⟨p, hp, rfl⟩ := Option.map_eq_some_iff.mp hv
  have hi : 1 + i < ents.length := by rw [← ents_len he]; exact (List.getElem?_eq_some_iff.mp hp).1
  obtain ⟨e, hei⟩ : ∃ e, ents[1 + i]? = some e := ⟨_, List.getElem?_eq_getElem hi⟩
  obtain ⟨p', hp', t, t', t'', n, ho⟩ := ents_get he hei
  rw [hp] at hp'; cases hp'
  have hP := hes _ (List.mem_of_getElem? hp)
  rw [ho] at hP
  obtain ⟨q1, q2, q3⟩ := hg _ _ hei
  obtain ⟨k3, a, ea, hai, ga⟩ := q3 (by lia)
  have hi9 : i < 9 := by lia
  have e1 : 1 + i - 1 = i := by lia
  rw [e1] at ga
  have ha : a < ents.length := by lia
  obtain ⟨ea', hea⟩ : ∃ e, ents[a]? = some e := ⟨_, List.getElem?_eq_getElem ha⟩
  obtain ⟨r1, r2, _⟩ := hg _ _ hea
  have hga : g a < 2 ^ i := Nat.lt_of_lt_of_le r2 (Nat.pow_le_pow_right (by decide) (by lia))
  have hp9 : 2 ^ i ≤ 256 := Nat.pow_le_pow_right (n := 2) (j := 8) (by decide) (by lia)
  have hpos : 0 < 2 ^ i := Nat.pow_pos (by decide)
  rw [ga] at q1
  have lo := letr_ok i hi9
  refine ⟨p.1, e.1, e.2.1, e.2.2, t, t', t'', rfl, ⟨_, hP, rfl, _, rfl⟩, letr i, by rw [q1]; exact split_last i hi9 _ hga, lo.1, lo.2.1, ?_, k3, ⟨_, by lia, by lia, q1⟩, by rw [ea]; lia, by rw [ea]; lia, ?_⟩
  · rw [q1]; exact Nat.le_trans (path_len _ (by lia)) (by decide)
  · rintro q ⟨ents', e', he', h2, h3⟩
    rw [ents_inj he' he, ea, Int.toNat_natCast, hea] at h2
    cases h2
    rw [r1] at h3
    subst h3
    have hs := show_len (g a) (by lia)
    exact ⟨hs, Nat.le_trans (path_len _ (by lia)) (by decide), joinS_len (Nat.le_trans (path_len _ (by lia)) (by decide)) lo.1, by rw [q1]; exact norm_ok i hi9 _ hga⟩
theorem row_ok {x : Int} {path y : Str} (h : PathOk path) (fm : FmS (PySem.Builtin.bitAnd x 61440) y) (k3 : PySem.Builtin.bitAnd x 61440 = 16384 ∨ PySem.Builtin.bitAnd x 61440 = 32768 ∨ PySem.Builtin.bitAnd x 61440 = 40960) :
    RowOk ⟨y ++ Str.ofString " " ++ path, decide (PySem.Builtin.bitAnd x 61440 = 16384), decide (PySem.Builtin.bitAnd x 61440 = 32768), decide (PySem.Builtin.bitAnd x 61440 = 40960), deepF 9 path⟩ := by
  obtain ⟨m, h1, h2, rfl⟩ := h
  exact ⟨_, m, y, k3, h1, h2, fm, rfl, rfl, rfl, rfl, rfl⟩
theorem split_short {x y : Str} (h : x.length ≤ 1000) : (Txt.split x y).length ≤ 100000 := by have := split_le x y; lia
theorem pick1 {l : List Value} (h : 1 ≤ l.length) : kms_pick l.toArray.toList (some 1) none = l.drop 1 := by
  have e : kms_lo (some 1) l.length = 1 := by simp only [kms_lo]; rw [if_neg (by decide)]; show min 1 l.length = 1; lia
  show (l.drop (kms_lo (some 1) l.length)).take (l.length - kms_lo (some 1) l.length) = _
  rw [e]
  exact List.take_of_length_le (by simp)
section
variable {prog : Program} {w : World} {A : Around} {E : Value → Shared → Prop} {s : Shared} {h₀ : Heap} {L D : Addr} {m : Str → Option Value} {news : List (Addr × Obj)} {n : Nat} {i k : Nat} {value slice : Expr} {u : Tok} {es : List (Addr × Obj)} {refs : List Value}
theorem tail_old {vl vu : Value} {Q : Value → Shared → Prop} (F : Fr h₀ L s.heap m) (N : News h₀ L s.heap news) (hl : h₀.IsList D refs.toArray) (tv : TreeV k refs es) (hk : k ≤ 9) (pl : IsPart vl (some 1)) (pu : IsPart vu none)
    (h : ∀ D h', Fr h₀ L h' m → News h₀ L h' ((D, W.listOf (refs.drop 1).toArray 0) :: news) → (∀ p ∈ news, p.1 < D) → Q (.ref D) { s with heap := h' })
    (hs : subscripted slice false (.ref D) (.ref s.heap.objs.size) = operate [.ref s.heap.objs.size, .ref D] (getItem (.ref D) (.ref s.heap.objs.size))) (ht : ∀ r, letTemporaryGo value (.ref D) r = pure ()) :
    wpAny (model prog w) A (subscriptTail value slice (.ref D) (.ref s.heap.objs.size)) Q E { s with heap := s.heap.push { cls := .type "slice", data := .fields #[vl, vu, .none] } } :=
  kms_slice_lit F N (hl.at fun o e => F.keep D o e) pl pu (pick1 (by rw [tv.len]; lia)) h hs ht (by rw [List.size_toArray, tv.len, sizeLine_eq]; lia)
theorem ent_old {ab : Int} {nm path : Str} {Q : Value → Shared → Prop} (F : Fr h₀ L s.heap m) (hl : h₀.IsList D refs.toArray) (hes : ∀ p ∈ es, h₀.get? p.1 = some p.2) (tv : TreeV k refs es) (hk : k ≤ 9) (h0 : 0 ≤ ab) (h1 : ab ≤ k) (hj : ∀ q, PathAt es ab q → JoinOk q nm path)
    (h : ∀ a p t r, s.heap.IsList a (.str p t :: r).toArray → JoinOk p nm path → 1 ≤ p.length → p.length ≤ 1000 → 1 ≤ (joinS p nm).length → (joinS p nm).length ≤ 1000 → normS (joinS p nm) = path → Q (.ref a) s) (hs : subscripted slice false (.ref D) (.int ab u) = operate [.ref D, .int ab u] (getItem (.ref D) (.int ab u)) := by with_unfolding_all rfl) :
    wpAny (model prog w) A (subscriptTail value slice (.ref D) (.int ab u)) Q E s := by
  obtain ⟨ents, ht, hl', rfl, he⟩ := tv
  have hk' : ab.toNat < ents.length := by lia
  obtain ⟨e, hek⟩ : ∃ e, ents[ab.toNat]? = some e := ⟨_, List.getElem?_eq_getElem hk'⟩
  obtain ⟨p, hp, t, t', t'', n', ho⟩ := ents_get he hek
  have hL : s.heap.IsList D (es.map fun p => Value.ref p.1).toArray := hl.at fun o e => F.keep D o e
  have hP : s.heap.get? p.1 = some p.2 := F.keep _ _ (hes _ (List.mem_of_getElem? hp))
  rw [ho] at hP
  have jo := hj e.1 ⟨ents, e, he, hek, rfl⟩
  exact tail_any hL.typeIs slot_list_getitem.lookup (wpAny_getItem_list hL h0 (by lia) (x := .ref p.1) (by simp [hp]) (h p.1 e.1 t [.int e.2.1 t', .int e.2.2 t''] ⟨_, hP, rfl, _, rfl⟩ jo jo.1 jo.2.1 jo.2.2.1.1 jo.2.2.1.2 jo.2.2.2)) hs
theorem last_strs {vs : List Value} {ys : List Str} {nm : Str} {Q : Value → Shared → Prop} (N : News h₀ L s.heap news) (hm : (D, W.listOf vs.toArray n) ∈ news) (hv : StrsAre vs ys) (hn : ys.getLast? = some nm) (hl : ys.length ≤ 100000)
    (h : ∀ t, Q (.str nm t) s) (hs : subscripted slice false (.ref D) (.int (-1) u) = operate [.ref D, .int (-1) u] (getItem (.ref D) (.int (-1) u)) := by with_unfolding_all rfl) :
    wpAny (model prog w) A (subscriptTail value slice (.ref D) (.int (-1) u)) Q E s := by
  have e : ys = ys.dropLast ++ [nm] := by
    have hne : ys ≠ [] := by rintro rfl; cases hn
    rw [List.getLast?_eq_some_getLast hne] at hn
    have := List.dropLast_concat_getLast hne
    rw [Option.some.inj hn] at this
    exact this.symm
  rw [e] at hv
  obtain ⟨vs', t, rfl, h'⟩ := strs_snoc hv
  exact last_snoc N hm (h t) hs
theorem row_append {R a b I : Addr} {ob oD : Obj} {n' n'' : Nat} {r : RowV} {t t' : Tok} {vs : List Value} {rs : List (Addr × Obj)} {Q : Value → Shared → Prop}
    (F : Fr h₀ L s.heap m) (N : News h₀ L s.heap news) (hm : (R, W.listOf vs.toArray n) ∈ news) (ha : (a, W.listOf #[.str r.text t, .ref b, .int r.deep t'] n') ∈ news) (hb : (b, W.listOf #[.bool r.d, .bool r.f, .bool r.l] n'') ∈ news) (hD : (D, oD) ∈ news) (hI : (I, ob) ∈ news) (hrs : ∀ p ∈ rs, p ∈ news)
    (rv : RowsV i vs rs) (it : ItIs I ob R D) (en : EsNe I rs) (haI : @Ne Nat a I) (hbI : @Ne Nat b I) (hRD : @Ne Nat R D) (hi : i < 9) (ok : RowOk r)
    (h : ∀ h' (rs' : List (Addr × Obj)) vs', Fr h₀ L h' m → EsNe I rs' → News h₀ L h' ((R, W.listOf vs'.toArray (n + 1)) :: (D, oD) :: (I, ob) :: rs') → RowsV (i + 1) vs' rs' → Q .none { s with heap := h' }) :
    wpAny (model prog w) A (call (.builtin "list.append") [.ref R, .ref a]) Q E s := by
  obtain ⟨hl, hr, href, tm⟩ := rv
  have gR := (N _ hm).1
  have ga := (N _ ha).1
  have gb := (N _ hb).1
  have apart : ∀ (p : Addr × Obj) x r0 n0, s.heap.get? p.1 = some p.2 → p.2 = W.listOf (x :: r0 : List Value).toArray n0 → (∀ a, x ≠ .ref a) → p.1 ≠ R := by
    intro p x r0 n0 hp e hx
    refine heads (q := (R, W.listOf vs.toArray n)) hp gR ?_
    rw [e]
    intro q
    cases vs with
    | nil => simp [W.listOf] at q
    | cons v vs =>
      obtain ⟨a, rfl⟩ := href v (.head _)
      simp [W.listOf] at q
      exact hx a q.1.1
  have N₁ : News h₀ L s.heap ((R, W.listOf vs.toArray n) :: (D, oD) :: (I, ob) :: (a, W.listOf #[.str r.text t, .ref b, .int r.deep t'] n') :: (b, W.listOf #[.bool r.d, .bool r.f, .bool r.l] n'') :: rs) := by
    intro q hq
    rcases List.mem_cons.mp hq with rfl | hq; · exact N _ hm
    rcases List.mem_cons.mp hq with rfl | hq; · exact N _ hD
    rcases List.mem_cons.mp hq with rfl | hq; · exact N _ hI
    rcases List.mem_cons.mp hq with rfl | hq; · exact N _ ha
    rcases List.mem_cons.mp hq with rfl | hq; · exact N _ hb
    exact N _ (hrs _ hq)
  have tm' : Tame ((a, W.listOf #[.str r.text t, .ref b, .int r.deep t'] n') :: (b, W.listOf #[.bool r.d, .bool r.f, .bool r.l] n'') :: rs) := by
    intro q hq
    rcases List.mem_cons.mp hq with rfl | hq; · exact ⟨_, _, _, rfl, fun _ e => nomatch e⟩
    rcases List.mem_cons.mp hq with rfl | hq; · exact ⟨_, _, _, rfl, fun _ e => nomatch e⟩
    exact tm q hq
  refine append_snoc F N₁ (.head ?_) (by lia) fun h' F' N' => ?_
  · intro q hq
    rcases List.mem_cons.mp hq with rfl | hq; · exact fun e => hRD e.symm
    rcases List.mem_cons.mp hq with rfl | hq; · exact fun e => it.1 e.symm
    obtain ⟨x, r0, n0, e, hx⟩ := tm' q hq
    exact apart q x r0 n0 (N₁ q (.tail _ (.tail _ (.tail _ hq)))).1 e hx
  · refine h h' _ _ F' ?_ N' ⟨by simp [hl], ?_, ?_, tm'⟩
    · intro q hq
      rcases List.mem_cons.mp hq with rfl | hq; · exact haI
      rcases List.mem_cons.mp hq with rfl | hq; · exact hbI
      exact en q hq
    · intro v hv
      rcases List.mem_append.mp hv with hv | hv
      · obtain ⟨a1, b1, r1, t1, t2, n1, n2, e, m1, m2, ok1⟩ := hr v hv
        exact ⟨a1, b1, r1, t1, t2, n1, n2, e, .tail _ (.tail _ m1), .tail _ (.tail _ m2), ok1⟩
      · rw [List.mem_singleton.mp hv]
        exact ⟨a, b, r, t, t', n', n'', rfl, .head _, .tail _ (.head _), ok⟩
    · intro v hv
      rcases List.mem_append.mp hv with hv | hv
      · exact href v hv
      · exact ⟨a, List.mem_singleton.mp hv⟩
end
theorem row_close {h₀ h' : Heap} {L I R D : Addr} {ob oD : Obj} {m₀ m' : Str → Option Value} {vs : List Value} {rs : List (Addr × Obj)} {i n : Nat} {s₁ : Shared} {tk : Nat}
    (F : Fr h₀ L h' m') (N : News h₀ L h' ((R, W.listOf vs.toArray n) :: (D, oD) :: (I, ob) :: rs)) (it : ItIs I ob R D) (en : EsNe I rs) (rv : RowsV (i + 1) vs rs) (hm : ∀ z, listStored.contains z = false → m' z = m₀ z) :
    FvEnd h₀ L I ob (ListJ m₀ R D oD (i + 1)) s₁ { s₁ with heap := h', toks := tk } :=
  fv_end ((R, W.listOf vs.toArray n) :: (D, oD) :: rs) F N (fun p hp => by
    rcases List.mem_cons.mp hp with rfl | hp; · exact .head _
    rcases List.mem_cons.mp hp with rfl | hp; · exact .tail _ (.head _)
    exact .tail _ (.tail _ (.tail _ hp))) (.tail _ (.tail _ (.head _))) (fun p hp => by
    rcases List.mem_cons.mp hp with rfl | hp; · exact it.1
    rcases List.mem_cons.mp hp with rfl | hp; · exact it.2
    exact en _ hp) ⟨hm, vs, n, rs, rfl, rv⟩
section
variable {prog : Program} {w : World} {A : Around} {E : Value → Shared → Prop} {s : Shared} {env : Env} {h₀ : Heap} {target : Expr} {body orelse : List Stmt} {Q : Flow → Shared → Prop}
theorem list_loop {R D : Addr} {k n₀ n₁ : Nat} {refs : List Value} {es news : List (Addr × Obj)} {m₀ : Str → Option Value} (hh : A.handled = none) (hk : k ≤ 9) (tv : TreeV k refs es) (hes : ∀ p ∈ es, h₀.get? p.1 = some p.2) (F : Fr h₀ env.locals s.heap m₀) (N₀ : News h₀ env.locals s.heap news)
    (hR : (R, W.listOf #[] n₀) ∈ news) (hD : (D, W.listOf (refs.drop 1).toArray n₁) ∈ news)
    (turn : ∀ (I : Addr) (ob : Obj) (i : Nat) (u : Str → Option Value) (vs : List Value) (n : Nat) (rs : List (Addr × Obj)) (h : Heap) (tk : Nat) (e : Addr) (path nm : Str) (mode ab : Int) (t t' t'' : Tok), i < 9 → EsNe I rs → ItIs I ob R D → RowsV i vs rs →
      Txt.split path (Str.ofString "/") ≠ [] → (Txt.split path (Str.ofString "/")).getLast? = some nm → 1 ≤ nm.length → nm.length ≤ 10 → Txt.startswith nm (Str.ofString "/") = false → path.length ≤ 1000 → (PySem.Builtin.bitAnd mode 61440 = 16384 ∨ PySem.Builtin.bitAnd mode 61440 = 32768 ∨ PySem.Builtin.bitAnd mode 61440 = 40960) → PathOk path → 0 ≤ ab → ab ≤ k → (∀ q, PathAt es ab q → JoinOk q nm path) →
      h₀.IsList e [.str path t, .int mode t', .int ab t''].toArray → h.IsList e [.str path t, .int mode t', .int ab t''].toArray →
      Fr h₀ env.locals h (fun z => if listStored.contains z = true then u z else m₀ z) → News h₀ env.locals h ((I, ob) :: (R, W.listOf vs.toArray n) :: (D, W.listOf (refs.drop 1).toArray n₁) :: rs) →
      wpAny (model prog w) A (assign target env (.ref e)) (fun _ s₂ => wpAny (model prog w) A (execs body env) (FvPost h₀ env.locals I ob (ListJ m₀ R D (W.listOf (refs.drop 1).toArray n₁) (i + 1)) { s with heap := h, toks := tk } Q) E s₂) E { s with heap := h, toks := tk })
    (done : ∀ (u : Str → Option Value) (vs : List Value) (n : Nat) (rs : List (Addr × Obj)) (h : Heap) (tk : Nat), RowsV k vs rs → Fr h₀ env.locals h (fun z => if listStored.contains z = true then u z else m₀ z) → News h₀ env.locals h ((R, W.listOf vs.toArray n) :: (D, W.listOf (refs.drop 1).toArray n₁) :: rs) → wpAny (model prog w) A (execs orelse env) Q E { s with heap := h, toks := tk })
    (hE : PassesOwn (model prog w) A env E) :
    wpAny (model prog w) A (pyIter (.ref D)) (fun it s₂ => ForAt prog w A env target body orelse Q E it s₂) E s := by
  have N : News h₀ env.locals s.heap ((R, W.listOf #[] n₀) :: (D, W.listOf (refs.drop 1).toArray n₁) :: []) := by
    intro q hq
    rcases List.mem_cons.mp hq with rfl | hq; · exact N₀ _ hR
    rcases List.mem_cons.mp hq with rfl | hq; · exact N₀ _ hD
    cases hq
  have hlen : (refs.drop 1).length = k := by rw [List.length_drop, tv.len]; lia
  refine for_listG (ListJ m₀ R D (W.listOf (refs.drop 1).toArray n₁)) hh (News.isList N₀ hD) (.inr ⟨W.listOf (refs.drop 1).toArray n₁, fun i m nx hJ => ?_⟩) F N ⟨fun _ _ => rfl, [], n₀, [], rfl, rfl, (fun v hv => nomatch hv), (fun v hv => nomatch hv), (fun p hp => nomatch hp)⟩ ?_ ?_ hE
  · obtain ⟨_, vs, n, rs, rfl, _⟩ := hJ
    exact .tail _ (.head _)
  · rintro I ob i v m₁ nx h tk hne hi hv ⟨hm, vs, n, rs, rfl, rv⟩ F₁ N₁
    rw [map_forget hm] at F₁
    obtain ⟨e, path, mode, ab, t, t', t'', rfl, hL, nm, p1, p2, p3, p4, p5, p6, p7, p8, p9⟩ := ent_turn hk tv hes hv
    exact turn I ob i m₁ vs n rs h tk e path nm mode ab t t' t'' (by lia) (fun p hp => hne p (.tail _ (.tail _ hp))) ⟨hne _ (.head _), hne _ (.tail _ (.head _))⟩ rv (by intro q; rw [q] at p1; cases p1) p1 (by lia) (by lia) p3 p4 p5 p6 p7 p8 p9 hL (hL.at fun o e => F₁.keep _ o e) F₁ N₁
  · rintro m₁ nx h tk ⟨hm, vs, n, rs, rfl, rv⟩ F₁ N₁
    rw [map_forget hm] at F₁
    rw [hlen] at rv
    exact done m₁ vs n rs h tk rv F₁ N₁
end
theorem linesF8_1 : True := by
  k_with "exec For Tuple Subscript cons nil" => ((with_reducible show wpAny _ _ (exec (Stmt.For (Expr.Tuple [Expr.Name (PySem.Str.ofString "path") _, _, _] _ _) _ _ _ _) _) _ _ _); refine exec_ForAt ?_ (by intro _; with_unfolding_all rfl))
  k_with "subscriptTail Name Slice ref ref" => ((with_reducible show wpAny _ _ (subscriptTail _ (PySem.Expr.Slice _ _ none _) (Value.ref _) (Value.ref _)) _ _ _); (with_reducible rename TreeV _ _ _ => tvu60'); (k_dflt (refine' tail_old (by k_asm) (by k_asm) (by assumption) tvu60' (by assumption) (by kmk_part) (by kmk_part) ?_ (by with_unfolding_all rfl) (by kmk_pure)); intro Du60' hu60' Fu60' Nu60' l1; (try k_lt l1); (try k_sweep)))
  k_with "pyIter ref" => ((with_reducible show wpAny _ _ (pyIter (Value.ref _)) (fun it s₂ => ForAt _ _ _ _ (Expr.Tuple [Expr.Name (PySem.Str.ofString "path") _, _, _] _ _) _ _ _ _ it s₂) _ _); (rename Fr _ _ _ _ => lFu61'); (rename News _ _ _ _ => lNu61'); (with_reducible rename TreeV _ _ _ => tvu61'); (k_dflt ((refine' list_loop (R := _) (by exact rfl) (by assumption) tvu61' (by assumption) lFu61' lNu61' (by k_mem) (by k_mem) _ _ (by passes_own))); (all_goals (intros; clear lFu61' lNu61'; (try k_fold)))))
  k_with "mine:pre" => (with_reducible first | assumption | exact ⟨by assumption, by assumption⟩ | exact ⟨by assumption, by assumption, by assumption, by assumption, by assumption⟩)
  k_with "newList" => ((with_reducible show wpAny _ _ (newList _) _ _ _); k_dflt (refine' newList_K (by k_asm) (by k_asm) ?_ (by exact Nat.le_of_ble_eq_true rfl)); intro lu63' hu63' Fu63' Nu63' l1; (try k_lt l1); (try k_sweep))
  k_with "subscriptTail Name Name ref int" => ((with_reducible show wpAny _ _ (subscriptTail _ _ (Value.ref _) (Value.int _ _)) _ _ _); (with_reducible rename TreeV _ _ _ => tvu64'); (k_dflt (refine' ent_old (nm := _) (path := _) (by k_asm) (by with_reducible assumption) (by with_reducible assumption) tvu64' (by with_reducible assumption) (by with_reducible assumption) (by with_reducible assumption) (by with_reducible assumption) ?_; k_whole; intro au64' pu64' tu64' ru64' ilu64' jou64' q1u64' q2u64' q3u64' q4u64' q5u64')))
  k_with "subscriptTail Call Attribute cons nil UnaryOp ref int" => ((with_reducible show wpAny _ _ (subscriptTail _ _ (Value.ref _) (Value.int _ _)) _ _ _); (with_reducible rename StrsAre _ _ => sau65'); (k_dflt (refine' last_strs (by k_asm) (by k_mem) sau65' (by with_reducible assumption) (by exact split_short (by with_reducible assumption)) ?_; k_whole; intro tu65')))
  k_with "call ref" => ((with_reducible show wpAny _ _ (call (Value.ref 191) [Value.str (joinS _ _) _]) _ _ _); k_dflt (refine' Sp.use (sp_normpath _ _ _ _ _ _) (by k_asm) (by k_asm) (by k_asm) (by k_asm) (by k_asm) (by first | exact rfl | assumption) (by ktr_room) (by ktr_units) (by walk_at "mine:pre") ?_); intro v9u66 h9u66 tk9u66 g9u66 F9u66 N9u66 p9u66; obtain ⟨t9u66, p9u66⟩ := p9u66; (rename (normS _ = _) => nqu66'); rw [nqu66'] at p9u66; subst p9u66; (try k_sweep))
  k_with "call ref" => ((with_reducible show wpAny _ _ (call (Value.ref 259) [Value.int _ _]) _ _ _); k_dflt (refine' Sp.use (sp_filemode _ _ _ _ _ _) (by k_asm) (by k_asm) (by k_asm) (by k_asm) (by k_asm) (by first | exact rfl | assumption) (by ktr_room) (by ktr_units) (by with_reducible assumption) ?_); intro v9u67 h9u67 tk9u67 g9u67 F9u67 N9u67 p9u67; obtain ⟨y9u67, t9u67, p9u67, fm9u67⟩ := p9u67; subst p9u67; have fl9u67 := fm_len fm9u67; (try k_sweep))
  k_with "FvEnd" => ((with_reducible show FvEnd _ _ _ _ (ListJ _ _ _ _ _) _ _); (rename Fr _ _ _ _ => eF); (rename News _ _ _ _ => eN); (with_reducible rename RowsV _ _ _ => rvu68'); (with_reducible rename EsNe _ _ => enu68'); (with_reducible rename ItIs _ _ _ _ => itu68'); (k_dflt (refine' row_close eF eN itu68' enu68' rvu68' (by walk_at "mine:keeps"))))
  k_with "call builtin:list.append" => ((with_reducible show wpAny _ _ (call (Value.builtin _) [Value.ref _, Value.ref _]) _ _ _); (with_reducible rename RowsV _ _ _ => rvu69'); (with_reducible rename EsNe _ _ => enu69'); (with_reducible rename ItIs _ _ _ _ => itu69'); (with_reducible rename PathOk _ => pou69'); (with_reducible rename FmS _ _ => fmu69'); (k_dflt (refine' row_append (r := ⟨_, _, _, _, _⟩) (by k_asm) (by k_asm) (by k_mem) (by k_mem) (by k_mem) (by k_mem) (by k_mem) (by (intro p hp; (repeat (first | exact hp | apply List.Mem.tail)))) rvu69' itu69' enu69' (by walk_at "mine:nes") (by walk_at "mine:nes") (by walk_at "mine:nes") (by omega) (by exact row_ok pou69' fmu69' (by assumption)) ?_; k_whole; intro hu69' rsu69' vsu69' Fu69' enu69' Nu69' rvu69''; (try k_sweep))))
  trivial
set_option maxRecDepth 100000 in
set_option maxHeartbeats 8000000 in
theorem sp_listing (w : World) (mean : ExcName → Option Value) (mg mb : Str → Option Value) (a₀ : Addr) (refs : List Value) (es : List (Addr × Obj)) (k : Nat) :
    About PySem.Challenge.rw_rt0094_01 Mine.pre.heap_1_1 (Sp w mean mg mb 285 [Value.ref a₀] 10 (fun h => h.IsList a₀ refs.toArray ∧ TreeV k refs es ∧ (∀ p ∈ es, h.get? p.1 = some p.2) ∧ k ≤ 9) (fun h h' v => ∃ (D : Addr) (vs : List Value) (n : Nat) (rs : List (Addr × Obj)), v = Value.ref D ∧ RowsV k vs rs ∧ ∀ p ∈ (D, W.listOf vs.toArray n) :: rs, h'.get? p.1 = some p.2 ∧ h.get? p.1 = none)) := by
  k_fill; unfold About Sp; intro dp un gd cn cs a ccd cl outer A₀ base h₀ L m s Q E B F X T hk hd hu hp hret
  obtain ⟨hp1, hp2, hp3, hp4⟩ := hp
  walk_at "mine:go"
  all_goals (try dsimp only)
  k_steps
  all_goals (refine sp_ret (s := s) (Q := Q) hret (by k_asm) ?_; exact ⟨_, _, _, _, rfl, by assumption, news_two (by assumption)⟩)

theorem offEnterC : True := by
  w_top off
  trivial
section
variable {w : World} {A A₀ : Around} {s : Shared} {base h₀ : Heap} {outer : List Env} {L : Addr} {m : Str → Option Value} {K : Frag} {prog p : Program} {loose : List Str} {mean : ExcName → Option Value} {mg mb : Str → Option Value}
  {R : Result → Shared → Prop}
/-- into the body of a def with captured names, all that stands at the call being its ground -/
theorem enterC {env : Env} {name qual : Str} {params : Arguments} {body : List Stmt} {scope : Scope} {dV kV doc pm cdv ct oc : Value} {an od : Option Addr} {osl : Array (Option Value)} {f : Addr} {args : Args} {binds : List (Str × Value)}
    (B : Below A₀ base outer h₀) (F : Fr h₀ L s.heap m) (X₀ : K.In h₀) (T : Top p loose mean mg mb h₀) (hA : A.frames = some (env :: outer)) (hf : env.frame = some L) (hke : env.scope.kind = .function)
    (ho : K.lookup f = some ⟨oc, od, .func (fnOf name qual params body scope dV kV doc pm an cdv ct), osl⟩) (hcd : codeIn K cdv qual = true) (hroom : A.depth < recursionLimit)
    (hbind : BindsTo s (fnOf name qual params body scope dV kV doc pm an cdv ct) args binds)
    (hkind : (binds.all fun y => scope.names.lookup y.1 == some .local || scope.names.lookup y.1 == some .cell) = true)
    (hnd : ((cellsFrom 0 scope.names []).map (·.1)).Nodup)
    (h : ∀ L' h₁ tk cells, L' = s.heap.objs.size → let mm : Str → Option Value := bindL (envOfC qual scope L' f cdv).kindOf binds fun _ => none; Fr s.heap L' h₁ mm → News s.heap L' h₁ cells →
      CellsAre (bindC (envOfC qual scope L' f cdv).kindOf binds fun _ => none) (cellsFrom (L' + 1) scope.names []) cells → Below A base (env :: outer) s.heap → K.In s.heap → Top p loose mean mg mb s.heap →
      let gg := s.gens; let dd := s.drawn; let oo := s.os; let EE : Env := envOfC qual scope L' f cdv; let AA : Around := A.deeper EE; wpAny (model prog w) AA (execs body EE)
        (fun fl s' => R (.ok (.ret (match fl with | .ret v => v | _ => .none))) s')
        (fun e s' => wpAny (model prog w) AA (leaving EE e) (fun _ s'' => R (.error e) s'') (fun e' s'' => R (.error e') s'') s')
        ⟨h₁, gg, dd, tk, oo⟩)
    (hco : scope.isCoroutine = false) (hgen : scope.isGenerator = false) (hk : scope.kind = .function) : codeAny (model prog w) A (.call (.ref f) args) R s := by
  have hcode := codeRec_of (X₀.keeps F.keep) hcd
  refine codeAny_call_function (fd := fnOf name qual params body scope dV kV doc pm an cdv ct) (body := body) hroom (F.keep _ _ (X₀ _ _ ho)) rfl hco hgen rfl hcode (hbind _ _ _ _ ?_)
  refine wpAny_newFunctionEnv_cells hk (kindsX hkind _) fun env' he s' x => ?_
  subst he
  refine ⟨(T.nolimit.keeps F.keep).keeps x.toInCall.keep, codeAny_func ?_⟩
  obtain ⟨h₁, tk, rfl, _⟩ := x.done
  have hk₁ := x.toInCall.keep
  obtain ⟨cells, NC, Y⟩ := Cl.news (h₀ := s.heap) (Nat.le_refl _) fun n c hm => ⟨x.cell n c (lookup_of_mem_nodup (cellsFrom_names scope.names 0 (s.heap.objs.size + 1) [] [] rfl ▸ hnd) hm), x.above n c hm⟩
  have B' := pushX B F hf hke
  exact h _ h₁ tk cells rfl ⟨x.toInCall.ns, hk₁, Nat.le_refl _⟩ NC Y ⟨hA, B'.stays, B'.frames⟩ (X₀.keeps F.keep) (T.keeps F.keep)
end

theorem linesEnterC_1 : True := by
  k_with "mine:enterC" => ( (refine' enterC (by k_asm) (by k_asm) (by k_asm) (by k_asm) (by exact rfl) (by exact rfl) (by assumption) (by k_is) (by k_is) (by ktr_room) (by exact BindsTo.of_eq rfl) (by exact rfl) (by decide +kernel) ?_ (by exact rfl) (by exact rfl) (by exact rfl)); k_whole; intro Lu70' hu70' tku70' cellsu70' hLu70' mmu70' Fu70' Nu70' Yu70' Bu70' Xu70' Tu70' ggu70' ddu70' oou70' EEu70' AAu70'; k_cells Yu70'; (try simp only [List.cons_append, List.nil_append] at Nu70'); (try dsimp only); (try k_fold))
  k_with "mine:goC" => ( refine wpAny_call ?_; k_dflt walk_at "mine:enterC"; k_steps)
  trivial
theorem offWhileGen : True := by
  w_top off
  trivial
/-- what a turn of a while leaves -/
def WvEnd (h₀ : Heap) (L : Addr) (J : (Str → Option Value) → List (Addr × Obj) → Prop) (s₁ s₂ : Shared) : Prop :=
  ∃ h' tk m' nx, s₂ = { s₁ with heap := h', toks := tk } ∧ Fr h₀ L h' m' ∧ News h₀ L h' nx ∧ J m' nx
def WvPost (h₀ : Heap) (L : Addr) (J : (Str → Option Value) → List (Addr × Obj) → Prop) (s₁ : Shared) (Q : Flow → Shared → Prop) (f : Flow) (s₂ : Shared) : Prop :=
  match f with
  | .ret v => Q (.ret v) s₂
  | .brk => Q .next s₂
  | _ => WvEnd h₀ L J s₁ s₂
theorem wv_end {h₀ h' : Heap} {L : Addr} {J : (Str → Option Value) → List (Addr × Obj) → Prop} {s₁ : Shared} {tk : Nat} {m' : Str → Option Value} {news' : List (Addr × Obj)} (nx : List (Addr × Obj))
    (F : Fr h₀ L h' m') (N : News h₀ L h' news') (hn : ∀ p ∈ nx, p ∈ news') (hj : J m' nx) : WvEnd h₀ L J s₁ { s₁ with heap := h', toks := tk } :=
  ⟨h', tk, m', nx, rfl, F, fun p hp => N p (hn p hp), hj⟩
theorem linesWhileGen_1 : True := by
  k_with "WvPost" => (dsimp only [WvPost])
  trivial
section
variable {prog : Program} {w : World} {A : Around} {E : Value → Shared → Prop} {Q : Flow → Shared → Prop} {s : Shared} {env : Env} {h₀ : Heap} {L : Addr}
theorem while_gen {test : Expr} {body : List Stmt} {pos : Pos} {m : Str → Option Value} {news : List (Addr × Obj)} (J : Nat → (Str → Option Value) → List (Addr × Obj) → Prop) {n₀ : Nat}
    (F : Fr h₀ L s.heap m) (N : News h₀ L s.heap news) (hJ : J n₀ m news)
    (turn : ∀ n m₁ nx h₁ tk₁, J n m₁ nx → Fr h₀ L h₁ m₁ → News h₀ L h₁ nx →
      wpAny (model prog w) A (isTrue test env (eval test env)) (fun b s₂ =>
        if b = true then wpAny (model prog w) A (execs body env) (WvPost h₀ L (fun m' nx' => ∃ n', n' < n ∧ J n' m' nx') { s with heap := h₁, toks := tk₁ } Q) E s₂ else Q .next s₂) E { s with heap := h₁, toks := tk₁ })
    (hE : PassesOwn (model prog w) A env E) :
    wpAny (model prog w) A (exec (.While test body [] pos) env) Q E s := by
  refine wpAny_While (codeAny_whileLoop (fun n s' => ∃ h₁ tk₁ m₁ news₁, s' = { s with heap := h₁, toks := tk₁ } ∧ Fr h₀ L h₁ m₁ ∧ News h₀ L h₁ news₁ ∧ J n m₁ news₁) ?_ n₀ ⟨s.heap, s.toks, m, news, rfl, F, N, hJ⟩)
  rintro n s' ⟨h₁, tk₁, m₁, news₁, rfl, F₁, N₁, J₁⟩
  refine wpAny_mono (turn n m₁ news₁ h₁ tk₁ J₁ F₁ N₁) (fun b s₂ h₂ => ?_) hE
  cases b with
  | false =>
    simp only [Bool.false_eq_true, if_false] at h₂ ⊢
    exact wpAny_execs_nil h₂
  | true =>
    simp only [if_true] at h₂ ⊢
    refine wpAny_mono h₂ (fun f s₃ h₃ => ?_) hE
    cases f with
    | ret v => exact h₃
    | brk => exact h₃
    | next => obtain ⟨h', tk, m₂, nx, rfl, F₂, N₂, n', hn, J₂⟩ := h₃; exact ⟨n', hn, h', tk, m₂, nx, rfl, F₂, N₂, J₂⟩
    | cont => obtain ⟨h', tk, m₂, nx, rfl, F₂, N₂, n', hn, J₂⟩ := h₃; exact ⟨n', hn, h', tk, m₂, nx, rfl, F₂, N₂, J₂⟩
end

theorem offCompF : True := by
  w_top off
  trivial
/-- an element of a comprehension that is taken, one that is passed over -/
def CeYes (b : Bool) (y : Int) (s₁ : Shared) (z : Value) (s₂ : Shared) : Prop := b = true ∧ (∃ t', z = .int y t') ∧ ∃ h' tk', s₂ = { s₁ with heap := h', toks := tk' } ∧ Grew s₁.heap h'
def CeNo (b : Bool) (s₁ s₂ : Shared) : Prop := b = false ∧ ∃ h' tk', s₂ = { s₁ with heap := h', toks := tk' } ∧ Grew s₁.heap h'
section
variable {prog : Program} {w : World} {A : Around} {E : Value → Shared → Prop} {s : Shared} {h₀ : Heap} {L : Addr} {m : Str → Option Value} {env : Env}
theorem rest_filter {ct elt : Expr} {x : Str} {scope : Scope} {cl : List (Str × Addr)} {S : List (Addr × Obj) → Prop} {vs : List Value} {ps : List Int} {Fin : List Value → List (Addr × Obj) → Prop} {news : List (Addr × Obj)}
    (f : Int → Bool) (g : Int → Int) (Pp : Int → Prop) (hv : IntsAre vs ps) (hP : ∀ p ∈ ps, Pp p) (hS : S news)
    (turn : ∀ I oI C oC D m₂ h tk (E' : Value → Shared → Prop) p t ys, Pp p → LCg.NsObj oC m₂ → m₂ x = some (.int p t) → Fr h₀ L h m → News h₀ L h ((I, oI) :: (C, oC) :: (D, LCg.lst ys) :: news) →
      wpAny (model prog w) A (isTrue ct (compEnvC scope cl C env) (eval ct (compEnvC scope cl C env))) (fun ok s' => if ok = true then
        wpAny (model prog w) A (eval elt (compEnvC scope cl C env)) (CeYes (f p) (g p) { s with heap := h, toks := tk }) E' s' else CeNo (f p) { s with heap := h, toks := tk } s') E' { s with heap := h, toks := tk })
    (fin : ∀ ys, IntsAre ys ((ps.filter f).map g) → Fin ys news) :
    LCt.CompRestT prog w A h₀ L m env ct elt x scope cl s S (fun i v => vs.toArray[i]? = some v) Fin vs.toArray.size 0 [] news := by
  have key : ∀ k i ys, i + k = vs.length → IntsAre ys (((ps.take i).filter f).map g) → LCt.CompRestT prog w A h₀ L m env ct elt x scope cl s S (fun i v => vs.toArray[i]? = some v) Fin k i ys news := by
    intro k
    induction k with
    | zero =>
      intro i ys hi hy
      have : ps.take i = ps := List.take_of_length_le (by rw [← ints_len hv]; lia)
      rw [this] at hy
      exact LCt.CompRestT.zero (fin ys hy)
    | succ k ih =>
      intro i ys hi hy
      refine LCt.CompRestT.succ fun v I oI C oC D m₂ h tk E' hv' hC hx F N off ne => ?_
      obtain ⟨p, t, e1, e2⟩ := ints_get hv (i := i) (by lia)
      have e3 : vs[i]? = some v := by simpa using hv'
      rw [e1] at e3; cases e3
      have take1 : ps.take (i + 1) = ps.take i ++ [p] := take_next e2
      refine wpAny_mono (turn I oI C oC D m₂ h tk E' p t ys (hP p (List.mem_of_getElem? e2)) hC hx F N) (fun ok s' h1 => ?_) fun _ _ e => e
      cases ok with
      | true =>
        simp only [if_true] at h1 ⊢
        refine wpAny_mono h1 (fun z s'' hz => ?_) fun _ _ e => e
        obtain ⟨hf, ⟨t', rfl⟩, h', tk', rfl, gr⟩ := hz
        refine ⟨h', tk', news, rfl, frGrew F gr, newsGrew N gr, off, hS, ih (i + 1) _ (by lia) ?_⟩
        rw [take1, List.filter_append, List.map_append]
        have : ([p].filter f).map g = [g p] := by simp [hf]
        rw [this]
        exact ints_add hy
      | false =>
        simp only [Bool.false_eq_true, if_false] at h1 ⊢
        obtain ⟨hf, h', tk', rfl, gr⟩ := h1
        refine ⟨h', tk', news, rfl, frGrew F gr, newsGrew N gr, off, hS, ih (i + 1) _ (by lia) ?_⟩
        rw [take1, List.filter_append, List.map_append]
        have : ([p].filter f).map g = [] := by simp [hf]
        rw [this, List.append_nil]
        exact hy
  exact key _ 0 [] (by simp) (by simpa using IntsAre.nil)
end
def rngI (a b : Int) : List Int := rangeInts a 1 (b - a).toNat
theorem ints_of_carried : ∀ {vs : List Value} {ns : List Int}, CarriedAll vs (ns.map PyData.int) → IntsAre vs ns := fun h => by simpa using CarriedAll.intsOf h
section
variable {prog : Program} {w : World} {A : Around} {E : Value → Shared → Prop} {s : Shared} {h₀ : Heap} {L : Addr} {m : Str → Option Value}
theorem list_rangeK {r : Addr} {a b : Int} {t u v : Tok} {news : List (Addr × Obj)} {Q : Value → Shared → Prop} (hh : A.handled = none) (F : Fr h₀ L s.heap m) (N : News h₀ L s.heap news)
    (hr : IsRange s.heap r a b 1 t u v) (h0 : 0 ≤ a) (h1 : a ≤ 2000) (h2 : 0 ≤ b) (h3 : b ≤ 2000)
    (h : ∀ D h' tk (ys : List Value) n, Fr h₀ L h' m → News h₀ L h' ((D, W.listOf ys.toArray n) :: news) → (∀ p ∈ news, p.1 < D) → IntsAre ys (rngI a b) → Q (.ref D) { s with heap := h', toks := tk }) :
    wpAny (model prog w) A (call (.type "list") [.ref r]) Q E s := by
  have hsm : Builtin.Range.small a b 1 = true := small_one (by lia) (by lia) (by lia) (by lia)
  have hsz : Builtin.Range.rangeSize a b 1 = (((b - a).toNat : Nat) : Int) := by
    rw [rangeSize_one]; split <;> lia
  refine list_rangeD hh F N hr hsm hsz (by have : (2:Nat) ^ 24 = 16777216 := by decide
                                           lia) fun h' tk ys F' N' hk hD hl np hc => ?_
  obtain ⟨⟨c, hp⟩, hne⟩ := np
  refine h _ h' tk ys c F' (fun p hp' => ?_) (fun p hp' => Heap.lt_size (N p hp').1) (ints_of_carried hc)
  rcases List.mem_cons.mp hp' with rfl | hp'
  · exact ⟨hp, Nat.ne_of_gt F.ns.lt, hD⟩
  · exact N' p hp'
theorem ne_nilK {a b : Addr} {vs : List Value} {ns : List Int} {Q : Value → Shared → Prop} (hl : s.heap.IsList a vs.toArray) (hi : IntsAre vs ns) (hl' : s.heap.IsList b #[]) (hu : A.units + 64 < cLine)
    (h : Q (.bool (decide (0 < ns.length))) s) : wpAny (model prog w) A (compareOp .NotEq (.ref a) (.ref b)) Q E s := by
  refine ne_intsK (us := []) (ms := []) hl hi hl' .nil hu ?_
  have : (!decide (ns = [])) = decide (0 < ns.length) := by cases ns <;> simp
  rw [this]; exact h
theorem item0K {value slice : Expr} {l : Addr} {vs : List Value} {ns : List Int} {u : Tok} {Q : Value → Shared → Prop} (hl : s.heap.IsList l vs.toArray) (hi : IntsAre vs ns)
    (h1 : 0 < ns.length) (h : ∀ t, Q (.int (ns.getD 0 0) t) s)
    (hs : subscripted slice false (.ref l) (.int 0 u) = operate [.ref l, .int 0 u] (getItem (.ref l) (.int 0 u)) := by with_unfolding_all rfl) :
    wpAny (model prog w) A (subscriptTail value slice (.ref l) (.int 0 u)) Q E s :=
  item_anyK hl hi (by lia) (by lia) (by decide) h hs
theorem pick01 {l : List Value} : kms_pick l.toArray.toList none (some 1) = l.take 1 := by
  have e : kms_hi (some 1) l.length = min 1 l.length := rfl
  show (l.drop 0).take (kms_hi (some 1) l.length - 0) = _
  rw [e, List.drop_zero, Nat.sub_zero]
  cases l with
  | nil => rfl
  | cons a r => simp
theorem ints_take : ∀ {vs : List Value} {ns : List Int} (n : Nat), IntsAre vs ns → IntsAre (vs.take n) (ns.take n)
  | _, _, _, .nil => by simpa using IntsAre.nil
  | _, _, 0, .cons _ _ _ => by simpa using IntsAre.nil
  | _, _, n + 1, .cons y t h => by simpa using IntsAre.cons y t (ints_take n h)
theorem take_one {value slice : Expr} {l : Addr} {n : Nat} {vs : List Value} {ns : List Int} {vl vu : Value} {news : List (Addr × Obj)} {Q : Value → Shared → Prop} (F : Fr h₀ L s.heap m) (N : News h₀ L s.heap news) (hm : (l, W.listOf vs.toArray n) ∈ news) (hv : IntsAre vs ns) (hl : ns.length ≤ 2000) (pl : IsPart vl none) (pu : IsPart vu (some 1))
    (h : ∀ D h' (ys : List Value), Fr h₀ L h' m → News h₀ L h' ((D, W.listOf ys.toArray 0) :: news) → (∀ p ∈ news, p.1 < D) → IntsAre ys (ns.take 1) → Q (.ref D) { s with heap := h' })
    (hs : subscripted slice false (.ref l) (.ref s.heap.objs.size) = operate [.ref s.heap.objs.size, .ref l] (getItem (.ref l) (.ref s.heap.objs.size))) (ht : ∀ r, letTemporaryGo value (.ref l) r = pure ()) :
    wpAny (model prog w) A (subscriptTail value slice (.ref l) (.ref s.heap.objs.size)) Q E { s with heap := s.heap.push { cls := .type "slice", data := .fields #[vl, vu, .none] } } :=
  kms_slice_lit F N (News.isList N hm) pl pu pick01 (fun D h' F' N' l1 => h D h' _ F' N' l1 (ints_take 1 hv)) hs ht (by rw [List.size_toArray, ints_len hv, sizeLine_eq]; lia)
end

theorem offAndJ : True := by
  w_top off
  trivial
/-- the first half of «A and deep == c» is known; the second is read off the frame -/
def AndEnd (L : Addr) (y : Str) (c0 : Int) (Q : Bool → Shared → Prop) (b : Bool) (s' : Shared) : Prop :=
  ∃ h₀ m d td, Fr h₀ L s'.heap m ∧ m y = some (.int d td) ∧ (b = true → d = c0 → ∀ tk, Q true { s' with toks := tk }) ∧ (¬ (b = true ∧ d = c0) → ∀ tk, Q false { s' with toks := tk })
section
variable {prog : Program} {w : World} {A : Around} {E : Value → Shared → Prop} {s : Shared} {L : Addr} {env : Env}
theorem and_deep {x : Expr} {y : Str} {c0 : Int} {kk : Nat} {p1 p2 p3 pos : Pos} {whole : Sem Value} {Q : Bool → Shared → Prop}
    (h : wpAny (model prog w) A (isTrue x env (eval x env)) (AndEnd L y c0 Q) E s)
    (hL : env.locals = L) (hk : env.scope.kind = .function) (hx : env.kindOf y = some .local) (hd : (y == ("__debug__" : Str)) = false) :
    wpAny (model prog w) A (isTrue (.BoolOp .And [x, .Compare (.Name y p1) [.Eq] [.Constant (.int c0) kk p2] p3] pos) env whole) Q E s := by
  refine isTrue_and (wpAny_mono h (fun b s' hb => ?_) fun _ _ e => e)
  obtain ⟨h₀, m, d, td, F, hm, h1, h2⟩ := hb
  cases b with
  | false =>
    simp only [Bool.false_eq_true, if_false]
    have := h2 (by simp) s'.toks
    exact this
  | true =>
    simp only [if_true]
    refine isTrue_and (wpAny_isTrue_Compare1 ?_)
    refine wpAny_Name (wpAny_loadName_local hk hx (by rw [hL]; exact F.ns) hm ?_) hd
    refine wpAny_Constant_int ?_
    refine PyProof.Rows.eq_int ?_
    refine wpAny_truthy_bool ?_
    by_cases hdc : d = c0
    · have : (d == c0) = true := by simp [hdc]
      rw [this]
      simp only [if_true]
      refine isTrue_and_nil ?_
      exact h1 rfl hdc _
    · have : (d == c0) = false := by simp [hdc]
      rw [this]
      simp only [Bool.false_eq_true, if_false]
      exact h2 (fun q => hdc q.2) _
end

theorem linesAndJ_1 : True := by
  k_with "isTrue BoolOp" => ((with_reducible show wpAny _ _ (PySem.isTrue (Expr.BoolOp BoolOp.And [_, Expr.Compare (Expr.Name (PySem.Str.ofString "deep") _) [CmpOp.Eq] [Expr.Constant (Const.int _) _ _] _] _) _ _) _ _ _); k_dflt (refine' and_deep ?_ (by exact rfl) (by exact rfl) (by exact rfl) (by decide)))
  k_with "AndEnd" => ((with_reducible show AndEnd _ _ _ _ _ _); k_dflt (refine' ⟨_, _, _, _, (by k_asm), (by exact rfl), ?_, ?_⟩); (all_goals (intros; (try k_sweep))))
  trivial
theorem offTakesF : True := by
  w_top off
  trivial
def PsOk (y : Str) (ps : List Int) : Prop := ps.length ≤ 1002 ∧ ∀ p ∈ ps, 0 ≤ p ∧ p ≤ (y.length : Int)
structure TkS where
  k : Int
  d : Int
  ps : List Int
def tkSign (i y : Str) (k st p : Int) : Bool := decide (p < (y.length : Int)) && (Txt.item i k == Str.ofString "." || Txt.item y p == Txt.item i (k + st - 1))
def tkStep (i y : Str) (a : TkS) : Option TkS :=
  if (Txt.slice i (some a.k) (some (a.k + 6)) == Str.ofString "(?>.*?") = true ∧ a.d = 0 then some ⟨a.k + 6, 1, rngI (a.ps.getD 0 0) ((y.length : Int) + 1)⟩
  else if (Txt.item i a.k == Str.ofString ")") = true ∧ a.d = 1 then some ⟨a.k + 1, 0, a.ps.take 1⟩
  else if (Txt.item i a.k ++ Txt.slice i (some (a.k + 1)) (some (a.k + 2)) == Str.ofString ".*") = true ∧ a.d = 0 then some ⟨a.k + 2, 2, rngI (a.ps.getD 0 0) ((y.length : Int) + 1)⟩
  else if (Builtin.Str.occurrences (Str.ofString "()[]{}?*+|^$") (Txt.item i a.k) 0 (Str.ofString "()[]{}?*+|^$").length 1).isEmpty = false then none
  else if (Txt.item i a.k == Str.ofString "\\") = true then
    (if (Txt.slice i (some (a.k + 1)) (some (a.k + 2)) == Str.ofString "") = true then none
     else if Txt.isalnum (Txt.slice i (some (a.k + 1)) (some (a.k + 2))) = true then none
     else some ⟨a.k + 2, a.d, (a.ps.filter (tkSign i y a.k 2)).map (fun x => x + 1)⟩)
  else some ⟨a.k + 1, a.d, (a.ps.filter (tkSign i y a.k 1)).map (fun x => x + 1)⟩
section
variable {i y : Str} {k d : Int} {ps : List Int}
theorem tk1 (h1 : (Txt.slice i (some k) (some (k + 6)) == Str.ofString "(?>.*?") = true) (h2 : d = 0) : tkStep i y ⟨k, d, ps⟩ = some ⟨k + 6, 1, rngI (ps.getD 0 0) ((y.length : Int) + 1)⟩ := by
  unfold tkStep; rw [if_pos ⟨h1, h2⟩]
theorem tk2 (h0 : ¬((Txt.slice i (some k) (some (k + 6)) == Str.ofString "(?>.*?") = true ∧ d = 0)) (h1 : (Txt.item i k == Str.ofString ")") = true) (h2 : d = 1) : tkStep i y ⟨k, d, ps⟩ = some ⟨k + 1, 0, ps.take 1⟩ := by
  unfold tkStep; rw [if_neg h0, if_pos ⟨h1, h2⟩]
theorem tk3 (h0 : ¬((Txt.slice i (some k) (some (k + 6)) == Str.ofString "(?>.*?") = true ∧ d = 0)) (h1 : ¬((Txt.item i k == Str.ofString ")") = true ∧ d = 1))
    (h2 : (Txt.item i k ++ Txt.slice i (some (k + 1)) (some (k + 2)) == Str.ofString ".*") = true) (h3 : d = 0) : tkStep i y ⟨k, d, ps⟩ = some ⟨k + 2, 2, rngI (ps.getD 0 0) ((y.length : Int) + 1)⟩ := by
  unfold tkStep; rw [if_neg h0, if_neg h1, if_pos ⟨h2, h3⟩]
variable (h0 : ¬((Txt.slice i (some k) (some (k + 6)) == Str.ofString "(?>.*?") = true ∧ d = 0)) (h1 : ¬((Txt.item i k == Str.ofString ")") = true ∧ d = 1)) (h2 : ¬((Txt.item i k ++ Txt.slice i (some (k + 1)) (some (k + 2)) == Str.ofString ".*") = true ∧ d = 0))
include h0 h1 h2
theorem tk4 (h3 : (Builtin.Str.occurrences (Str.ofString "()[]{}?*+|^$") (Txt.item i k) 0 (Str.ofString "()[]{}?*+|^$").length 1).isEmpty = false) : tkStep i y ⟨k, d, ps⟩ = none := by
  unfold tkStep; rw [if_neg h0, if_neg h1, if_neg h2, if_pos h3]
variable (h3 : (Builtin.Str.occurrences (Str.ofString "()[]{}?*+|^$") (Txt.item i k) 0 (Str.ofString "()[]{}?*+|^$").length 1).isEmpty = true)
include h3
theorem tk5 (h4 : (Txt.item i k == Str.ofString "\\") = true) (h5 : (Txt.slice i (some (k + 1)) (some (k + 2)) == Str.ofString "") = true) : tkStep i y ⟨k, d, ps⟩ = none := by
  unfold tkStep; rw [if_neg h0, if_neg h1, if_neg h2, if_neg (by rw [h3]; decide), if_pos h4, if_pos h5]
theorem tk6 (h4 : (Txt.item i k == Str.ofString "\\") = true) (h5 : (Txt.slice i (some (k + 1)) (some (k + 2)) == Str.ofString "") = false) (h6 : Txt.isalnum (Txt.slice i (some (k + 1)) (some (k + 2))) = true) : tkStep i y ⟨k, d, ps⟩ = none := by
  unfold tkStep; rw [if_neg h0, if_neg h1, if_neg h2, if_neg (by rw [h3]; decide), if_pos h4, if_neg (by rw [h5]; decide), if_pos h6]
theorem tk7 (h4 : (Txt.item i k == Str.ofString "\\") = true) (h5 : (Txt.slice i (some (k + 1)) (some (k + 2)) == Str.ofString "") = false) (h6 : Txt.isalnum (Txt.slice i (some (k + 1)) (some (k + 2))) = false) :
    tkStep i y ⟨k, d, ps⟩ = some ⟨k + 2, d, (ps.filter (tkSign i y k 2)).map (fun x => x + 1)⟩ := by
  unfold tkStep; rw [if_neg h0, if_neg h1, if_neg h2, if_neg (by rw [h3]; decide), if_pos h4, if_neg (by rw [h5]; decide), if_neg (by rw [h6]; decide)]
theorem tk8 (h4 : (Txt.item i k == Str.ofString "\\") = false) : tkStep i y ⟨k, d, ps⟩ = some ⟨k + 1, d, (ps.filter (tkSign i y k 1)).map (fun x => x + 1)⟩ := by
  unfold tkStep; rw [if_neg h0, if_neg h1, if_neg h2, if_neg (by rw [h3]; decide), if_neg (by rw [h4]; decide)]
end
def tkFin (y : Str) (a : TkS) : Bool := (a.d != 1) && a.ps.any fun x => x == (y.length : Int)
def tkRun (i y : Str) : Nat → TkS → Bool
  | 0, a => tkFin y a
  | f + 1, a => if a.k < (i.length : Int) ∧ 0 < a.ps.length then (tkStep i y a).elim false (fun b => tkRun i y f b) else tkFin y a
def tkRes (i y : Str) : Bool := tkRun i y i.length ⟨0, 0, [0]⟩
def takesF (x y : Str) : Bool := if (x != Str.ofString "(?s:" ++ Txt.slice x (some 4) (some (-3)) ++ Str.ofString ")\\Z") = true then false else tkRes (Txt.slice x (some 4) (some (-3))) y
def TkGo (i y : Str) (a : TkS) : Prop := ∃ f : Nat, (i.length : Int) - a.k ≤ f ∧ tkRun i y f a = tkRes i y
theorem tkRun_zero (i y : Str) (a : TkS) : tkRun i y 0 a = tkFin y a := rfl
theorem tkRun_succ (i y : Str) (f : Nat) (a : TkS) : tkRun i y (f + 1) a = if a.k < (i.length : Int) ∧ 0 < a.ps.length then (tkStep i y a).elim false (fun b => tkRun i y f b) else tkFin y a := rfl
theorem go_start (i y : Str) : TkGo i y ⟨0, 0, [0]⟩ := ⟨i.length, by simp, rfl⟩
section
variable {i y : Str} {k d k' d' : Int} {ps ps' : List Int}
theorem go_turn (hg : TkGo i y ⟨k, d, ps⟩) (hk : k < (i.length : Int)) (hp : 0 < ps.length) (e : tkStep i y ⟨k, d, ps⟩ = some ⟨k', d', ps'⟩) (hlt : k < k') : TkGo i y ⟨k', d', ps'⟩ := by
  obtain ⟨f, hf, hr⟩ := hg
  have hf' : (i.length : Int) - k ≤ (f : Int) := hf
  obtain ⟨f', rfl⟩ : ∃ f', f = f' + 1 := ⟨f - 1, by lia⟩
  rw [tkRun_succ, if_pos ⟨hk, hp⟩, e, Option.elim_some] at hr
  exact ⟨f', show (i.length : Int) - k' ≤ (f' : Int) by lia, hr⟩
theorem go_bad (hg : TkGo i y ⟨k, d, ps⟩) (hk : k < (i.length : Int)) (hp : 0 < ps.length) (e : tkStep i y ⟨k, d, ps⟩ = none) : tkRes i y = false := by
  obtain ⟨f, hf, hr⟩ := hg
  have hf' : (i.length : Int) - k ≤ (f : Int) := hf
  obtain ⟨f', rfl⟩ : ∃ f', f = f' + 1 := ⟨f - 1, by lia⟩
  rw [tkRun_succ, if_pos ⟨hk, hp⟩, e, Option.elim_none] at hr
  exact hr.symm
theorem go_fin (hg : TkGo i y ⟨k, d, ps⟩) (h : ¬ (k < (i.length : Int) ∧ 0 < ps.length)) : tkRes i y = tkFin y ⟨k, d, ps⟩ := by
  obtain ⟨f, hf, hr⟩ := hg
  rw [← hr]
  cases f with
  | zero => exact tkRun_zero _ _ _
  | succ f => rw [tkRun_succ, if_neg h]
variable {x : Str}
theorem takes_no (h : (x != Str.ofString "(?s:" ++ Txt.slice x (some 4) (some (-3)) ++ Str.ofString ")\\Z") = true) : false = takesF x y := by unfold takesF; rw [if_pos h]
theorem takes_yes (h : (x != Str.ofString "(?s:" ++ Txt.slice x (some 4) (some (-3)) ++ Str.ofString ")\\Z") = false) {b : Bool} (e : tkRes (Txt.slice x (some 4) (some (-3))) y = b) : b = takesF x y := by unfold takesF; rw [if_neg (by rw [h]; decide), e]
theorem fin_any (hd : d ≠ 1) : tkFin y ⟨k, d, ps⟩ = ps.any fun x => x == (y.length : Int) := by
  unfold tkFin
  have : (d != 1) = true := by simpa using hd
  rw [this]; rfl
theorem fin_one (hd : d = 1) : tkFin y ⟨k, d, ps⟩ = (d != 1) := by
  unfold tkFin
  have : (d != 1) = false := by simpa using hd
  rw [this]; rfl
theorem not_k (h : ¬ k < (i.length : Int)) : ¬ (k < (i.length : Int) ∧ 0 < ps.length) := fun q => h q.1
theorem not_p (h : ¬ 0 < ps.length) : ¬ (k < (i.length : Int) ∧ 0 < ps.length) := fun q => h q.2
end
theorem mem_rngI {a b p : Int} (h : p ∈ rngI a b) : a ≤ p ∧ p < b := by
  have := mem_rangeInts h
  lia
theorem rngI_len (a b : Int) : (rngI a b).length = (b - a).toNat := rangeInts_length _ _ _
theorem PsOk.get {y : Str} {ps : List Int} (h : PsOk y ps) (h0 : 0 < ps.length) : 0 ≤ ps.getD 0 0 ∧ ps.getD 0 0 ≤ (y.length : Int) := by
  cases ps with
  | nil => exact absurd h0 (by decide)
  | cons a r => exact h.2 a (.head _)
theorem psok_rng {y : Str} {ps : List Int} (h : PsOk y ps) (h0 : 0 < ps.length) (hy : y.length ≤ 1000) : PsOk y (rngI (ps.getD 0 0) ((y.length : Int) + 1)) := by
  have := h.get h0
  refine ⟨by rw [rngI_len]; lia, fun p hp => ?_⟩
  have := mem_rngI hp
  lia
theorem psok_take {y : Str} {ps : List Int} (h : PsOk y ps) : PsOk y (ps.take 1) :=
  ⟨Nat.le_trans (by rw [List.length_take]; exact Nat.min_le_right _ _) h.1, fun p hp => h.2 p (List.mem_of_mem_take hp)⟩
theorem psok_sign {i y : Str} {k st : Int} {ps : List Int} (h : PsOk y ps) : PsOk y ((ps.filter (tkSign i y k st)).map (fun x => x + 1)) := by
  refine ⟨Nat.le_trans (by rw [List.length_map]; exact List.length_filter_le _ _) h.1, fun p hp => ?_⟩
  obtain ⟨q, hq, rfl⟩ := List.mem_map.mp hp
  obtain ⟨hq, hs⟩ := List.mem_filter.mp hq
  have := h.2 q hq
  unfold tkSign at hs
  simp at hs
  lia
section
variable {i y : Str} {k st p : Int}
theorem sg1 (h : p < (y.length : Int)) (h1 : (Txt.item i k == Str.ofString ".") = true) : tkSign i y k st p = true := by unfold tkSign; rw [h1]; simp [h]
theorem sg2 (h : p < (y.length : Int)) (h2 : (Txt.item y p == Txt.item i (k + st - 1)) = true) : tkSign i y k st p = true := by unfold tkSign; rw [h2]; simp [h]
theorem sg3 (h1 : (Txt.item i k == Str.ofString ".") = false) (h2 : (Txt.item y p == Txt.item i (k + st - 1)) = false) : tkSign i y k st p = false := by unfold tkSign; rw [h1, h2]; simp
theorem sg4 (h : ¬ p < (y.length : Int)) : tkSign i y k st p = false := by unfold tkSign; simp [h]
end
theorem ce_yes {b : Bool} {y z : Int} {t' : Tok} {s₁ : Shared} {tk : Nat} (h : b = true) : CeYes b y s₁ (.int y t') { s₁ with heap := s₁.heap, toks := tk } := ⟨h, ⟨t', rfl⟩, _, tk, rfl, Grew.refl _⟩
theorem ce_no {b : Bool} {s₁ : Shared} {tk : Nat} (h : b = false) : CeNo b s₁ { s₁ with heap := s₁.heap, toks := tk } := ⟨h, _, tk, rfl, Grew.refl _⟩

theorem offF9 : True := by
  w_top off
  trivial
def TakesI (go : TkS → Prop) (m₀ : Str → Option Value) (inner y : Str) (L : Addr) (n : Nat) (m : Str → Option Value) (nx : List (Addr × Obj)) : Prop :=
  ∃ (a : TkS) (u : Str → Option Value) (P : Addr) (np : Nat) (vs : List Value) (td tk ti tw : Tok) (oS oK oI oW : Obj) (vS : Option Value),
    (m = fun z => if z = Str.ofString "deep" then some (.int a.d td) else if z = Str.ofString "places" then some (.ref P) else if z = Str.ofString "behind" then u z else m₀ z) ∧
    nx = [(P, W.listOf vs.toArray np), (L + 1 + 1 + 1 + 1, oS), (L + 1 + 1 + 1, oK), (L + 1 + 1, oI), (L + 1, oW)] ∧ (@Ne Nat P (L + 1 + 1 + 1 + 1) ∧ @Ne Nat P (L + 1 + 1 + 1) ∧ @Ne Nat P (L + 1 + 1) ∧ @Ne Nat P (L + 1)) ∧
    oS.data = .cell vS ∧ oK.data = .cell (some (.int a.k tk)) ∧ oI.data = .cell (some (.str inner ti)) ∧ oW.data = .cell (some (.str y tw)) ∧
    IntsAre vs a.ps ∧ PsOk y a.ps ∧ 0 ≤ a.k ∧ a.k ≤ 1100 ∧ n = (inner.length - a.k).toNat ∧ go a
section
variable {prog : Program} {w : World} {A : Around} {E : Value → Shared → Prop} {Q : Flow → Shared → Prop} {s : Shared} {env : Env} {h₀ : Heap} {L : Addr}
theorem takes_loop {test : Expr} {body : List Stmt} {pos : Pos} {m₀ : Str → Option Value} {news : List (Addr × Obj)} {inner y : Str} {t₀ td tk ti tw : Tok} {P : Addr} {np : Nat} {vS : Option Value} {oS oK oI oW : Obj}
    (F : Fr h₀ L s.heap m₀) (N : News h₀ L s.heap news) (hm : ∀ p ∈ [(P, W.listOf #[.int 0 t₀] np), (L + 1 + 1 + 1 + 1, oS), (L + 1 + 1 + 1, oK), (L + 1 + 1, oI), (L + 1, oW)], p ∈ news)
    (hd : m₀ (Str.ofString "deep") = some (.int 0 td)) (hp : m₀ (Str.ofString "places") = some (.ref P)) (dS : oS.data = .cell vS) (dK : oK.data = .cell (some (.int 0 tk))) (dI : oI.data = .cell (some (.str inner ti))) (dW : oW.data = .cell (some (.str y tw)))
    (hP : @LT.lt Nat _ (L + 1 + 1 + 1 + 1) P) (hi : inner.length ≤ 1000) 
    (turn : ∀ (k d : Int) (ps : List Int) (vs : List Value) (u : Str → Option Value) (P : Addr) (np : Nat) (td tk ti tw : Tok) (oS oK oI oW : Obj) (vS : Option Value) (h₁ : Heap) (tk₁ : Nat),
      (@Ne Nat P (L + 1 + 1 + 1 + 1) ∧ @Ne Nat P (L + 1 + 1 + 1) ∧ @Ne Nat P (L + 1 + 1) ∧ @Ne Nat P (L + 1)) → oS.data = .cell vS → oK.data = .cell (some (.int k tk)) → oI.data = .cell (some (.str inner ti)) → oW.data = .cell (some (.str y tw)) → IntsAre vs ps → PsOk y ps → 0 ≤ k → k ≤ 1100 → inner.length ≤ 1000 → TkGo inner y ⟨k, d, ps⟩ →
      Fr h₀ L h₁ (fun z => if z = Str.ofString "deep" then some (.int d td) else if z = Str.ofString "places" then some (.ref P) else if z = Str.ofString "behind" then u z else m₀ z) →
      News h₀ L h₁ [(P, W.listOf vs.toArray np), (L + 1 + 1 + 1 + 1, oS), (L + 1 + 1 + 1, oK), (L + 1 + 1, oI), (L + 1, oW)] →
      wpAny (model prog w) A (isTrue test env (eval test env)) (fun b s₂ =>
        if b = true then wpAny (model prog w) A (execs body env) (WvPost h₀ L (fun m' nx' => ∃ n', n' < (inner.length - k).toNat ∧ TakesI (TkGo inner y) m₀ inner y L n' m' nx') { s with heap := h₁, toks := tk₁ } Q) E s₂ else Q .next s₂) E { s with heap := h₁, toks := tk₁ })
    (hE : PassesOwn (model prog w) A env E) :
    wpAny (model prog w) A (exec (.While test body [] pos) env) Q E s := by
  refine while_gen (TakesI (TkGo inner y) m₀ inner y L) F (fun p hp => N p (hm p hp)) (n₀ := inner.length) ⟨⟨0, 0, [0]⟩, m₀, P, np, [.int 0 t₀], td, tk, ti, tw, oS, oK, oI, oW, vS, ?_, rfl, by lia, dS, dK, dI, dW, .cons _ _ .nil, ⟨by decide, by simp⟩, Int.le_refl _, (by decide), (by simp), go_start _ _⟩ ?_ hE
  · funext z
    by_cases h1 : z = Str.ofString "deep"
    · rw [if_pos h1, h1, hd]
    · rw [if_neg h1]
      by_cases h2 : z = Str.ofString "places"
      · rw [if_pos h2, h2, hp]
      · rw [if_neg h2]; split <;> rfl
  · rintro n m₁ nx h₁ tk₁ ⟨⟨k, d, ps⟩, u, P, np, vs, td, tk, ti, tw, oS, oK, oI, oW, vS, rfl, rfl, h1, h2, h3, h4, h5, h6, h7, h8, h9, rfl, h10⟩ F₁ N₁
    exact turn k d ps vs u P np td tk ti tw oS oK oI oW vS h₁ tk₁ h1 h2 h3 h4 h5 h6 h7 h8 h9 hi h10 F₁ N₁
end
theorem slice_out {x : Str} {a b : Int} (h : (x.length : Int) ≤ a) : Txt.slice x (some a) (some b) = Str.empty := by
  have e : Builtin.Str.strSliceIndices (some a) (some b) 1 x.length = [] := by
    unfold Builtin.Str.strSliceIndices sliceRange
    have h1 : ¬ a < 0 := by lia
    simp only [h1, if_false, show (1 : Int) > 0 by decide, if_true]
    have h2 : min a (x.length : Int) = x.length := by lia
    have h3 : max 0 (x.length : Int) = x.length := by lia
    rw [h2, h3]
    split <;> (split <;> first | rfl | lia | (simp; lia))
  unfold Txt.slice
  rw [e]
  split
  · rename_i q
    have : x.length = 0 := (by simpa using q.symm : 0 = x.length).symm
    apply Str.ext'
    show x.cps = #[]
    exact Array.size_eq_zero_iff.mp this
  · rfl
theorem slice_ne {x : Str} {a b : Int} (h : (Txt.slice x (some a) (some b) == Str.ofString "") = false) : a < (x.length : Int) := by
  rcases Int.lt_or_le a x.length with q | q
  · exact q
  · rw [slice_out q] at h
    exact absurd h (by decide +kernel)
section
variable {prog : Program} {w : World} {A : Around} {E : Value → Shared → Prop} {s : Shared} {value slice : Expr} {x : Str} {t : Tok} {Q : Value → Shared → Prop}
theorem item_strZ {i : Int} {u : Tok} (h0 : 0 ≤ i) (h1 : i < x.length) (hx : x.length ≤ 2000)
    (h : (1 ≤ (Txt.item x i).length ∧ (Txt.item x i).length ≤ 1) → Q (.str (Txt.item x i) s.toks) { s with toks := s.toks + 1 })
    (hs : subscripted slice false (.str x t) (.int i u) = operate [.str x t, .int i u] (getItem (.str x t) (.int i u)) := by with_unfolding_all rfl)
    (ht : ∀ r, letTemporaryGo value (.str x t) r = pure () := by intro _; with_unfolding_all rfl) :
    wpAny (model prog w) A (subscriptTail value slice (.str x t) (.int i u)) Q E s :=
  item_str (fitsSsize_of (N := 9223372036854775808) (by lia) (by lia) (Int.le_refl _)) (by lia) h1 h hs ht
end
theorem linesF9_1 : True := by
  k_with "mine:off" => omega
  k_with "mine:off" => (have q9u76 := slice_ne (by with_reducible assumption); omega)
  k_with "subscriptTail Name BinOp str int" => ((with_reducible show wpAny _ _ (subscriptTail _ _ (Value.str _ _) (Value.int _ _)) _ _ _); (k_dflt (refine' item_strZ (by omega) (by first | omega | walk_at "mine:off") (by omega) ?_ (by with_unfolding_all rfl) (by kmk_pure); k_whole; intro qu77')))
  k_with "subscriptTail Name Name str int" => ((with_reducible show wpAny _ _ (subscriptTail _ _ (Value.str _ _) (Value.int _ _)) _ _ _); (k_dflt (refine' item_strZ (by omega) (by omega) (by omega) ?_ (by with_unfolding_all rfl) (by kmk_pure); k_whole; intro qu78')))
  k_with "exec While BoolOp cons nil" => ((with_reducible show wpAny _ _ (exec (Stmt.While (Expr.BoolOp _ [Expr.Compare (Expr.Name (PySem.Str.ofString "k") _) _ _ _, _] _) _ _ _) _) _ _ _); (rename Fr _ _ _ _ => lFu79'); (rename News _ _ _ _ => lNu79'); (k_dflt ((refine' takes_loop (P := _) lFu79' lNu79' (by (refine List.forall_mem_cons.mpr ⟨?_, List.forall_mem_cons.mpr ⟨?_, List.forall_mem_cons.mpr ⟨?_, List.forall_mem_cons.mpr ⟨?_, List.forall_mem_cons.mpr ⟨?_, fun _ h => nomatch h⟩⟩⟩⟩⟩; k_mem; k_mem; k_mem; k_mem; k_mem)) (by exact rfl) (by exact rfl) (by assumption) (by assumption) (by assumption) (by assumption) (by omega) (by exact Nat.le_trans (Txt.slice_le _ _ _) (by assumption)) ?_ (by passes_own)))); intros; clear lFu79' lNu79'; (try k_fold))
  k_with "compareOp NotEq ref ref" => ((with_reducible show wpAny _ _ (compareOp CmpOp.NotEq (Value.ref _) (Value.ref _)) _ _ _); (k_dflt (refine' ne_nilK (by exact News.isList (by k_asm) (by k_mem)) (by with_reducible assumption) (by exact News.isList (by k_asm) (by k_mem)) (by ktr_units) ?_; k_whole)))
  k_with "subscriptTail Name Constant ref int" => ((with_reducible show wpAny _ _ (subscriptTail _ _ (Value.ref _) (Value.int 0 _)) _ _ _); (k_dflt (refine' item0K (by exact News.isList (by k_asm) (by k_mem)) (by with_reducible assumption) (by with_reducible assumption) ?_; k_whole; intro tu81')))
  k_with "call type:list" => ((with_reducible show wpAny _ _ (call (Value.type _) [Value.ref _]) _ _ _); (rename IsRange _ _ _ _ _ _ _ _ => Ru82'); (k_dflt (refine' list_rangeK (by exact rfl) (by k_asm) (by k_asm) Ru82' (by walk_at "mine:idx") (by walk_at "mine:idx") (by omega) (by omega) ?_; k_whole; intro Du82' hu82' tku82' ysu82' nu82' Fu82' Nu82' l1 iau82'; (try k_lt l1); (try k_sweep))))
  k_with "subscriptTail Name Slice ref ref" => ((with_reducible show wpAny _ _ (subscriptTail _ (PySem.Expr.Slice none _ none _) (Value.ref _) (Value.ref _)) _ _ _); (k_dflt (refine' take_one (by k_asm) (by k_asm) (by k_mem) (by with_reducible assumption) (by walk_at "mine:idx") (by kmk_part) (by kmk_part) ?_ (by with_unfolding_all rfl) (by kmk_pure)); intro Du83' hu83' ysu83' Fu83' Nu83' l1 iau83'; (try k_lt l1); (try k_sweep)))
  k_with "exec Assign cons ListComp" => ((with_reducible show wpAny _ _ (exec (Stmt.Assign [Expr.Name (PySem.Str.ofString "places") _] _ _) _) _ _ _); (k_dflt (refine LCt.Assign_ListComp_T (F₀ := by k_asm) (by rfl) (by with_unfolding_all rfl) (by with_unfolding_all rfl) (by decide) (by rfl) (by decide) (by rfl) (by rfl) (by rfl) ?_)))
  k_with "mine:idx" => (have q9u85 := PsOk.get (by with_reducible assumption) (by with_reducible assumption); omega)
  k_with "mine:idx" => (have q9u86 := And.left (by with_reducible assumption : PsOk _ _); omega)
  trivial
section
variable {prog : Program} {w : World} {A : Around} {E : Value → Shared → Prop} {s : Shared} {h₀ : Heap} {L : Addr} {m : Str → Option Value} {env : Env}
theorem rest_takes {ct elt : Expr} {x : Str} {scope : Scope} {cl : List (Str × Addr)} {S : List (Addr × Obj) → Prop} {vs : List Value} {ps : List Int} {Fin : List Value → List (Addr × Obj) → Prop} {news : List (Addr × Obj)} {oS oK oI oW : Obj} {k st : Int} {inner y : Str} {tS tK tI tW : Tok}
    (mS : (L + 1 + 1 + 1 + 1, oS) ∈ news) (mK : (L + 1 + 1 + 1, oK) ∈ news) (mI : (L + 1 + 1, oI) ∈ news) (mW : (L + 1, oW) ∈ news)
    (dS : oS.data = .cell (some (.int st tS))) (dK : oK.data = .cell (some (.int k tK))) (dI : oI.data = .cell (some (.str inner tI))) (dW : oW.data = .cell (some (.str y tW)))
    (hv : IntsAre vs ps) (hP : PsOk y ps) (hS : S news)
    (turn : ∀ I oI' C oC D m₂ h tk (E' : Value → Shared → Prop) p t ys, 0 ≤ p → p ≤ (y.length : Int) → LCg.NsObj oC m₂ → m₂ x = some (.int p t) → Fr h₀ L h m → News h₀ L h ((I, oI') :: (C, oC) :: (D, LCg.lst ys) :: news) →
      wpAny (model prog w) A (isTrue ct (compEnvC scope cl C env) (eval ct (compEnvC scope cl C env))) (fun ok s' => if ok = true then
        wpAny (model prog w) A (eval elt (compEnvC scope cl C env)) (CeYes (tkSign inner y k st p) (p + 1) { s with heap := h, toks := tk }) E' s' else CeNo (tkSign inner y k st p) { s with heap := h, toks := tk } s') E' { s with heap := h, toks := tk })
    (fin : ∀ ys, IntsAre ys ((ps.filter (tkSign inner y k st)).map (· + 1)) → Fin ys news) :
    LCt.CompRestT prog w A h₀ L m env ct elt x scope cl s S (fun i v => vs.toArray[i]? = some v) Fin vs.toArray.size 0 [] news :=
  rest_filter (tkSign inner y k st) (· + 1) (fun p => 0 ≤ p ∧ p ≤ (y.length : Int)) hv hP.2 hS (fun I oI' C oC D m₂ h tk E' p t ys hp hC hx F N => turn I oI' C oC D m₂ h tk E' p t ys hp.1 hp.2 hC hx F N) fin
end
theorem linesF9_2 : True := by
  k_with "CompSrcT" => ((k_dflt (refine LCt.CompSrcT.ledger (by rfl) (by k_asm) (by k_asm) (by k_mem) (by (rw [List.size_toArray]; rw [ints_len (by with_reducible assumption), sizeLine_eq]; walk_at "mine:idx")) ?_; intro gu87'; refine' rest_takes (by k_mem) (by k_mem) (by k_mem) (by k_mem) (by with_reducible assumption) (by with_reducible assumption) (by with_reducible assumption) (by with_reducible assumption) (by with_reducible assumption) (by with_reducible assumption) (by exact Or.inr ⟨_, by k_mem, rfl, _, rfl⟩) ?_ ?_; (all_goals (intros; (try k_fold))))))
  trivial
abbrev takesStored : List Str := [Str.ofString "deep", Str.ofString "places", Str.ofString "behind"]
theorem keeps_upf {m' m : Str → Option Value} {v : Str → Option Value} {st : List Str} {x : Str} (hx : st.contains x = true) (h : ∀ z, st.contains z = false → m' z = m z) : ∀ z, st.contains z = false → (fun y => if y = x then v y else m' y) z = m z := by
  intro z hz
  have : z ≠ x := by rintro rfl; rw [hx] at hz; cases hz
  show (if z = x then v z else m' z) = m z
  rw [if_neg this]; exact h z hz
theorem takes_close {h₀ h' : Heap} {L P : Addr} {s₁ : Shared} {tk np : Nat} {m₀ m' : Str → Option Value} {news' : List (Addr × Obj)} {inner y : Str} {k k' d' : Int} {ps' : List Int} {vs : List Value} {td tK ti tw : Tok} {oS oK oI oW : Obj} {vS : Option Value}
    (F : Fr h₀ L h' m') (N : News h₀ L h' news') (hd : m' (Str.ofString "deep") = some (.int d' td)) (hp : m' (Str.ofString "places") = some (.ref P))
    (mP : (P, W.listOf vs.toArray np) ∈ news') (mS : (L + 1 + 1 + 1 + 1, oS) ∈ news') (mK : (L + 1 + 1 + 1, oK) ∈ news') (mI : (L + 1 + 1, oI) ∈ news') (mW : (L + 1, oW) ∈ news')
    (dS : oS.data = .cell vS) (dK : oK.data = .cell (some (.int k' tK))) (dI : oI.data = .cell (some (.str inner ti))) (dW : oW.data = .cell (some (.str y tw)))
    (ne : @Ne Nat P (L + 1 + 1 + 1 + 1) ∧ @Ne Nat P (L + 1 + 1 + 1) ∧ @Ne Nat P (L + 1 + 1) ∧ @Ne Nat P (L + 1)) (hv : IntsAre vs ps') (hP : PsOk y ps') (hk : 0 ≤ k) (hl : k < (inner.length : Int)) (hi : inner.length ≤ 1000) (hlt : k < k') (hk' : k' ≤ k + 6) (hm : ∀ z, takesStored.contains z = false → m' z = m₀ z) (hgo : TkGo inner y ⟨k', d', ps'⟩) :
    WvEnd h₀ L (fun m' nx' => ∃ n', n' < (inner.length - k).toNat ∧ TakesI (TkGo inner y) m₀ inner y L n' m' nx') s₁ { s₁ with heap := h', toks := tk } := by
  refine wv_end [(P, W.listOf vs.toArray np), (L + 1 + 1 + 1 + 1, oS), (L + 1 + 1 + 1, oK), (L + 1 + 1, oI), (L + 1, oW)] F N ?_ ⟨(inner.length - k').toNat, by lia, ⟨k', d', ps'⟩, m', P, np, vs, td, tK, ti, tw, oS, oK, oI, oW, vS, ?_, rfl, ne, dS, dK, dI, dW, hv, hP, show 0 ≤ k' by lia, show k' ≤ 1100 by lia, rfl, hgo⟩
  · intro p hp
    rcases List.mem_cons.mp hp with rfl | hp; · exact mP
    rcases List.mem_cons.mp hp with rfl | hp; · exact mS
    rcases List.mem_cons.mp hp with rfl | hp; · exact mK
    rcases List.mem_cons.mp hp with rfl | hp; · exact mI
    rcases List.mem_cons.mp hp with rfl | hp; · exact mW
    cases hp
  · funext z
    by_cases h1 : z = Str.ofString "deep"
    · rw [if_pos h1, h1, hd]
    · rw [if_neg h1]
      by_cases h2 : z = Str.ofString "places"
      · rw [if_pos h2, h2, hp]
      · rw [if_neg h2]
        by_cases h3 : z = Str.ofString "behind"
        · rw [if_pos h3]
        · rw [if_neg h3]
          exact hm z (by simp only [takesStored, List.contains_cons, List.contains_nil, Bool.or_false, beq_eq_false_iff_ne.mpr h1, beq_eq_false_iff_ne.mpr h2, beq_eq_false_iff_ne.mpr h3])
theorem linesF9_3 : True := by
  k_with "CeYes" => (k_dflt (refine' ⟨(by with_reducible first | exact sg1 (by assumption) (by assumption) | exact sg2 (by assumption) (by assumption)), ⟨_, rfl⟩, _, _, rfl, Grew.refl _⟩))
  k_with "CeNo" => (k_dflt (refine' ⟨(by with_reducible first | exact sg3 (by assumption) (by assumption) | exact sg4 (by assumption)), _, _, rfl, Grew.refl _⟩))
  k_with "mine:tk" => with_reducible first | exact tk1 (by assumption) (by assumption) | exact tk2 (by assumption) (by assumption) (by assumption) | exact tk3 (by assumption) (by assumption) (by assumption) (by assumption) | exact tk7 (by assumption) (by assumption) (by assumption) (by assumption) (by assumption) (by assumption) (by assumption) | exact tk8 (by assumption) (by assumption) (by assumption) (by assumption) (by assumption)
  k_with "mine:tkno" => with_reducible first | exact tk4 (by assumption) (by assumption) (by assumption) (by assumption) | exact tk5 (by assumption) (by assumption) (by assumption) (by assumption) (by assumption) (by assumption) | exact tk6 (by assumption) (by assumption) (by assumption) (by assumption) (by assumption) (by assumption) (by assumption)
  k_with "WvEnd" => ((with_reducible show WvEnd _ _ (fun _ _ => ∃ _, _ ∧ TakesI _ _ _ _ _ _ _ _) _ _); (rename Fr _ _ _ _ => eF); (rename News _ _ _ _ => eN); (k_dflt (refine' takes_close eF eN (by exact rfl) (by exact rfl) (by k_mem) (by k_mem) (by k_mem) (by k_mem) (by k_mem) (by with_reducible assumption) (by with_reducible assumption) (by with_reducible assumption) (by with_reducible assumption) (by walk_at "mine:nes") (by with_reducible assumption) (by with_reducible first | exact psok_rng (by assumption) (by assumption) (by assumption) | exact psok_take (by assumption) | exact psok_sign (by assumption)) (by with_reducible assumption) (by with_reducible assumption) (by with_reducible assumption) (by omega) (by omega) (by (repeat (first | exact keeps_rfl | refine keeps_upd (by decide +kernel) ?_ | refine keeps_upf (by decide +kernel) ?_))) (by exact go_turn (by with_reducible assumption) (by with_reducible assumption) (by with_reducible assumption) (by walk_at "mine:tk") (by omega)))))
  trivial
set_option maxRecDepth 100000 in
set_option maxHeartbeats 2400000 in
theorem sp_takes (w : World) (mean : ExcName → Option Value) (mg mb : Str → Option Value) (x y : Str) (t t' : Tok) :
    About PySem.Challenge.rw_rt0094_01 Mine.pre.heap_1_1 (Sp w mean mg mb 271 [Value.str x t, Value.str y t'] 14 (fun _ => x.length ≤ 1000 ∧ y.length ≤ 1000) (fun _ _ v => v = Value.bool (takesF x y))) := by
  k_fill; unfold About Sp; intro dp un gd cn cs a ccd cl outer A₀ base h₀ L m s Q E B F X T hk hd hu hp hret
  obtain ⟨hp1, hp2⟩ := hp
  walk_at "mine:goC"
  all_goals (try dsimp only)
  all_goals first
  | (refine sp_ret (s := s) (Q := Q) hret (by k_asm) ?_; refine congrArg Value.bool ?_; with_reducible (first | exact takes_no (by assumption) | exact takes_yes (by assumption) (go_bad (by assumption) (by assumption) (by assumption) (by walk_at "mine:tkno")) | exact takes_yes (by assumption) ((go_fin (by assumption) (not_k (by assumption))).trans (fin_any (by assumption))) | exact takes_yes (by assumption) ((go_fin (by assumption) (not_p (by assumption))).trans (fin_any (by assumption))) | exact takes_yes (by assumption) ((go_fin (by assumption) (not_k (by assumption))).trans (fin_one (by assumption))) | exact takes_yes (by assumption) ((go_fin (by assumption) (not_p (by assumption))).trans (fin_one (by assumption)))))

theorem offEscF : True := by
  w_top off
  trivial
def okKeys (es : Array DictEntry) : Bool := es.toList.all fun e => match e.key with | .int k _ => e.hash == hashInt k | _ => false
theorem okKeys_int {es : Array DictEntry} (h : okKeys es = true) : IntKeys es := by
  intro e he
  have := List.all_eq_true.mp h e (by simpa using he)
  split at this
  · rename_i k t hk; exact ⟨k, t, hk, by simpa using this⟩
  · cases this
/-- the table that escape reads stands in the written part -/
def escOf (o : Option Obj) : Bool := match o with
  | some ⟨.type "dict", none, .dict es _, sl⟩ => okKeys es && sl.isEmpty && (findBy Value.isInt es 100).isNone && (findBy Value.isInt es 108).isNone && (findBy Value.isInt es 47).isNone &&
    (match findBy Value.isInt es 45 with | some (.str y _) => y == Str.ofString "\\-" | _ => false) && (match findBy Value.isInt es 32 with | some (.str y _) => y == Str.ofString "\\ " | _ => false)
  | _ => false
theorem esc_here (w : World) : escOf ((Mine.pre.heap_1_1 w.params).lookup 52) = true := by rfl

theorem esc_map {w : World} {h : Heap} (X : (Mine.pre.heap_1_1 w.params).In h) : ∃ f, h.MapOf (intKind PySem.Challenge.rw_rt0094_01.row.prog w) 52 f ∧ h.IntMap 52 f ∧ f 100 = none ∧ f 108 = none ∧ f 47 = none ∧ (∃ t, f 45 = some (.str (Str.ofString "\\-") t)) ∧ ∃ t, f 32 = some (.str (Str.ofString "\\ ") t) := by
  have e := esc_here w
  unfold escOf at e
  split at e
  · rename_i es ep sl ho
    have hg := X _ _ ho
    simp only [Bool.and_eq_true, Option.isNone_iff_eq_none] at e
    obtain ⟨⟨⟨⟨⟨⟨e1, e2⟩, e3⟩, e4⟩, e5⟩, e6⟩, e7⟩ := e
    have hsl : sl = #[] := by simpa using e2
    subst hsl
    have hm : h.IntMap 52 (fun k => findBy Value.isInt es k) := ⟨_, es, ep, hg, rfl, rfl, okKeys_int e1, fun _ => rfl⟩
    refine ⟨_, hm.mapOf fun o ho' => by rw [hg] at ho'; cases ho'; exact ⟨rfl, rfl⟩, hm, e3, e4, e5, ?_, ?_⟩
    · split at e6
      · rename_i y t q; exact ⟨t, by rw [q, eq_of_beq e6]⟩
      · cases e6
    · split at e7
      · rename_i y t q; exact ⟨t, by rw [q, eq_of_beq e7]⟩
      · cases e7
  · cases e
section
variable {prog : Program} {w : World} {A : Around} {E : Value → Shared → Prop} {s : Shared}
theorem tl_text {d : Addr} {f : Int → Option Value} {n : Nat} {y : Str} {t : Tok} {Q : Builtin.Str.Mapped → Shared → Prop} (hm : s.heap.IntMap d f) (hv : f n = some (.str y t)) (h : ∀ tk, Q (.text y) { s with toks := tk }) :
    wpAny (model prog w) A (Builtin.Str.tableLookup (.ref d) n) Q E s := by
  unfold Builtin.Str.tableLookup
  refine wpAny_bind (wpAny_attempt (wpAny_bind (wpAny_mkInt (wpAny_getItem_intMap hm hv ?_))))
  dsimp only
  refine wpAny_bind ?_
  show wpAny _ _ (pure none) _ _ _
  refine wpAny_pure ?_
  dsimp only
  refine wpAny_bind ?_
  show wpAny _ _ (pure (some y)) _ _ _
  exact wpAny_pure (wpAny_pure (h _))
theorem tl_keep {d : Addr} {f : Int → Option Value} {n : Nat} {Q : Builtin.Str.Mapped → Shared → Prop} (hh : A.handled = none) (hd : (d == sysModules) = false) (hm : s.heap.MapOf (intKind prog w) d f) (hv : f n = none)
    (h : ∀ h' tk, Grew s.heap h' → Q .keep { s with heap := h', toks := tk }) :
    wpAny (model prog w) A (Builtin.Str.tableLookup (.ref d) n) Q E s := by
  unfold Builtin.Str.tableLookup
  refine wpAny_bind (wpAny_attempt (wpAny_bind (wpAny_mkInt (wpAny_getItem_missing_of (intKind_is _ _ _ _) hd hh hm hv fun h' e ne => ?_))))
  dsimp only
  obtain ⟨k, _, ob, t, hob, hcls, _⟩ := ne
  refine wpAny_bind (wpAny_isInstance (T := "KeyError") (b := true) ?_ (by rw [isSubtype_type]; kernel_rfl) ?_)
  · exact ⟨ob, hob, hcls⟩
  · simp only [if_true]
    exact wpAny_bind (wpAny_rule (wpAny_pure (h _ _ k)))

theorem tr_body_text {d : Addr} {f : Int → Option Value} {n : Nat} {y : Str} {t t' : Tok} {Q : PySem.Fin → Shared → Prop} (hm : s.heap.IntMap d f) (hv : f n = some (.str y t)) (hn : n < 128) (hy : y.length = 2)
    (h : ∀ tk, Q (.done (.ret (.str y tk))) { s with toks := tk + 1 }) :
    wpAny (model prog w) A (Builtin.«str.translate» ⟨[.str ⟨#[n]⟩ t', .ref d], []⟩) Q E s := by
  unfold Builtin.«str.translate»
  refine wpAny_bind ?_
  show wpAny _ _ (pure _) _ _ _
  refine wpAny_pure ?_
  dsimp only
  rw [if_neg (show ¬ (({ cps := #[n] } : Str).length == 0) = true from fun q => nomatch q)]
  have hall : (#[n].all fun x => decide (x < 128)) = true := by simp [hn]
  have hb : (y.length == 1 && (y.cps.all fun x => decide (x < 128))) = false := by rw [hy]; rfl
  rw [hall, ← Array.forIn_toList]
  simp only [List.forIn_cons, List.forIn_nil]
  refine wpAny_bind (wpAny_bind ?_)
  rw [if_neg (by decide), if_pos trivial]
  simp only [List.lookup_nil]
  refine wpAny_bind (tl_text hm hv fun tk => ?_)
  simp only [hb, Bool.false_eq_true, if_false]
  refine wpAny_bind (wpAny_pure ?_)
  dsimp only
  refine wpAny_bind (wpAny_rule ?_)
  refine wpAny_bind (tl_text (s := { s with toks := tk }) hm hv fun tk2 => ?_)
  dsimp only
  refine wpAny_pure ?_
  dsimp only
  refine wpAny_pure ?_
  rw [if_neg (show ¬ Builtin.Str.tooLong (0 + y.length) = true by rw [hy]; decide)]
  have e : ({ cps := List.foldl (fun acc (p : Str) => acc ++ p.cps) #[] [y].reverse } : Str) = y := Str.ext' (by simp)
  rw [e]
  exact wpAny_bind (wpAny_mkStr (wpAny_pure (h _)) (hx := by rw [hy]; decide))
theorem tr_body_keep {d : Addr} {f : Int → Option Value} {n : Nat} {t' : Tok} {Q : PySem.Fin → Shared → Prop} (hh : A.handled = none) (hd : (d == sysModules) = false) (hm : s.heap.MapOf (intKind prog w) d f) (hv : f n = none) (hn : n < 128)
    (h : ∀ tk h', Grew s.heap h' → Q (.done (.ret (.str ⟨#[n]⟩ tk))) { s with heap := h', toks := tk + 1 }) :
    wpAny (model prog w) A (Builtin.«str.translate» ⟨[.str ⟨#[n]⟩ t', .ref d], []⟩) Q E s := by
  unfold Builtin.«str.translate»
  refine wpAny_bind ?_
  show wpAny _ _ (pure _) _ _ _
  refine wpAny_pure ?_
  dsimp only
  rw [if_neg (show ¬ (({ cps := #[n] } : Str).length == 0) = true from fun q => nomatch q)]
  have hall : (#[n].all fun x => decide (x < 128)) = true := by simp [hn]
  rw [hall, ← Array.forIn_toList]
  simp only [List.forIn_cons, List.forIn_nil]
  refine wpAny_bind (wpAny_bind ?_)
  rw [if_neg (by decide), if_pos trivial]
  simp only [List.lookup_nil]
  refine wpAny_bind (tl_keep hh hd hm hv fun h' tk g => ?_)
  dsimp only
  refine wpAny_bind (wpAny_pure ?_)
  dsimp only
  refine wpAny_pure ?_
  dsimp only
  refine wpAny_pure ?_
  rw [if_neg (show ¬ Builtin.Str.tooLong (0 + 1) = true by decide)]
  have e : ({ cps := List.foldl (fun acc (p : Str) => acc ++ p.cps) #[] [(⟨#[n]⟩ : Str)].reverse } : Str) = ⟨#[n]⟩ := Str.ext' (by simp)
  rw [e]
  exact wpAny_bind (wpAny_mkStr (s := { s with heap := h', toks := tk }) (wpAny_pure (h _ _ g)) (hx := show 1 ≤ sizeLine by decide))
end
/-- what escape hands back for the signs that stand in the patterns -/
def escS (c : Str) : Str := if (c == Str.ofString "-") = true then Str.ofString "\\-" else if (c == Str.ofString " ") = true then Str.ofString "\\ " else c
def EscOk (c : Str) : Prop := c = Str.ofString "d" ∨ c = Str.ofString "-" ∨ c = Str.ofString "l" ∨ c = Str.ofString " " ∨ c = Str.ofString "/"
theorem esc_call {w : World} {A : Around} {E : Value → Shared → Prop} {s : Shared} {h₀ : Heap} {L : Addr} {m : Str → Option Value} {news : List (Addr × Obj)} {c : Str} {t : Tok} {Q : Value → Shared → Prop}
    (X : (Mine.pre.heap_1_1 w.params).In h₀) (F : Fr h₀ L s.heap m) (N : News h₀ L s.heap news) (hh : A.handled = none) (hc : EscOk c)
    (h : ∀ h' tk, Fr h₀ L h' m → News h₀ L h' news → Q (.str (escS c) tk) { s with heap := h', toks := tk + 1 }) :
    wpAny (model PySem.Challenge.rw_rt0094_01.row.prog w) A (call (.builtin "str.translate") [.str c t, .ref 52]) Q E s := by
  obtain ⟨f, hm, hi, e1, e2, e3, ⟨t1, e4⟩, ⟨t2, e5⟩⟩ := esc_map (X.keeps F.keep)
  have hE : ∀ (n : Nat), c = ⟨#[n]⟩ → f n = none → n < 128 → escS c = c → wpAny (model PySem.Challenge.rw_rt0094_01.row.prog w) A (call (.builtin "str.translate") [.str c t, .ref 52]) Q E s := by
    intro n ec hn hl he
    subst ec
    refine wpAny_call_entry PySem.F.slot_str_translate (typeIs_str s _ t) PySem.F.entry_str_translate ?_ (PySem.F.args_str_translate_2 _ _)
    refine tr_body_keep hh (by decide) hm hn hl fun tk h' g => ?_
    have := h h' tk (frGrew F g) (newsGrew N g)
    rw [he] at this
    exact ⟨_, rfl, this⟩
  have hT : ∀ (n : Nat) (y : Str) (t' : Tok), c = ⟨#[n]⟩ → f n = some (.str y t') → n < 128 → y.length = 2 → escS c = y → wpAny (model PySem.Challenge.rw_rt0094_01.row.prog w) A (call (.builtin "str.translate") [.str c t, .ref 52]) Q E s := by
    intro n y t' ec hn hl hy he
    subst ec
    refine wpAny_call_entry PySem.F.slot_str_translate (typeIs_str s _ t) PySem.F.entry_str_translate ?_ (PySem.F.args_str_translate_2 _ _)
    refine tr_body_text hi hn hl hy fun tk => ?_
    have := h s.heap tk F N
    rw [he] at this
    exact ⟨_, rfl, this⟩
  rcases hc with rfl | rfl | rfl | rfl | rfl
  · exact hE 100 (by decide +kernel) e1 (by decide) (by decide +kernel)
  · exact hT 45 _ _ (by decide +kernel) e4 (by decide) (by decide +kernel) (by decide +kernel)
  · exact hE 108 (by decide +kernel) e2 (by decide) (by decide +kernel)
  · exact hT 32 _ _ (by decide +kernel) e5 (by decide) (by decide +kernel) (by decide +kernel)
  · exact hE 47 (by decide +kernel) e3 (by decide) (by decide +kernel)

theorem offF10 : True := by
  w_top off
  trivial
theorem gm_translate {M : Model} {A : Around} {E : Value → Shared → Prop} {s : Shared} {x : Str} {t : Tok} {pl : Sem Bool} {Q : Value × List Value → Shared → Prop} (h : Q (.builtin "str.translate", [.str x t]) s) : wpAny M A (getMethod (.str x t) (Str.ofString "translate") pl) Q E s := by
  with_reducible exact GM.of (.str x t) (typeIs_str _ _ _) PySem.F.slot_str_translate PySem.F.type_str_translate GM.noRef h
theorem linesF10_1 : True := by
  k_with "getMethod str" => with_reducible refine gm_translate ?_
  k_with "call builtin:str.translate" => ((with_reducible show wpAny _ _ (call (Value.builtin _) [Value.str _ _, Value.ref _]) _ _ _); (k_dflt (refine' esc_call (by k_asm) (by k_asm) (by k_asm) (by exact rfl) (by with_reducible assumption) ?_; k_whole; intro hu94' tku94' Fu94' Nu94'; (try k_sweep))))
  trivial
set_option maxRecDepth 100000 in
set_option maxHeartbeats 8000000 in
theorem sp_escape (w : World) (mean : ExcName → Option Value) (mg mb : Str → Option Value) (c : Str) (t : Tok) :
    About PySem.Challenge.rw_rt0094_01 Mine.pre.heap_1_1 (Sp w mean mg mb 62 [Value.str c t] 3 (fun _ => EscOk c) (fun _ _ v => ∃ t, v = Value.str (escS c) t)) := by
  k_fill; unfold About Sp; intro dp un gd cn cs a ccd cl outer A₀ base h₀ L m s Q E B F X T hk hd hu hp hret
  walk_at "mine:go"
  all_goals (refine sp_ret (s := s) (Q := Q) hret (by k_asm) ?_; exact ⟨_, rfl⟩)

theorem linesF10_2 : True := by
  k_with "call ref" => ((with_reducible show wpAny _ _ (call (Value.ref 62) [Value.str _ _]) _ _ _); k_dflt (refine' Sp.use (sp_escape _ _ _ _ _ _) (by k_asm) (by k_asm) (by k_asm) (by k_asm) (by k_asm) (by first | exact rfl | assumption) (by ktr_room) (by ktr_units) (by with_reducible assumption) ?_); intro v9u95 h9u95 tk9u95 g9u95 F9u95 N9u95 p9u95; obtain ⟨t9u95, p9u95⟩ := p9u95; subst p9u95; (try k_sweep))
  trivial
theorem offBoundL : True := by
  w_top off
  trivial
set_option maxRecDepth 100000
abbrev boundA (l : Addr) : Obj := { cls := .type "builtin_function_or_method", data := .fields #[.builtin "list.append", .ref l] }
section
variable {prog : Program} {w : World} {A : Around} {E : Value → Shared → Prop} {h : Heap} {g : Array GenState} {d : Drawn} {t : Nat} {os : OsState} {a : Addr} {o : Obj}
theorem list_app : typeLookup (.type "list") (Str.ofString "append") = pure (some (.builtin "list.append")) := by rw [typeLookup_type, builtinLookup_eq_fast]; kernel_rfl
theorem type_app : typeOf (.builtin "list.append") = pure (.type "method_descriptor") := by show builtinType _ = _; rw [builtinType_eq_fast]; kernel_rfl
theorem slot_md_get : Slot "method_descriptor" "__get__" "method_descriptor.__get__" :=
  .of (owner := "method_descriptor") (n := "__get__") (by rw [typeLookup_type, builtinLookup_eq_fast]; kernel_rfl) (by decide +kernel) (by decide +kernel) (by decide +kernel)
    (by first | exact .inl (by decide +kernel) | exact .inr (by decide +kernel)) (by rw [isSubtype_type]; kernel_rfl)
theorem entry_md_get : entryFor table "method_descriptor.__get__" = some Builtin.«method_descriptor.__get__» := entryFor_of_tree (by kernel_rfl)
theorem args_md_get (a b c : Value) : argsOk "method_descriptor.__get__" ⟨[a, b, c], []⟩ := by unfold argsOk; kernel_rfl
theorem md_set : typeLookup (.type "method_descriptor") (Str.ofString "__set__") = pure none := by rw [typeLookup_type, builtinLookup_eq_fast]; kernel_rfl
theorem md_del : typeLookup (.type "method_descriptor") (Str.ofString "__delete__") = pure none := by rw [typeLookup_type, builtinLookup_eq_fast]; kernel_rfl
theorem sub_list_app : isSubtype (.type "list") (.type (".".intercalate ("list.append".cutAt '.').dropLast)) = pure true := by
  have e0 : "list.append".cutAt '.' = ["list", "append"] := by first | rfl | decide +kernel
  rw [e0, isSubtype_type]; kernel_rfl
theorem app_get {R : Result → Shared → Prop} (hx : h.get? a = some o) (hc : o.cls = .type "list") (hq : R (.ok (.ret (.ref h.objs.size))) ⟨h.push (boundA a), g, d, t, os⟩) :
    codeAny (model prog w) A (.call (.builtin "method_descriptor.__get__") ⟨[.builtin "list.append", .ref a, .type "list"], []⟩) R ⟨h, g, d, t, os⟩ := by
  have hT : (⟨h, g, d, t, os⟩ : Shared).TypeIs (.ref a) "list" := ⟨_, hx, hc⟩
  have hT5 : (⟨h, g, d, t, os⟩ : Shared).TypeIs (.builtin "list.append") "method_descriptor" := type_app
  have f8 := sub_list_app
  refine codeAny_call_builtin slot_md_get.plain entry_md_get (slot_md_get.check _ _ _ _ _ _ _ _ hT5 (args_md_get _ _ _) ?_)
  unfold Builtin.«method_descriptor.__get__»
  repeat (any_goals (first | assumption | wp_step))
theorem app_entry {its : Array Value} {n : Nat} {tk : Tok} {Q : PySem.Fin → Shared → Prop} (hx : h.get? a = some (W.listOf its n)) (hq : Q (.done (.ret (.ref h.objs.size))) ⟨h.push (boundA a), g, d, t, os⟩) :
    wpAny (model prog w) A (Builtin.«object.__getattribute__» ⟨[.ref a, .str (Str.ofString "append") tk], []⟩) Q E ⟨h, g, d, t, os⟩ := by
  have hT : (⟨h, g, d, t, os⟩ : Shared).TypeIs (.ref a) "list" := ⟨_, hx, rfl⟩
  have hT5 : (⟨h, g, d, t, os⟩ : Shared).TypeIs (.builtin "list.append") "method_descriptor" := type_app
  have f4 := list_app
  have f5 := type_app
  have f6 := slot_md_get.lookup
  have f7 := md_set
  have f8 := md_del
  repeat (any_goals (first | assumption | wp_step))
  refine app_get hx rfl ?_
  exact wpAny_pure hq
theorem app_call {its : Array Value} {n : Nat} {tk : Tok} {R : Result → Shared → Prop} (hx : h.get? a = some (W.listOf its n)) (hq : R (.ok (.ret (.ref h.objs.size))) ⟨h.push (boundA a), g, d, t, os⟩) :
    codeAny (model prog w) A (.call (.builtin "list.__getattribute__") ⟨[.ref a, .str (Str.ofString "append") tk], []⟩) R ⟨h, g, d, t, os⟩ :=
  codeAny_call_builtin F.slot_list_getattribute.plain F.entry_list_ga (F.slot_list_getattribute.check _ _ _ _ _ _ _ _ (show (⟨h, g, d, t, os⟩ : Shared).TypeIs (.ref a) "list" from ⟨_, hx, rfl⟩) (F.args_list_getattribute_2 _ _) (app_entry hx hq))
theorem app_attr {its : Array Value} {n : Nat} {Q : Value → Shared → Prop} (hx : h.get? a = some (W.listOf its n)) (hq : ∀ k, Q (.ref h.objs.size) ⟨h.push (boundA a), g, d, k, os⟩) : wpAny (model prog w) A (getAttr (.ref a) (Str.ofString "append") true) Q E ⟨h, g, d, t, os⟩ := by
  have hT : (⟨h, g, d, t, os⟩ : Shared).TypeIs (.ref a) "list" := ⟨_, hx, rfl⟩
  have f2 := F.slot_list_getattribute.lookup
  have f3 := F.slot_list_getattribute.bind (.ref a)
  unfold getAttr getAttrBy
  repeat (any_goals (first | assumption | wp_step))
  refine app_call hx ?_
  exact wpAny_pure (hq _)
end
section
variable {prog : Program} {w : World} {A : Around} {E : Value → Shared → Prop} {s : Shared} {h₀ : Heap} {L : Addr} {m : Str → Option Value} {news news' : List (Addr × Obj)}
theorem bound_made {a : Addr} {its : Array Value} {n : Nat} {Q : Value → Shared → Prop} (F : Fr h₀ L s.heap m) (N : News h₀ L s.heap news) (hm : (a, W.listOf its n) ∈ news)
    (h : ∀ B h' k, Fr h₀ L h' m → News h₀ L h' ((B, boundA a) :: news) → (∀ p ∈ news, p.1 < B) → Q (.ref B) { s with heap := h', toks := k }) :
    wpAny (model prog w) A (getAttr (.ref a) (Str.ofString "append") true) Q E s := by
  obtain ⟨hh, g, d, t, os⟩ := s
  refine app_attr (N _ hm).1 fun k => h _ _ k (F.push _) (News.push F N _) fun p hp => Heap.lt_size (N p hp).1
theorem quiet_app {as : Args} : (Code.builtin "list.append" as).quiet = true := Code.quiet_builtin _ (by decide +kernel)
end
def sigApp : Manifest.Signature := ⟨.oneArg, "list.append", "append", .self, [⟨"object", .posOnly, true⟩]⟩
theorem sig_app : Manifest.signature? "list.append" = some sigApp := by
  rw [signature?_of (id := "list.append") (n := ['d', 'n', 'e', 'p', 'p', 'a']) (o := ['t', 's', 'i', 'l']) (by kernel_rfl) F.owner_list]; kernel_rfl
theorem kind_app : builtinKind "list.append" = some .method := by rw [builtinKind_eq_fast]; kernel_rfl
theorem args_app (a b : Value) : Bind.checkArgs "list.append" { machinery := sigApp.machinery, full := toString (Bind.lastOf "list") ++ toString "." ++ toString (Bind.lastOf "list.append"), short := sigApp.short, receiver := sigApp.receiver, params := sigApp.params } ⟨[a, b], []⟩ = pure () := by first | rfl | kernel_rfl
theorem no_varargs : Manifest.varargsMethods.contains "list.append" = false := by decide +kernel
theorem sub_list_module : isSubtype (.type "list") (.type "module") = pure false := by rw [isSubtype_type]; kernel_rfl
theorem sub_list_type : isSubtype (.type "list") (.type "type") = pure false := by rw [isSubtype_type]; kernel_rfl
section
variable {prog : Program} {w : World} {A : Around} {E : Value → Shared → Prop} {h : Heap} {g : Array GenState} {d : Drawn} {t : Nat} {os : OsState} {l : Addr} {o : Obj} {v : Value}
theorem check_app {its : Array Value} {n : Nat} {Q : Unit → Shared → Prop} (hx : h.get? l = some (W.listOf its n)) (hq : Q () ⟨h, g, d, t, os⟩) : wpAny (model prog w) A (checkBoundCall "list.append" ⟨[.ref l, v], []⟩) Q E ⟨h, g, d, t, os⟩ := by
  have hT : (⟨h, g, d, t, os⟩ : Shared).TypeIs (.ref l) "list" := ⟨_, hx, rfl⟩
  unfold checkBoundCall
  rw [sig_app, kind_app]
  dsimp only
  repeat (any_goals (first | assumption | wp_step))
  refine wpAny_of_eq sub_list_module ?_
  rw [no_varargs, if_neg (by decide)]
  unfold isType
  have ha := args_app (.ref l) v
  repeat (any_goals (first | assumption | wp_step))
  all_goals exact wpAny_of_eq ha hq
end

theorem offBoundM : True := by
  w_top off
  trivial
set_option maxRecDepth 100000
section
variable {prog : Program} {w : World} {A : Around} {E : Value → Shared → Prop} {s : Shared} {h₀ : Heap} {L : Addr} {m : Str → Option Value} {news news' : List (Addr × Obj)}
theorem bound_append {B l : Addr} {vs : List Value} {n : Nat} {v : Value} {Q : Value → Shared → Prop} (F : Fr h₀ L s.heap m) (N : News h₀ L s.heap news) (hB : (B, boundA l) ∈ news)
    (U : Upd l (W.listOf vs.toArray n) (W.listOf (vs ++ [v]).toArray (n + 1)) news news') (hl : vs.length ≤ 100000)
    (h : ∀ h', Fr h₀ L h' m → News h₀ L h' news' → Q .none { s with heap := h' }) : wpAny (model prog w) A (call (.ref B) [v]) Q E s := by
  obtain ⟨hh, g, d, t, os⟩ := s
  have hBo := (N _ hB).1
  obtain ⟨pre, post, rfl, rfl, a, b⟩ := U.split
  have z := N (l, W.listOf vs.toArray n) (List.mem_append.mpr (.inr (.head _)))
  refine wpAny_call (codeAny_of_tree ?_)
  show wpAny _ A.in1 (callAny (.ref B) ⟨[v], []⟩) _ _ _
  simp only [callAny]
  refine wpAny_bind (wpAny_load hBo ?_)
  dsimp only
  rw [if_pos (by decide)]
  show wpAny _ _ (if (Value.type "builtin_function_or_method" != Value.type "method") = true then (checkBoundCall "list.append" ⟨[.ref l, v], []⟩ >>= fun _ => again (.builtin "list.append" ⟨[.ref l, v], []⟩)) else _) _ _ _
  rw [if_pos (by decide)]
  refine wpAny_bind (check_app z.1 ?_)
  refine wpAny_pure ⟨quiet_app, codeAny_builtin PySem.F.entry_list_append ?_⟩
  show wpAny _ _ (updateSeq l (·.push v) >>= fun _ => ret .none) _ _ _
  refine wpAny_bind ?_
  have hsz : vs.toArray.size ≤ sizeLine := by rw [List.size_toArray, sizeLine_eq]; lia
  refine wpAny_updateSeq z.1 rfl (wpAny_pure ?_) hsz (by rw [Array.size_push]; lia)
  refine h _ (F.change (Heap.SameBut.update ..) z.2.1 z.2.2) ?_
  refine news_set N a b (Heap.SameBut.update ..) ?_
  rw [Heap.get?_update_self _ z.1 (by rw [mapSeq_push]; rfl)]
  show some (Obj.mapSeq _ { cls := .type "list", data := .seq vs.toArray n }) = _
  rw [mapSeq_push, List.push_toArray]
def StB (B l : Addr) (h : Heap) : Prop := h.get? B = some (boundA l)
theorem stb_of {B l : Addr} {h : Heap} (N : News h₀ L h news) (hm : (B, boundA l) ∈ news) : StB B l h := (N _ hm).1
theorem callWith_fieldsB {pos : Pos} {u l : Addr} {first : List Value} {args : List (Bool × Sem Value)} {Q : Value → Shared → Prop} (hplain : args.any (·.1) = false)
    (h : wpAny (model prog w) A (evalArgs (.ref u) true args []) (fun x s₁ => StB u l s₁.heap ∧ wpAny (model prog w) A (call (.ref u) (first ++ x.pos) x.kw) Q E s₁) E s) : wpAny (model prog w) A (callWith pos (.ref u) first args []) Q E s := by
  unfold callWith
  refine wpAny_bind (wpAny_holding (wpAny_mono h (fun x s₁ h₁ => wpAny_bind (wpAny_standAt ?_)) fun _ _ x => x))
  obtain ⟨ho, hcall⟩ := h₁
  simp only [hplain, List.any_nil, Bool.or_false]
  refine wpAny_bind (m := keeperOf (.ref u)) ?_
  unfold keeperOf
  refine wpAny_bind (wpAny_load ho ?_)
  simp only [boundA, show (Value.type "builtin_function_or_method" != Value.type "method") = true by decide, show (Value.type "builtin_function_or_method" == Value.type "builtin_function_or_method" || Value.type "builtin_function_or_method" == Value.type "method-wrapper") = true by decide, if_true]
  refine wpAny_pure ?_
  exact wpAny_bind (wpAny_mono hcall (fun r s₂ hr => wpAny_bind (wpAny_holding (wpAny_point (wpAny_pure hr)))) fun _ _ x => x)
theorem callWith_boundB {pos : Pos} {u l : Addr} {first : List Value} {env : Env} {e : Expr} {rest : List Expr} {Q : Value → Shared → Prop} (_N : News h₀ L s.heap news) (_hm : (u, boundA l) ∈ news)
    (h : wpAny (model prog w) A (spliced (backTo pos (starEach (e :: rest) env))) (fun vs s₁ => StB u l s₁.heap ∧ wpAny (model prog w) A (call (.ref u) (first ++ vs)) Q E s₁) E s)
    (he : starEach (e :: rest) env = (false, eval e env) :: starEach rest env := by rfl) (hplain : (backTo pos (starEach rest env)).any (·.1) = false := by rfl) :
    wpAny (model prog w) A (callWith pos (.ref u) first (backTo pos (starEach (e :: rest) env)) []) Q E s := by
  rw [he] at h ⊢
  refine callWith_fieldsB (l := l) (by show (false || (backTo pos (starEach rest env)).any (·.1)) = false; rw [hplain]; rfl) ?_
  exact evalArgs_plain h
end

theorem linesBoundM_1 : True := by
  k_with "getAttr ref" => ((with_reducible show wpAny _ _ (getAttr (Value.ref _) (PySem.Str.ofString "append") true) _ _ _); k_dflt (refine' bound_made (by k_asm) (by k_asm) (by k_mem) ?_; k_whole; intro Bu96' hu96' ku96' Fu96' Nu96' l1; (try k_lt l1); (try k_sweep)))
  k_with "callWith ref" => ((with_reducible show wpAny _ _ (callWith _ (Value.ref _) _ (backTo _ (starEach (_ :: _) _)) []) _ _ _); k_dflt (refine' callWith_boundB (by k_asm) (by k_mem) ?_; k_whole))
  k_with "And" => ((with_reducible show StB _ _ _ ∧ _); k_dflt (refine ⟨stb_of (by k_asm) (by k_mem), ?_⟩); (try dsimp only [List.nil_append, List.cons_append]))
  trivial
theorem offF11 : True := by
  w_top off
  trivial
inductive TokAre (S : Addr) : List Value → List (Option Str) → Prop
  | nil : TokAre S [] []
  | star {vs ts} : TokAre S vs ts → TokAre S (.ref S :: vs) (none :: ts)
  | str {vs ts} (y t) : TokAre S vs ts → TokAre S (.str y t :: vs) (some y :: ts)
theorem tok_len {S : Addr} : ∀ {vs : List Value} {ts : List (Option Str)}, TokAre S vs ts → vs.length = ts.length
  | _, _, .nil => rfl
  | _, _, .star h => by simp [tok_len h]
  | _, _, .str _ _ h => by simp [tok_len h]
theorem tok_star {S : Addr} : ∀ {vs : List Value} {ts : List (Option Str)}, TokAre S vs ts → TokAre S (vs ++ [.ref S]) (ts ++ [none])
  | _, _, .nil => .star .nil
  | _, _, .star h => .star (tok_star h)
  | _, _, .str y t h => .str y t (tok_star h)
theorem tok_str {S : Addr} {y : Str} {t : Tok} : ∀ {vs : List Value} {ts : List (Option Str)}, TokAre S vs ts → TokAre S (vs ++ [.str y t]) (ts ++ [some y])
  | _, _, .nil => .str y t .nil
  | _, _, .star h => .star (tok_str h)
  | _, _, .str y' t' h => .str y' t' (tok_str h)
theorem tok_snoc {S : Addr} : ∀ {vs : List Value} {ts : List (Option Str)} {b : Option Str}, TokAre S vs (ts ++ [b]) → ∃ vs', TokAre S vs' ts ∧ ((b = none ∧ vs = vs' ++ [.ref S]) ∨ ∃ y t, b = some y ∧ vs = vs' ++ [.str y t])
  | _, [], _, h => by
    cases h with
    | star h => cases h; exact ⟨[], .nil, .inl ⟨rfl, rfl⟩⟩
    | str y t h => cases h; exact ⟨[], .nil, .inr ⟨y, t, rfl, rfl⟩⟩
  | _, a :: r, b, h => by
    cases h with
    | star h =>
      obtain ⟨vs', h1, h2⟩ := tok_snoc h
      refine ⟨.ref S :: vs', .star h1, ?_⟩
      rcases h2 with ⟨e, rfl⟩ | ⟨y, t, e, rfl⟩
      · exact .inl ⟨e, rfl⟩
      · exact .inr ⟨y, t, e, rfl⟩
    | str y' t' h =>
      obtain ⟨vs', h1, h2⟩ := tok_snoc h
      refine ⟨.str y' t' :: vs', .str y' t' h1, ?_⟩
      rcases h2 with ⟨e, rfl⟩ | ⟨y, t, e, rfl⟩
      · exact .inl ⟨e, rfl⟩
      · exact .inr ⟨y, t, e, rfl⟩
def trStep (acc : List (Option Str)) (c : Str) : List (Option Str) :=
  if (c == Str.ofString "*") = true then (if acc.getLast? = some none then acc else acc ++ [none])
  else if (c == Str.ofString "?") = true then acc ++ [some (Str.ofString ".")]
  else acc ++ [some (escS c)]
def trF (x : Str) (i : Nat) : List (Option Str) := ((List.range i).map fun (j : Nat) => Txt.item x (j : Int)).foldl trStep []
theorem trF_succ (x : Str) (i : Nat) : trF x (i + 1) = trStep (trF x i) (Txt.item x (i : Int)) := by
  unfold trF; rw [List.range_succ, List.map_append, List.foldl_append]; rfl
def TrC (c : Str) : Prop := c = Str.ofString "*" ∨ c = Str.ofString "?" ∨ EscOk c
def TrOk (x : Str) : Prop := ∀ i : Nat, i < x.length → TrC (Txt.item x (i : Int))
section
variable {x : Str} {i : Nat} {a acc : List (Option Str)} {b c : Str}
theorem ts1 (e : acc = []) (h : (c == Str.ofString "*") = true) : trStep acc c = [none] := by subst e; unfold trStep; rw [if_pos h]; rfl
theorem ts2 (e : acc = a ++ [none]) (h : (c == Str.ofString "*") = true) : trStep acc c = a ++ [none] := by subst e; unfold trStep; rw [if_pos h, if_pos (by simp)]
theorem ts3 (e : acc = a ++ [some b]) (h : (c == Str.ofString "*") = true) : trStep acc c = a ++ [some b] ++ [none] := by subst e; unfold trStep; rw [if_pos h, if_neg (by simp)]
theorem ts4 (h : (c == Str.ofString "*") = false) (h2 : (c == Str.ofString "?") = true) : trStep acc c = acc ++ [some (Str.ofString ".")] := by unfold trStep; rw [if_neg (by rw [h]; decide), if_pos h2]
theorem ts5 (h : (c == Str.ofString "*") = false) (h2 : (c == Str.ofString "?") = false) : trStep acc c = acc ++ [some (escS c)] := by unfold trStep; rw [if_neg (by rw [h]; decide), if_neg (by rw [h2]; decide)]
theorem trc_esc (t : TrC c) (h : (c == Str.ofString "*") = false) (h2 : (c == Str.ofString "?") = false) : EscOk c := by
  rcases t with rfl | rfl | t
  · exact absurd h (by decide +kernel)
  · exact absurd h2 (by decide +kernel)
  · exact t
theorem trc_no (t : TrC c) : (c == Str.ofString "[") = false := by
  rcases t with rfl | rfl | rfl | rfl | rfl | rfl | rfl <;> decide +kernel
end
theorem trF_zero (x : Str) : trF x 0 = [] := rfl
theorem trF_len (x : Str) : ∀ i, (trF x i).length ≤ i
  | 0 => by rw [trF_zero]; exact Nat.le_refl _
  | i + 1 => by
    have := trF_len x i
    rw [trF_succ]; unfold trStep
    split
    · split <;> (try rw [List.length_append, List.length_singleton]) <;> lia
    · split <;> rw [List.length_append, List.length_singleton] <;> lia
def TransI (m₀ : Str → Option Value) (x : Str) (S R B : Addr) (k : Nat) (m : Str → Option Value) (nx : List (Addr × Obj)) : Prop :=
  ∃ (i : Nat) (u : Str → Option Value) (n : Nat) (vs : List Value) (ti : Tok), (m = fun z => if z = Str.ofString "i" then some (.int (i : Nat) ti) else if z = Str.ofString "c" then u z else m₀ z) ∧
    nx = [(B, boundA R), (R, W.listOf vs.toArray n)] ∧ TokAre S vs (trF x i) ∧ i ≤ x.length ∧ k = x.length - i
section
variable {prog : Program} {w : World} {A : Around} {E : Value → Shared → Prop} {Q : Flow → Shared → Prop} {s : Shared} {env : Env} {h₀ : Heap} {L : Addr}
theorem trans_loop {test : Expr} {body : List Stmt} {pos : Pos} {m₀ : Str → Option Value} {news : List (Addr × Obj)} {x : Str} {S R B : Addr} {t₀ : Tok} {n₀ : Nat}
    (F : Fr h₀ L s.heap m₀) (N : News h₀ L s.heap news) (mB : (B, boundA R) ∈ news) (mR : (R, W.listOf #[] n₀) ∈ news) (hi : m₀ (Str.ofString "i") = some (.int 0 t₀)) (hS : m₀ (Str.ofString "STAR") = some (.ref S)) (hne : @Ne Nat B R) (hx : x.length ≤ 100) (ok : TrOk x)
    (turn0 : ∀ (i : Nat) (u : Str → Option Value) (n : Nat) (ti : Tok) (h : Heap) (tk : Nat), @Ne Nat B R → i ≤ x.length → x.length ≤ 100 → (i < x.length → TrC (Txt.item x (i : Int))) → trF x i = [] → TokAre S [] (trF x i) →
      Fr h₀ L h (fun z => if z = Str.ofString "i" then some (.int (i : Nat) ti) else if z = Str.ofString "c" then u z else m₀ z) → News h₀ L h [(B, boundA R), (R, W.listOf #[] n)] →
      wpAny (model prog w) A (isTrue test env (eval test env)) (fun b s₂ => if b = true then wpAny (model prog w) A (execs body env) (WvPost h₀ L (fun m' nx' => ∃ n', n' < x.length - i ∧ TransI m₀ x S R B n' m' nx') { s with heap := h, toks := tk } Q) E s₂ else Q .next s₂) E { s with heap := h, toks := tk })
    (turn1 : ∀ (i : Nat) (u : Str → Option Value) (n : Nat) (ti : Tok) (vs : List Value) (a : List (Option Str)) (h : Heap) (tk : Nat), @Ne Nat B R → i ≤ x.length → x.length ≤ 100 → vs.length ≤ 100 → (i < x.length → TrC (Txt.item x (i : Int))) → trF x i = a ++ [none] → TokAre S vs a → TokAre S (vs ++ [Value.ref S]) (trF x i) →
      Fr h₀ L h (fun z => if z = Str.ofString "i" then some (.int (i : Nat) ti) else if z = Str.ofString "c" then u z else m₀ z) → News h₀ L h [(B, boundA R), (R, W.listOf (vs ++ [Value.ref S]).toArray n)] →
      wpAny (model prog w) A (isTrue test env (eval test env)) (fun b s₂ => if b = true then wpAny (model prog w) A (execs body env) (WvPost h₀ L (fun m' nx' => ∃ n', n' < x.length - i ∧ TransI m₀ x S R B n' m' nx') { s with heap := h, toks := tk } Q) E s₂ else Q .next s₂) E { s with heap := h, toks := tk })
    (turn2 : ∀ (i : Nat) (u : Str → Option Value) (n : Nat) (ti : Tok) (vs : List Value) (a : List (Option Str)) (b : Str) (tb : Tok) (h : Heap) (tk : Nat), @Ne Nat B R → i ≤ x.length → x.length ≤ 100 → vs.length ≤ 100 → (i < x.length → TrC (Txt.item x (i : Int))) → trF x i = a ++ [some b] → TokAre S vs a → TokAre S (vs ++ [Value.str b tb]) (trF x i) →
      Fr h₀ L h (fun z => if z = Str.ofString "i" then some (.int (i : Nat) ti) else if z = Str.ofString "c" then u z else m₀ z) → News h₀ L h [(B, boundA R), (R, W.listOf (vs ++ [Value.str b tb]).toArray n)] →
      wpAny (model prog w) A (isTrue test env (eval test env)) (fun b s₂ => if b = true then wpAny (model prog w) A (execs body env) (WvPost h₀ L (fun m' nx' => ∃ n', n' < x.length - i ∧ TransI m₀ x S R B n' m' nx') { s with heap := h, toks := tk } Q) E s₂ else Q .next s₂) E { s with heap := h, toks := tk })
    (hE : PassesOwn (model prog w) A env E) :
    wpAny (model prog w) A (exec (.While test body [] pos) env) Q E s := by
  refine while_gen (TransI m₀ x S R B) F (news := [(B, boundA R), (R, W.listOf #[] n₀)]) (fun p hp => ?_) (n₀ := x.length) ⟨0, m₀, n₀, [], t₀, ?_, rfl, by rw [trF_zero]; exact .nil, Nat.zero_le _, rfl⟩ ?_ hE
  · rcases List.mem_cons.mp hp with rfl | hp
    · exact N _ mB
    · rw [List.mem_singleton.mp hp]; exact N _ mR
  · funext z
    by_cases h1 : z = Str.ofString "i"
    · rw [if_pos h1, h1, hi]; rfl
    · rw [if_neg h1]; split <;> rfl
  · rintro k m₁ nx h₁ tk₁ ⟨i, u, n, vs, ti, rfl, rfl, tok, hil, rfl⟩ F₁ N₁
    have hl := tok_len tok
    have hl2 := trF_len x i
    rcases List.eq_nil_or_concat (trF x i) with e | ⟨a, b, e⟩
    · rw [e] at tok
      cases tok
      exact turn0 i u n ti h₁ tk₁ hne hil hx (ok i) e (by rw [e]; exact .nil) F₁ N₁
    · rw [List.concat_eq_append] at e
      have tok' := tok
      rw [e] at tok
      obtain ⟨vs', h1, h2⟩ := tok_snoc tok
      rcases h2 with ⟨rfl, rfl⟩ | ⟨y, t, rfl, rfl⟩
      · exact turn1 i u n ti vs' a h₁ tk₁ hne hil hx (by simp at hl; lia) (ok i) e h1 tok' F₁ N₁
      · exact turn2 i u n ti vs' a y t h₁ tk₁ hne hil hx (by simp at hl; lia) (ok i) e h1 tok' F₁ N₁
end
theorem linesF11_1 : True := by
  k_with "exec While Compare cons nil" => ((with_reducible show wpAny _ _ (exec (Stmt.While (Expr.Compare (Expr.Name (PySem.Str.ofString "i") _) _ [Expr.Name (PySem.Str.ofString "n") _] _) (Stmt.Assign _ _ _ :: _) _ _) _) _ _ _); (rename Fr _ _ _ _ => lFu99'); (rename News _ _ _ _ => lNu99'); (with_reducible rename TrOk _ => oku99'); (k_dflt ((refine' trans_loop (R := _) (B := _) (S := _) lFu99' lNu99' (by k_mem) (by k_mem) (by exact rfl) (by exact rfl) (by walk_at "mine:nes") (by assumption) oku99' ?_ ?_ ?_ (by passes_own)))); intros; clear lFu99' lNu99'; (try k_fold))
  k_with "execs cons" => (with_reducible rename (_ == Str.ofString "[") = true => q9u100; with_reducible rename (_ < _ → TrC _) => r9u100; exact absurd q9u100 (by rw [trc_no (r9u100 (by omega))]; decide))
  trivial
theorem trans_post {h₀ h' : Heap} {L S D : Addr} {news : List (Addr × Obj)} {x : Str} {i n : Nat} {vs : List Value} (tok : TokAre S vs (trF x i)) (hi : i = x.length) (N : News h₀ L h' news) (hm : (D, W.listOf vs.toArray n) ∈ news) :
    ∃ (D' : Addr) (vs : List Value) (n : Nat), Value.ref D = Value.ref D' ∧ TokAre S vs (trF x x.length) ∧ h'.get? D' = some (W.listOf vs.toArray n) ∧ h₀.get? D' = none := by
  subst hi; exact ⟨D, vs, n, rfl, tok, (N _ hm).1, (N _ hm).2.2⟩
abbrev transStored : List Str := [Str.ofString "i", Str.ofString "c"]
theorem keeps_upg {m' m : Str → Option Value} {v : Str → Option Value} {st : List Str} {x : Str} (hx : st.contains x = true) (h : ∀ z, st.contains z = false → m' z = m z) : ∀ z, st.contains z = false → (fun y => if y = x then v y else m' y) z = m z := by
  intro z hz
  have : z ≠ x := by rintro rfl; rw [hx] at hz; cases hz
  show (if z = x then v z else m' z) = m z
  rw [if_neg this]; exact h z hz
theorem keeps_updR {m' m : Str → Option Value} {v : Option Value} {st : List Str} {x : Str} (hx : st.contains x = true) (h : ∀ z, st.contains z = false → m' z = m z) : ∀ z, st.contains z = false → m' z = (fun y => if y = x then v else m y) z := by
  intro z hz
  have : z ≠ x := by rintro rfl; rw [hx] at hz; cases hz
  show m' z = (if z = x then v else m z)
  rw [if_neg this]; exact h z hz
theorem trans_close {h₀ h' : Heap} {L S R B : Addr} {s₁ : Shared} {tk n i : Nat} {m₀ m' : Str → Option Value} {news' : List (Addr × Obj)} {x : Str} {vs : List Value} {ti : Tok} {v : Int}
    (F : Fr h₀ L h' m') (N : News h₀ L h' news') (hi : m' (Str.ofString "i") = some (.int v ti)) (hv : v = (i : Int) + 1) (mB : (B, boundA R) ∈ news') (mR : (R, W.listOf vs.toArray n) ∈ news')
    (hl : (i : Int) < (x.length : Int)) (hm : ∀ z, transStored.contains z = false → m' z = m₀ z) (tok : TokAre S vs (trStep (trF x i) (Txt.item x (i : Int)))) :
    WvEnd h₀ L (fun m' nx' => ∃ n', n' < x.length - i ∧ TransI m₀ x S R B n' m' nx') s₁ { s₁ with heap := h', toks := tk } := by
  refine wv_end [(B, boundA R), (R, W.listOf vs.toArray n)] F N (fun p hp => ?_) ⟨x.length - (i + 1), by lia, i + 1, m', n, vs, ti, ?_, rfl, by rw [trF_succ]; exact tok, by lia, rfl⟩
  · rcases List.mem_cons.mp hp with rfl | hp
    · exact mB
    · rw [List.mem_singleton.mp hp]; exact mR
  · funext z
    by_cases h1 : z = Str.ofString "i"
    · rw [if_pos h1, h1, hi, hv]; rfl
    · rw [if_neg h1]
      by_cases h2 : z = Str.ofString "c"
      · rw [if_pos h2]
      · rw [if_neg h2]; exact hm z (by simp only [transStored, List.contains_cons, List.contains_nil, Bool.or_false, beq_eq_false_iff_ne.mpr h1, beq_eq_false_iff_ne.mpr h2])
theorem linesF11_2 : True := by
  k_with "compareOp IsNot ref ref" => ((with_reducible show wpAny _ _ (compareOp CmpOp.IsNot (Value.ref _) (Value.ref _)) _ _ _); with_reducible refine wpAny_isNot_ref_self ?_)
  k_with "compareOp IsNot str ref" => ((with_reducible show wpAny _ _ (compareOp CmpOp.IsNot (Value.str _ _) (Value.ref _)) _ _ _); refine wpAny_isNot_other (by rfl) (by intro x; cases x) ?_)
  k_with "call ref" => ((with_reducible show wpAny _ _ (call (Value.ref _) [_]) _ _ _); k_dflt (refine' bound_append (by k_asm) (by k_asm) (by k_mem) (by k_upd) (by walk_at "mine:short") ?_; k_whole; intro hu103' Fu103' Nu103'; (try k_sweep)))
  k_with "mine:short" => (simp only [List.length_append, List.length_cons, List.length_nil]; omega)
  k_with "mine:esc" => (with_reducible rename (_ < _ → TrC _) => r9u105; exact trc_esc (r9u105 (by omega)) (by with_reducible assumption) (by with_reducible assumption))
  k_with "mine:tok" => (first | ((with_reducible rw [ts1 (by assumption) (by assumption)]); exact .star .nil) | ((with_reducible rw [ts2 (by assumption) (by assumption)]); exact tok_star (by with_reducible assumption)) | ((with_reducible rw [ts3 (by assumption) (by assumption)]); exact tok_star (tok_str (by with_reducible assumption))) | ((with_reducible rw [ts4 (by assumption) (by assumption)]); exact tok_str (by with_reducible assumption)) | ((with_reducible rw [ts5 (by assumption) (by assumption)]); exact tok_str (by with_reducible assumption)))
  k_with "WvEnd" => ((with_reducible show WvEnd _ _ (fun _ _ => ∃ _, _ ∧ TransI _ _ _ _ _ _ _ _) _ _); (rename Fr _ _ _ _ => eF); (rename News _ _ _ _ => eN); (k_dflt (refine' trans_close eF eN (by exact rfl) (by omega) (by k_mem) (by k_mem) (by with_reducible assumption) (by (repeat (first | exact keeps_rfl | refine keeps_upd (by decide +kernel) ?_ | refine keeps_upg (by decide +kernel) ?_ | refine keeps_updR (by decide +kernel) ?_ | exact fun z hz => rfl))) (by walk_at "mine:tok"))))
  k_with "call ref" => ((with_reducible show wpAny _ _ (call (Value.ref 62) [Value.str _ _]) _ _ _); k_dflt (refine' Sp.use (sp_escape _ _ _ _ _ _) (by k_asm) (by k_asm) (by k_asm) (by k_asm) (by k_asm) (by first | exact rfl | assumption) (by ktr_room) (by ktr_units) (by walk_at "mine:esc") ?_); intro v9u108 h9u108 tk9u108 g9u108 F9u108 N9u108 p9u108; obtain ⟨t9u108, p9u108⟩ := p9u108; subst p9u108; (try k_sweep))
  trivial
set_option maxRecDepth 100000 in
set_option maxHeartbeats 1600000 in
theorem sp_trans (w : World) (mean : ExcName → Option Value) (mg mb : Str → Option Value) (x : Str) (t : Tok) (S : Addr) (t' : Tok) :
    About PySem.Challenge.rw_rt0094_01 Mine.pre.heap_1_1 (Sp w mean mg mb 69 [Value.str x t, Value.ref S, Value.str (Str.ofString ".") t'] 6 (fun h => x.length ≤ 100 ∧ TrOk x ∧ ∃ o, h.get? S = some o) (fun h h' v => ∃ (D : Addr) (vs : List Value) (n : Nat), v = Value.ref D ∧ TokAre S vs (trF x x.length) ∧ h'.get? D = some (W.listOf vs.toArray n) ∧ h.get? D = none)) := by
  k_fill; unfold About Sp; intro dp un gd cn cs a ccd cl outer A₀ base h₀ L m s Q E B F X T hk hd hu hp hret
  obtain ⟨hp1, hp2, oS, hp3⟩ := hp
  walk_at "mine:go"
  all_goals (try dsimp only)
  all_goals first
  | (exfalso; omega)
  | (refine sp_ret (s := s) (Q := Q) hret (by k_asm) ?_; exact trans_post (by assumption) (by omega) (by assumption) (by k_mem))

theorem offJoinF : True := by
  w_top off
  trivial
abbrev Toks := List (Option Str)
def tkAt (ts : Toks) (k : Int) : Option (Option Str) := ts[k.toNat]?
def NoDbl (ts : Toks) : Prop := ∀ k : Int, 0 ≤ k → tkAt ts k = some none → tkAt ts (k + 1) ≠ some none
def wS (xs : List Str) : Nat := (xs.map (·.length)).sum + xs.length
def tW (ts : Toks) : Nat := (ts.map fun o => match o with | none => 16 | some y => y.length + 1).sum
theorem wS_app (a b : List Str) : wS (a ++ b) = wS a + wS b := by simp [wS]; lia
theorem tW_app (a b : Toks) : tW (a ++ b) = tW a + tW b := by simp [tW]
theorem tW_some (xs : List Str) : tW (xs.map some) = wS xs := by
  induction xs with
  | nil => rfl
  | cons a r ih =>
    have h1 : tW ((a :: r).map some) = (a.length + 1) + tW (r.map some) := by simp [tW]
    have h2 : wS (a :: r) = (a.length + 1) + wS r := by simp [wS]; lia
    rw [h1, h2, ih]
/-- a run of texts -/
def SR (ts : Toks) (a i : Int) (xs : List Str) : Prop := 0 ≤ a ∧ a ≤ i ∧ i ≤ (ts.length : Int) ∧ ts.take i.toNat = ts.take a.toNat ++ xs.map some
theorem sr_start {ts : Toks} {a : Int} (h0 : 0 ≤ a) (h1 : a ≤ (ts.length : Int)) : SR ts a a [] := ⟨h0, Int.le_refl _, h1, by simp⟩
theorem take_int {ts : Toks} {i : Int} {o : Option Str} (h0 : 0 ≤ i) (h : tkAt ts i = some o) : ts.take (i + 1).toNat = ts.take i.toNat ++ [o] ∧ i + 1 ≤ (ts.length : Int) := by
  unfold tkAt at h
  have e : (i + 1).toNat = i.toNat + 1 := by lia
  have hl := (List.getElem?_eq_some_iff.mp h).1
  exact ⟨by rw [e]; exact take_next h, by lia⟩
theorem sr_step {ts : Toks} {a i : Int} {xs : List Str} {y : Str} (h : SR ts a i xs) (e : tkAt ts i = some (some y)) : SR ts a (i + 1) (xs ++ [y]) := by
  obtain ⟨h0, h1, h2, h3⟩ := h
  obtain ⟨t1, t2⟩ := take_int (by lia) e
  exact ⟨h0, by lia, t2, by rw [t1, h3]; simp⟩
theorem tW_take (ts : Toks) (n : Nat) : tW (ts.take n) ≤ tW ts := by
  have := tW_app (ts.take n) (ts.drop n)
  rw [List.take_append_drop] at this; lia
theorem sr_w {ts : Toks} {a i : Int} {xs : List Str} (h : SR ts a i xs) : tW (ts.take a.toNat) + wS xs = tW (ts.take i.toNat) := by
  rw [h.2.2.2, tW_app, tW_some]
theorem sr_w1 {ts : Toks} {a i : Int} {xs : List Str} (h : SR ts a i xs) (hw : tW ts ≤ 1000) : wS xs ≤ 1000 := by
  have := sr_w h
  have := tW_take ts i.toNat
  lia
theorem join_w (xs : List Str) : (Txt.join (Str.ofString "") xs).length = (xs.map (·.length)).sum := by
  have key : ∀ xs : List Str, (Str.join (Str.ofString "") xs).length = (xs.map (·.length)).sum := by
    intro xs
    induction xs with
    | nil => rfl
    | cons a r ih =>
      cases r with
      | nil => simp [Str.join]
      | cons b r =>
        rw [Str.join, Str.length_append, Str.length_append, ih]
        have : (Str.ofString "").length = 0 := by decide +kernel
        rw [this]; simp
        exact List.cons_ne_nil _ _
  rw [← key]
  unfold Txt.join
  rw [StrLaws.glued_eq_join]
theorem join_le {xs : List Str} (h : wS xs ≤ 1000) : (Txt.join (Str.ofString "") xs).length ≤ 1000 := by
  rw [join_w]; unfold wS at h; lia
def grp (x : Str) : Str := Str.ofString "(?>.*?" ++ x ++ Str.ofString ")"
theorem grp_len (x : Str) : (grp x).length = x.length + 7 := by
  unfold grp; rw [Str.length_append, Str.length_append]
  have h1 : (Str.ofString "(?>.*?").length = 6 := by decide +kernel
  have h2 : (Str.ofString ")").length = 1 := by decide +kernel
  lia
/-- what the second loop has made when it stands at a star -/
inductive JR (ts : Toks) : Int → List Str → Prop
  | start {i xs} : SR ts 0 i xs → JR ts i xs
  | step {i j res xs} : JR ts i res → 0 ≤ i → tkAt ts i = some none → SR ts (i + 1) j xs → tkAt ts j = some none → JR ts j (res ++ [grp (Txt.join (Str.ofString "") xs)])
/-- what it has made at the end -/
inductive JF (ts : Toks) : List Str → Prop
  | none {i res} : JR ts i res → i = (ts.length : Int) → JF ts res
  | last {i res} : JR ts i res → 0 ≤ i → tkAt ts i = some none → i + 1 = (ts.length : Int) → JF ts (res ++ [Str.ofString ".*"])
  | tail {i j res xs} : JR ts i res → 0 ≤ i → tkAt ts i = some none → SR ts (i + 1) j xs → j = (ts.length : Int) → i + 1 ≠ (ts.length : Int) → JF ts (res ++ [Str.ofString ".*"] ++ [Txt.join (Str.ofString "") xs])
theorem jr_w {ts : Toks} {i : Int} {res : List Str} (h : JR ts i res) : wS res ≤ tW (ts.take i.toNat) := by
  induction h with
  | start h => have := sr_w h; lia
  | @step i j res xs hj h0 e h e3 ih =>
    have h1 := sr_w h
    obtain ⟨t1, _⟩ := take_int h0 e
    rw [t1, tW_app] at h1
    have h2 : tW [(none : Option Str)] = 16 := rfl
    rw [wS_app]
    have h3 : ∀ x : Str, wS [x] = x.length + 1 := fun x => by simp [wS]
    rw [h3, grp_len, join_w]

    have h4 : (xs.map (·.length)).sum ≤ wS xs := by unfold wS; lia
    lia
theorem jf_w {ts : Toks} {res : List Str} (h : JF ts res) (hw : tW ts ≤ 900) : wS res ≤ 1000 := by
  have h3 : ∀ x : Str, wS [x] = x.length + 1 := fun x => by simp [wS]
  have h5 : (Str.ofString ".*").length = 2 := by decide +kernel
  cases h with
  | none hj e => have := jr_w hj; have := tW_take ts (ts.length); subst e; have := tW_take ts ((ts.length : Int)).toNat; lia
  | last hj h0 e1 e2 => rename_i i res; have := jr_w hj; have := tW_take ts i.toNat; rw [wS_app, h3, h5]; lia
  | tail hj h0 e1 h e2 e3 =>
    rename_i i j res xs
    have a1 := jr_w hj
    have a2 := sr_w h
    obtain ⟨t1, _⟩ := take_int h0 e1
    rw [t1, tW_app] at a2
    have a3 := tW_take ts j.toNat
    have h2 : tW [(none : Option Str)] = 16 := rfl
    rw [wS_app, wS_app, h3, h3, join_w, h5]
    have h4 : (xs.map (·.length)).sum ≤ wS xs := by unfold wS; lia
    lia

theorem offF12a : True := by
  w_top off
  trivial
theorem tok_get {S : Addr} : ∀ {vs : List Value} {ts : Toks} {i : Nat} {o : Option Str}, TokAre S vs ts → ts[i]? = some o → ∃ v, vs[i]? = some v ∧ ((o = none ∧ v = .ref S) ∨ ∃ y t, o = some y ∧ v = .str y t)
  | _, _, 0, _, .star _, e => by cases e; exact ⟨_, rfl, .inl ⟨rfl, rfl⟩⟩
  | _, _, 0, _, .str y t _, e => by cases e; exact ⟨_, rfl, .inr ⟨y, t, rfl, rfl⟩⟩
  | _, _, i + 1, _, .star h, e => by
    obtain ⟨v, h1, h2⟩ := tok_get (i := i) h (by simpa using e)
    exact ⟨v, by simpa using h1, h2⟩
  | _, _, i + 1, _, .str _ _ h, e => by
    obtain ⟨v, h1, h2⟩ := tok_get (i := i) h (by simpa using e)
    exact ⟨v, by simpa using h1, h2⟩
section
variable {prog : Program} {w : World} {A : Around} {E : Value → Shared → Prop} {s : Shared} {h₀ : Heap} {L P S : Addr} {m : Str → Option Value} {vs : List Value} {ts : Toks} {k k0 : Int} {u : Tok} {value slice : Expr} {y : Str} {Q : Value → Shared → Prop}
theorem tk_any {o : Option Str} (F : Fr h₀ L s.heap m) (hl : h₀.IsList P vs.toArray) (tok : TokAre S vs ts) (h0 : 0 ≤ k) (hz : ts.length ≤ 1000) (hk : tkAt ts k = some o) (h1 : o = none → Q (.ref S) s) (h2 : ∀ y t, o = some y → Q (.str y t) s)
    (hs : subscripted slice false (.ref P) (.int k u) = operate [.ref P, .int k u] (getItem (.ref P) (.int k u)) := by with_unfolding_all rfl) :
    wpAny (model prog w) A (subscriptTail value slice (.ref P) (.int k u)) Q E s := by
  have hL : s.heap.IsList P vs.toArray := hl.at fun o e => F.keep P o e
  obtain ⟨v, e1, e2⟩ := tok_get tok hk
  have hlt := (List.getElem?_eq_some_iff.mp hk).1
  refine tail_any hL.typeIs slot_list_getitem.lookup (wpAny_getItem_list hL h0 (by lia) (x := v) (by simpa using e1) ?_) hs
  rcases e2 with ⟨ho, rfl⟩ | ⟨y, t, ho, rfl⟩
  · exact h1 ho
  · exact h2 y t ho
theorem tk_str (F : Fr h₀ L s.heap m) (hl : h₀.IsList P vs.toArray) (tok : TokAre S vs ts) (h0 : 0 ≤ k) (hz : ts.length ≤ 1000) (hk : tkAt ts k = some (some y)) (h : ∀ t, Q (.str y t) s)
    (hs : subscripted slice false (.ref P) (.int k u) = operate [.ref P, .int k u] (getItem (.ref P) (.int k u))) : wpAny (model prog w) A (subscriptTail value slice (.ref P) (.int k u)) Q E s :=
  tk_any F hl tok h0 hz hk (fun e => nomatch e) (fun y' t e => by cases e; exact h t) hs
theorem tk_star (F : Fr h₀ L s.heap m) (hl : h₀.IsList P vs.toArray) (tok : TokAre S vs ts) (h0 : 0 ≤ k) (hz : ts.length ≤ 1000) (hk : tkAt ts k = some none) (h : Q (.ref S) s)
    (hs : subscripted slice false (.ref P) (.int k u) = operate [.ref P, .int k u] (getItem (.ref P) (.int k u))) : wpAny (model prog w) A (subscriptTail value slice (.ref P) (.int k u)) Q E s :=
  tk_any F hl tok h0 hz hk (fun _ => h) (fun y' t e => nomatch e) hs
theorem tk_split (F : Fr h₀ L s.heap m) (hl : h₀.IsList P vs.toArray) (tok : TokAre S vs ts) (h0 : 0 ≤ k) (hz : ts.length ≤ 1000) (hlt : k < (ts.length : Int)) (hs : subscripted slice false (.ref P) (.int k u) = operate [.ref P, .int k u] (getItem (.ref P) (.int k u)))
    (h1 : tkAt ts k = some none → Q (.ref S) s) (h2 : ∀ y t, tkAt ts k = some (some y) → Q (.str y t) s) : wpAny (model prog w) A (subscriptTail value slice (.ref P) (.int k u)) Q E s := by
  obtain ⟨o, ho⟩ : ∃ o, tkAt ts k = some o := ⟨_, List.getElem?_eq_getElem (show k.toNat < ts.length by lia)⟩
  refine tk_any F hl tok h0 hz ho (fun e => h1 (by rw [ho, e])) (fun y t e => h2 y t (by rw [ho, e])) hs
theorem tk_after (F : Fr h₀ L s.heap m) (hl : h₀.IsList P vs.toArray) (tok : TokAre S vs ts) (h0 : 0 ≤ k0) (hz : ts.length ≤ 1000) (hn : NoDbl ts) (hp : tkAt ts k0 = some none) (hlt : k0 + 1 < (ts.length : Int)) (hs : subscripted slice false (.ref P) (.int (k0 + 1) u) = operate [.ref P, .int (k0 + 1) u] (getItem (.ref P) (.int (k0 + 1) u)))
    (h2 : ∀ y t, tkAt ts (k0 + 1) = some (some y) → Q (.str y t) s) : wpAny (model prog w) A (subscriptTail value slice (.ref P) (.int (k0 + 1) u)) Q E s :=
  tk_split F hl tok (by lia) hz hlt hs (fun e => absurd e (hn k0 h0 hp)) h2
end

theorem linesF12a_1 : True := by
  k_with "subscriptTail Name Name ref int" => ((with_reducible show wpAny _ _ (subscriptTail _ _ (Value.ref _) (Value.int _ _)) _ _ _); (with_reducible rename TokAre _ _ _ => toku109'); (k_dflt (refine' tk_split (by k_asm) (by with_reducible assumption) toku109' (by omega) (by with_reducible assumption) (by omega) (by with_unfolding_all rfl) ?_ ?_)); (intros))
  k_with "subscriptTail Name Name ref int" => ((with_reducible show wpAny _ _ (subscriptTail _ _ (Value.ref _) (Value.int (_ + 1) _)) _ _ _); (with_reducible rename TokAre _ _ _ => toku110'); (k_dflt (refine' tk_after (by k_asm) (by with_reducible assumption) toku110' (by omega) (by with_reducible assumption) (by with_reducible assumption) (by with_reducible assumption) (by omega) (by with_unfolding_all rfl) ?_)); (intros))
  k_with "subscriptTail Name Name ref int" => ((with_reducible show wpAny _ _ (subscriptTail _ _ (Value.ref _) (Value.int _ _)) _ _ _); (with_reducible rename TokAre _ _ _ => toku111'); (k_dflt (refine' tk_star (by k_asm) (by with_reducible assumption) toku111' (by omega) (by with_reducible assumption) (by with_reducible assumption) ?_ (by with_unfolding_all rfl))); skip)
  k_with "subscriptTail Name Name ref int" => ((with_reducible show wpAny _ _ (subscriptTail _ _ (Value.ref _) (Value.int _ _)) _ _ _); (with_reducible rename TokAre _ _ _ => toku112'); (k_dflt (refine' tk_str (by k_asm) (by with_reducible assumption) toku112' (by omega) (by with_reducible assumption) (by with_reducible assumption) ?_ (by with_unfolding_all rfl))); (intros))
  trivial
def J1I (m₀ : Str → Option Value) (ts : Toks) (R B : Addr) (k : Nat) (m : Str → Option Value) (nx : List (Addr × Obj)) : Prop :=
  ∃ (i : Int) (ti : Tok) (n : Nat) (vs : List Value) (xs : List Str), (m = fun z => if z = Str.ofString "i" then some (.int i ti) else m₀ z) ∧ nx = [(B, boundA R), (R, W.listOf vs.toArray n)] ∧ StrsAre vs xs ∧ SR ts 0 i xs ∧ k = ((ts.length : Int) - i).toNat
def J3I (m₀ : Str → Option Value) (ts : Toks) (a : Int) (R B Fx : Addr) (oR : Obj) (k : Nat) (m : Str → Option Value) (nx : List (Addr × Obj)) : Prop :=
  ∃ (i : Int) (ti : Tok) (n : Nat) (vs : List Value) (xs : List Str), (m = fun z => if z = Str.ofString "i" then some (.int i ti) else m₀ z) ∧ nx = [(Fx, W.listOf vs.toArray n), (B, boundA R), (R, oR)] ∧ StrsAre vs xs ∧ SR ts a i xs ∧ k = ((ts.length : Int) - i).toNat
def J2I (m₀ : Str → Option Value) (ts : Toks) (R B : Addr) (k : Nat) (m : Str → Option Value) (nx : List (Addr × Obj)) : Prop :=
  ∃ (i : Int) (ti : Tok) (u : Str → Option Value) (n : Nat) (vs : List Value) (xs : List Str), (m = fun z => if z = Str.ofString "i" then some (.int i ti) else if z = Str.ofString "fixed" then u z else m₀ z) ∧ nx = [(B, boundA R), (R, W.listOf vs.toArray n)] ∧ StrsAre vs xs ∧
    ((JR ts i xs ∧ 0 ≤ i ∧ tkAt ts i = some none) ∨ (i = (ts.length : Int) ∧ JF ts xs)) ∧ k = ((ts.length : Int) - i).toNat
theorem sr_len {ts : Toks} {a i : Int} {xs : List Str} (h : SR ts a i xs) : 0 ≤ a ∧ a ≤ i ∧ i ≤ (ts.length : Int) ∧ (xs.length : Int) ≤ (ts.length : Int) := by
  obtain ⟨h0, h1, h2, h3⟩ := h
  have e := congrArg List.length h3
  rw [List.length_append, List.length_map, List.length_take] at e
  exact ⟨h0, h1, h2, by lia⟩
theorem wS_len (xs : List Str) : xs.length ≤ wS xs := by unfold wS; lia
section
variable {prog : Program} {w : World} {A : Around} {E : Value → Shared → Prop} {Q : Flow → Shared → Prop} {s : Shared} {env : Env} {h₀ : Heap} {L : Addr}
theorem join1_loop {test : Expr} {body : List Stmt} {pos : Pos} {m₀ : Str → Option Value} {news : List (Addr × Obj)} {ts : Toks} {R B : Addr} {t₀ : Tok} {n₀ : Nat} (hz : ts.length ≤ 1000)
    (F : Fr h₀ L s.heap m₀) (N : News h₀ L s.heap news) (mB : (B, boundA R) ∈ news) (mR : (R, W.listOf #[] n₀) ∈ news) (hi : m₀ (Str.ofString "i") = some (.int 0 t₀)) (hne : @Ne Nat B R)
    (turn : ∀ (i : Int) (ti : Tok) (n : Nat) (vs : List Value) (xs : List Str) (h : Heap) (tk : Nat), @Ne Nat B R → StrsAre vs xs → SR ts 0 i xs → 0 ≤ i → i ≤ (ts.length : Int) → vs.length ≤ 1000 →
      Fr h₀ L h (fun z => if z = Str.ofString "i" then some (.int i ti) else m₀ z) → News h₀ L h [(B, boundA R), (R, W.listOf vs.toArray n)] →
      wpAny (model prog w) A (isTrue test env (eval test env)) (fun b s₂ => if b = true then wpAny (model prog w) A (execs body env) (WvPost h₀ L (fun m' nx' => ∃ n', n' < ((ts.length : Int) - i).toNat ∧ J1I m₀ ts R B n' m' nx') { s with heap := h, toks := tk } Q) E s₂ else Q .next s₂) E { s with heap := h, toks := tk })
    (hE : PassesOwn (model prog w) A env E) : wpAny (model prog w) A (exec (.While test body [] pos) env) Q E s := by
  refine while_gen (J1I m₀ ts R B) F (news := [(B, boundA R), (R, W.listOf #[] n₀)]) (fun p hp => ?_) (n₀ := ts.length) ⟨0, t₀, n₀, [], [], ?_, rfl, .nil, sr_start (Int.le_refl _) (by lia), by lia⟩ ?_ hE
  · rcases List.mem_cons.mp hp with rfl | hp
    · exact N _ mB
    · rw [List.mem_singleton.mp hp]; exact N _ mR
  · funext z
    by_cases h1 : z = Str.ofString "i"
    · rw [if_pos h1, h1, hi]
    · rw [if_neg h1]
  · rintro k m₁ nx h₁ tk₁ ⟨i, ti, n, vs, xs, rfl, rfl, hv, hs, rfl⟩ F₁ N₁
    have := sr_len hs
    exact turn i ti n vs xs h₁ tk₁ hne hv hs (by lia) (by lia) (by rw [strs_len hv]; lia) F₁ N₁
theorem join3_loop {test : Expr} {body : List Stmt} {pos : Pos} {m₀ : Str → Option Value} {news : List (Addr × Obj)} {ts : Toks} {a : Int} {R B Fx : Addr} {oR : Obj} {t₀ : Tok} {n₀ : Nat} (hz : ts.length ≤ 1000)
    (F : Fr h₀ L s.heap m₀) (N : News h₀ L s.heap news) (mF : (Fx, W.listOf #[] n₀) ∈ news) (mB : (B, boundA R) ∈ news) (mR : (R, oR) ∈ news) (hi : m₀ (Str.ofString "i") = some (.int a t₀)) (ha : 0 ≤ a) (hal : a ≤ (ts.length : Int)) (hne : @Ne Nat Fx B ∧ @Ne Nat Fx R ∧ @Ne Nat B R)
    (turn : ∀ (i : Int) (ti : Tok) (n : Nat) (vs : List Value) (xs : List Str) (h : Heap) (tk : Nat), (@Ne Nat Fx B ∧ @Ne Nat Fx R ∧ @Ne Nat B R) → StrsAre vs xs → SR ts a i xs → 0 ≤ i → a ≤ i → i ≤ (ts.length : Int) → vs.length ≤ 1000 →
      Fr h₀ L h (fun z => if z = Str.ofString "i" then some (.int i ti) else m₀ z) → News h₀ L h [(Fx, W.listOf vs.toArray n), (B, boundA R), (R, oR)] →
      wpAny (model prog w) A (isTrue test env (eval test env)) (fun b s₂ => if b = true then wpAny (model prog w) A (execs body env) (WvPost h₀ L (fun m' nx' => ∃ n', n' < ((ts.length : Int) - i).toNat ∧ J3I m₀ ts a R B Fx oR n' m' nx') { s with heap := h, toks := tk } Q) E s₂ else Q .next s₂) E { s with heap := h, toks := tk })
    (hE : PassesOwn (model prog w) A env E) : wpAny (model prog w) A (exec (.While test body [] pos) env) Q E s := by
  refine while_gen (J3I m₀ ts a R B Fx oR) F (news := [(Fx, W.listOf #[] n₀), (B, boundA R), (R, oR)]) (fun p hp => ?_) (n₀ := ((ts.length : Int) - a).toNat) ⟨a, t₀, n₀, [], [], ?_, rfl, .nil, sr_start ha hal, rfl⟩ ?_ hE
  · rcases List.mem_cons.mp hp with rfl | hp
    · exact N _ mF
    rcases List.mem_cons.mp hp with rfl | hp
    · exact N _ mB
    · rw [List.mem_singleton.mp hp]; exact N _ mR
  · funext z
    by_cases h1 : z = Str.ofString "i"
    · rw [if_pos h1, h1, hi]
    · rw [if_neg h1]
  · rintro k m₁ nx h₁ tk₁ ⟨i, ti, n, vs, xs, rfl, rfl, hv, hs, rfl⟩ F₁ N₁
    have := sr_len hs
    exact turn i ti n vs xs h₁ tk₁ hne hv hs (by lia) (by lia) (by lia) (by rw [strs_len hv]; lia) F₁ N₁
theorem join2_loop {test : Expr} {body : List Stmt} {pos : Pos} {m₀ : Str → Option Value} {news : List (Addr × Obj)} {ts : Toks} {R B : Addr} {i₀ : Int} {t₀ : Tok} {n₀ : Nat} {vs₀ : List Value} {xs₀ : List Str} (hz : ts.length ≤ 1000) (hw : tW ts ≤ 900)
    (F : Fr h₀ L s.heap m₀) (N : News h₀ L s.heap news) (mB : (B, boundA R) ∈ news) (mR : (R, W.listOf vs₀.toArray n₀) ∈ news) (hi : m₀ (Str.ofString "i") = some (.int i₀ t₀)) (hne : @Ne Nat B R)
    (hv₀ : StrsAre vs₀ xs₀) (hs₀ : SR ts 0 i₀ xs₀) (he : tkAt ts i₀ = some none ∨ i₀ = (ts.length : Int))
    (turnA : ∀ (i : Int) (ti : Tok) (u : Str → Option Value) (n : Nat) (vs : List Value) (xs : List Str) (h : Heap) (tk : Nat), @Ne Nat B R → StrsAre vs xs → JR ts i xs → 0 ≤ i → i < (ts.length : Int) → tkAt ts i = some none → vs.length ≤ 1000 →
      Fr h₀ L h (fun z => if z = Str.ofString "i" then some (.int i ti) else if z = Str.ofString "fixed" then u z else m₀ z) → News h₀ L h [(B, boundA R), (R, W.listOf vs.toArray n)] →
      wpAny (model prog w) A (isTrue test env (eval test env)) (fun b s₂ => if b = true then wpAny (model prog w) A (execs body env) (WvPost h₀ L (fun m' nx' => ∃ n', n' < ((ts.length : Int) - i).toNat ∧ J2I m₀ ts R B n' m' nx') { s with heap := h, toks := tk } Q) E s₂ else Q .next s₂) E { s with heap := h, toks := tk })
    (turnB : ∀ (i : Int) (ti : Tok) (u : Str → Option Value) (n : Nat) (vs : List Value) (xs : List Str) (h : Heap) (tk : Nat), @Ne Nat B R → StrsAre vs xs → i = (ts.length : Int) → JF ts xs → vs.length ≤ 1000 →
      Fr h₀ L h (fun z => if z = Str.ofString "i" then some (.int i ti) else if z = Str.ofString "fixed" then u z else m₀ z) → News h₀ L h [(B, boundA R), (R, W.listOf vs.toArray n)] →
      wpAny (model prog w) A (isTrue test env (eval test env)) (fun b s₂ => if b = true then wpAny (model prog w) A (execs body env) (WvPost h₀ L (fun m' nx' => ∃ n', n' < ((ts.length : Int) - i).toNat ∧ J2I m₀ ts R B n' m' nx') { s with heap := h, toks := tk } Q) E s₂ else Q .next s₂) E { s with heap := h, toks := tk })
    (hE : PassesOwn (model prog w) A env E) : wpAny (model prog w) A (exec (.While test body [] pos) env) Q E s := by
  have hsl := sr_len hs₀
  refine while_gen (J2I m₀ ts R B) F (news := [(B, boundA R), (R, W.listOf vs₀.toArray n₀)]) (fun p hp => ?_) (n₀ := ((ts.length : Int) - i₀).toNat) ⟨i₀, t₀, m₀, n₀, vs₀, xs₀, ?_, rfl, hv₀, ?_, rfl⟩ ?_ hE
  · rcases List.mem_cons.mp hp with rfl | hp
    · exact N _ mB
    · rw [List.mem_singleton.mp hp]; exact N _ mR
  · funext z
    by_cases h1 : z = Str.ofString "i"
    · rw [if_pos h1, h1, hi]
    · rw [if_neg h1]; split <;> rfl
  · rcases he with he | he
    · exact .inl ⟨.start hs₀, by lia, he⟩
    · exact .inr ⟨he, .none (.start hs₀) he⟩
  · rintro k m₁ nx h₁ tk₁ ⟨i, ti, u, n, vs, xs, rfl, rfl, hv, hs, rfl⟩ F₁ N₁
    rcases hs with ⟨h1, h2, h3⟩ | ⟨h1, h2⟩
    · have hlt := (List.getElem?_eq_some_iff.mp h3).1
      have a1 := jr_w h1
      have a2 := tW_take ts i.toNat
      have a3 := wS_len xs
      exact turnA i ti u n vs xs h₁ tk₁ hne hv h1 h2 (by lia) h3 (by rw [strs_len hv]; lia) F₁ N₁
    · have a1 := jf_w h2 hw
      have a3 := wS_len xs
      exact turnB i ti u n vs xs h₁ tk₁ hne hv h1 h2 (by rw [strs_len hv]; lia) F₁ N₁
end

theorem offF12 : True := by
  w_top off
  trivial
section
variable {prog : Program} {w : World} {A : Around} {E : Value → Shared → Prop} {s : Shared}
theorem join_wS {D : Addr} {vs : List Value} {ys : List Str} {t : Tok} {Q : Value → Shared → Prop} (hl : s.heap.IsList D vs.toArray) (hi : StrsAre vs ys) (hw : wS ys ≤ 1000)
    (h : ∀ t' k, (Txt.join (Str.ofString "") ys).length ≤ 1000 → Q (.str (Txt.join (Str.ofString "") ys) t') { s with toks := k }) : wpAny (model prog w) A (call (.builtin "str.join") [.str (Str.ofString "") t, .ref D]) Q E s :=
  join_listW hl hi (by decide +kernel) (by unfold wS at hw; lia) fun t' k => h t' k (join_le hw)
theorem len_tok {h₀ : Heap} {L P : Addr} {m : Str → Option Value} {vs : List Value} {ts : Toks} {Q : Value → Shared → Prop} (F : Fr h₀ L s.heap m) (hl : h₀.IsList P vs.toArray) (e : vs.length = ts.length) (hz : ts.length ≤ 1000) (h : ∀ t k, Q (.int (ts.length : Nat) t) { s with toks := k }) :
    wpAny (model prog w) A (call (.builtin "len") [.ref P]) Q E s :=
  call_len_list (hl.at fun o e => F.keep P o e) (by rw [List.size_toArray]; lia) (by rw [List.size_toArray, e]; exact h _ _)
end
theorem linesF12_1 : True := by
  k_with "call builtin:len" => ((with_reducible show wpAny _ _ (call (Value.builtin "len") [Value.ref _]) _ _ _); k_dflt (refine' len_tok (by k_asm) (by with_reducible assumption) (by with_reducible assumption) (by with_reducible assumption) ?_; k_whole; intro tu113' ku113'))
  trivial
abbrev iStored : List Str := [Str.ofString "i"]
abbrev ifStored : List Str := [Str.ofString "i", Str.ofString "fixed"]
section
variable {h₀ h' : Heap} {L R B Fx : Addr} {oR : Obj} {s₁ : Shared} {tk n : Nat} {m₀ m' : Str → Option Value} {news' : List (Addr × Obj)} {ts : Toks} {a i v : Int} {vs : List Value} {xs : List Str} {ti : Tok}
theorem j1_close (F : Fr h₀ L h' m') (N : News h₀ L h' news') (hi : m' (Str.ofString "i") = some (.int v ti)) (hv : v = i + 1) (mB : (B, boundA R) ∈ news') (mR : (R, W.listOf vs.toArray n) ∈ news')
    (hl : i < (ts.length : Int)) (hm : ∀ z, iStored.contains z = false → m' z = m₀ z) (sr : SR ts 0 (i + 1) xs) (sv : StrsAre vs xs) :
    WvEnd h₀ L (fun m' nx' => ∃ n', n' < ((ts.length : Int) - i).toNat ∧ J1I m₀ ts R B n' m' nx') s₁ { s₁ with heap := h', toks := tk } := by
  subst hv
  refine wv_end [(B, boundA R), (R, W.listOf vs.toArray n)] F N (fun p hp => ?_) ⟨((ts.length : Int) - (i + 1)).toNat, by lia, i + 1, ti, n, vs, xs, ?_, rfl, sv, sr, rfl⟩
  · rcases List.mem_cons.mp hp with rfl | hp
    · exact mB
    · rw [List.mem_singleton.mp hp]; exact mR
  · funext z
    by_cases h1 : z = Str.ofString "i"
    · rw [if_pos h1, h1, hi]
    · rw [if_neg h1]; exact hm z (by simp only [iStored, List.contains_cons, List.contains_nil, Bool.or_false, beq_eq_false_iff_ne.mpr h1])
theorem j3_close (F : Fr h₀ L h' m') (N : News h₀ L h' news') (hi : m' (Str.ofString "i") = some (.int v ti)) (hv : v = i + 1) (mF : (Fx, W.listOf vs.toArray n) ∈ news') (mB : (B, boundA R) ∈ news') (mR : (R, oR) ∈ news')
    (hl : i < (ts.length : Int)) (hm : ∀ z, iStored.contains z = false → m' z = m₀ z) (sr : SR ts a (i + 1) xs) (sv : StrsAre vs xs) :
    WvEnd h₀ L (fun m' nx' => ∃ n', n' < ((ts.length : Int) - i).toNat ∧ J3I m₀ ts a R B Fx oR n' m' nx') s₁ { s₁ with heap := h', toks := tk } := by
  subst hv
  refine wv_end [(Fx, W.listOf vs.toArray n), (B, boundA R), (R, oR)] F N (fun p hp => ?_) ⟨((ts.length : Int) - (i + 1)).toNat, by lia, i + 1, ti, n, vs, xs, ?_, rfl, sv, sr, rfl⟩
  · rcases List.mem_cons.mp hp with rfl | hp
    · exact mF
    rcases List.mem_cons.mp hp with rfl | hp
    · exact mB
    · rw [List.mem_singleton.mp hp]; exact mR
  · funext z
    by_cases h1 : z = Str.ofString "i"
    · rw [if_pos h1, h1, hi]
    · rw [if_neg h1]; exact hm z (by simp only [iStored, List.contains_cons, List.contains_nil, Bool.or_false, beq_eq_false_iff_ne.mpr h1])
theorem j2_close (F : Fr h₀ L h' m') (N : News h₀ L h' news') (hi : m' (Str.ofString "i") = some (.int v ti)) (hv : i < v) (mB : (B, boundA R) ∈ news') (mR : (R, W.listOf vs.toArray n) ∈ news')
    (hl : i < (ts.length : Int)) (hm : ∀ z, ifStored.contains z = false → m' z = m₀ z) (st : (JR ts v xs ∧ 0 ≤ v ∧ tkAt ts v = some none) ∨ (v = (ts.length : Int) ∧ JF ts xs)) (sv : StrsAre vs xs) :
    WvEnd h₀ L (fun m' nx' => ∃ n', n' < ((ts.length : Int) - i).toNat ∧ J2I m₀ ts R B n' m' nx') s₁ { s₁ with heap := h', toks := tk } := by
  refine wv_end [(B, boundA R), (R, W.listOf vs.toArray n)] F N (fun p hp => ?_) ⟨((ts.length : Int) - v).toNat, by lia, v, ti, m', n, vs, xs, ?_, rfl, sv, st, rfl⟩
  · rcases List.mem_cons.mp hp with rfl | hp
    · exact mB
    · rw [List.mem_singleton.mp hp]; exact mR
  · funext z
    by_cases h1 : z = Str.ofString "i"
    · rw [if_pos h1, h1, hi]
    · rw [if_neg h1]
      by_cases h2 : z = Str.ofString "fixed"
      · rw [if_pos h2]
      · rw [if_neg h2]; exact hm z (by simp only [ifStored, List.contains_cons, List.contains_nil, Bool.or_false, beq_eq_false_iff_ne.mpr h1, beq_eq_false_iff_ne.mpr h2])
end
theorem joinp_post {ts : Toks} {res : List Str} {t : Tok} (h : JF ts res) : ∃ res' t', JF ts res' ∧ Value.str (Str.empty ++ Str.ofString "(?s:" ++ Txt.join (Str.ofString "") res ++ Str.ofString ")\\Z") t = Value.str (Str.ofString "(?s:" ++ Txt.join (Str.ofString "") res' ++ Str.ofString ")\\Z") t' :=
  ⟨res, t, h, by rw [Str.empty_append]⟩
theorem linesF12_2 : True := by
  k_with "mine:hm" => (repeat (first | exact keeps_rfl | refine keeps_upd (by decide +kernel) ?_ | refine keeps_upg (by decide +kernel) ?_ | refine keeps_updR (by decide +kernel) ?_ | exact fun z hz => rfl))
  k_with "mine:sv" => (first | (with_reducible assumption) | exact strs_add (by with_reducible assumption) | exact strs_add (strs_add (by with_reducible assumption)))
  k_with "WvEnd" => ((with_reducible show WvEnd _ _ (fun _ _ => ∃ _, _ ∧ J1I _ _ _ _ _ _ _) _ _); (rename Fr _ _ _ _ => eF); (rename News _ _ _ _ => eN); (k_dflt (refine' j1_close eF eN (by exact rfl) (by exact rfl) (by k_mem) (by k_mem) (by with_reducible assumption) (by walk_at "mine:hm") (by exact sr_step (by with_reducible assumption) (by with_reducible assumption)) (by walk_at "mine:sv"))))
  k_with "WvEnd" => ((with_reducible show WvEnd _ _ (fun _ _ => ∃ _, _ ∧ J3I _ _ _ _ _ _ _ _ _ _) _ _); (rename Fr _ _ _ _ => eF); (rename News _ _ _ _ => eN); (k_dflt (refine' j3_close eF eN (by exact rfl) (by exact rfl) (by k_mem) (by k_mem) (by k_mem) (by with_reducible assumption) (by walk_at "mine:hm") (by exact sr_step (by with_reducible assumption) (by with_reducible assumption)) (by walk_at "mine:sv"))))
  k_with "mine:st" => (first | exact .inl ⟨.step (by with_reducible assumption) (by with_reducible assumption) (by with_reducible assumption) (by with_reducible assumption) (by with_reducible assumption), by omega, by with_reducible assumption⟩ | exact .inr ⟨by omega, .tail (by with_reducible assumption) (by with_reducible assumption) (by with_reducible assumption) (by with_reducible assumption) (by omega) (by omega)⟩)
  k_with "WvEnd" => ((with_reducible show WvEnd _ _ (fun _ _ => ∃ _, _ ∧ J2I _ _ _ _ _ _ _) _ _); (first | (exfalso; omega) | ((rename Fr _ _ _ _ => eF); (rename News _ _ _ _ => eN); (k_dflt (refine' j2_close eF eN (by exact rfl) (by omega) (by k_mem) (by k_mem) (by with_reducible assumption) (by walk_at "mine:hm") (by walk_at "mine:st") (by walk_at "mine:sv"))))))
  k_with "exec While BoolOp cons nil" => ((with_reducible show wpAny _ _ (exec (Stmt.While (Expr.BoolOp _ [Expr.Compare (Expr.Name (PySem.Str.ofString "i") _) _ _ _, _] _) (Stmt.Expr (Expr.Call (Expr.Name _ _) _ _ _) _ :: _) _ _) _) _ _ _); (rename Fr _ _ _ _ => lFu120'); (rename News _ _ _ _ => lNu120'); (k_dflt ((refine' join1_loop (by with_reducible assumption) lFu120' lNu120' (by k_mem) (by k_mem) (by exact rfl) (by walk_at "mine:nes") ?_ (by passes_own)))); intros; clear lFu120' lNu120'; (try k_fold))
  k_with "exec While BoolOp cons nil" => ((with_reducible show wpAny _ _ (exec (Stmt.While (Expr.BoolOp _ [Expr.Compare (Expr.Name (PySem.Str.ofString "i") _) _ _ _, _] _) (Stmt.Expr (Expr.Call (Expr.Attribute _ _ _) _ _ _) _ :: _) _ _) _) _ _ _); (rename Fr _ _ _ _ => lFu121'); (rename News _ _ _ _ => lNu121'); (k_dflt ((refine' join3_loop (by with_reducible assumption) lFu121' lNu121' (by k_mem) (by k_mem) (by k_mem) (by exact rfl) (by omega) (by omega) (by walk_at "mine:nes") ?_ (by passes_own)))); intros; clear lFu121' lNu121'; (try k_fold))
  k_with "mine:he" => (first | exact .inl (by with_reducible assumption) | exact .inr (by omega))
  k_with "exec While Compare cons nil" => ((with_reducible show wpAny _ _ (exec (Stmt.While (Expr.Compare (Expr.Name (PySem.Str.ofString "i") _) _ [Expr.Name (PySem.Str.ofString "n") _] _) (Stmt.Assert _ _ _ :: _) _ _) _) _ _ _); (rename Fr _ _ _ _ => lFu123'); (rename News _ _ _ _ => lNu123'); (k_dflt ((refine' join2_loop (by with_reducible assumption) (by with_reducible assumption) lFu123' lNu123' (by k_mem) (by k_mem) (by exact rfl) (by walk_at "mine:nes") (by with_reducible assumption) (by with_reducible assumption) (by walk_at "mine:he") ?_ ?_ (by passes_own)))); intros; clear lFu123' lNu123'; (try k_fold))
  k_with "call builtin:list.append" => ((with_reducible show wpAny _ _ (call (Value.builtin _) [Value.ref _, Value.str _ _]) _ _ _); k_dflt (refine' append_snoc (by k_asm) (by k_asm) (by k_upd) (by walk_at "mine:short") ?_; k_whole; intro hu124' Fu124' Nu124'; (try k_sweep)))
  k_with "mine:wS" => (first | exact sr_w1 (by with_reducible assumption) (by omega) | exact jf_w (by with_reducible assumption) (by with_reducible assumption) | exact jf_w (.last (by with_reducible assumption) (by with_reducible assumption) (by with_reducible assumption) (by omega)) (by with_reducible assumption))
  k_with "call builtin:str.join" => ((with_reducible show wpAny _ _ (call (Value.builtin _) [Value.str _ _, Value.ref _]) _ _ _); (k_dflt (refine' join_wS (by exact News.isList (by k_asm) (by k_mem)) (by walk_at "mine:sv") (by walk_at "mine:wS") ?_; k_whole; intro tu126' ku126' jlu126')))
  trivial
set_option maxRecDepth 100000 in
set_option maxHeartbeats 3200000 in
theorem sp_joinp (w : World) (mean : ExcName → Option Value) (mg mb : Str → Option Value) (P : Addr) (S : Addr) (vs : List Value) (ts : Toks) :
    About PySem.Challenge.rw_rt0094_01 Mine.pre.heap_1_1 (Sp w mean mg mb 76 [Value.ref P, Value.ref S] 5 (fun h => h.IsList P vs.toArray ∧ TokAre S vs ts ∧ NoDbl ts ∧ tW ts ≤ 900 ∧ ts.length ≤ 1000 ∧ vs.length = ts.length) (fun _ _ v => ∃ res t, JF ts res ∧ v = Value.str (Str.ofString "(?s:" ++ Txt.join (Str.ofString "") res ++ Str.ofString ")\\Z") t)) := by
  k_fill; unfold About Sp; intro dp un gd cn cs a ccd cl outer A₀ base h₀ L m s Q E B F X T hk hd hu hp hret
  obtain ⟨hp1, hp2, hp3, hp4, hp5, hp6⟩ := hp
  walk_at "mine:go"
  all_goals (try dsimp only)
  all_goals first
  | (exfalso; omega)
  | (refine sp_ret (s := s) (Q := Q) hret (by k_asm) ?_; exact joinp_post (by with_reducible assumption))
  | (refine sp_ret (s := s) (Q := Q) hret (by k_asm) ?_; exact joinp_post (.last (by with_reducible assumption) (by with_reducible assumption) (by with_reducible assumption) (by omega)))

theorem offObjC : True := by
  w_top off
  trivial
set_option maxRecDepth 100000
abbrev objO : Obj := { cls := .type "object", data := .plain }
theorem mro_object : mroOf (.type "object") = pure [.type "object"] := by kernel_rfl
theorem new_object : typeLookup (.type "object") (Str.ofString "__new__") = pure (some (.builtin "object.__new__")) := by rw [typeLookup_type, builtinLookup_eq_fast]; kernel_rfl
theorem made_object : Bind.madeBy (.type "object") = pure (some "object.__new__") := madeBy_type mro_object new_object (by decide +kernel)
theorem slot_object_init : Slot "object" "__init__" "object.__init__" :=
  .of (owner := "object") (n := "__init__") (by rw [typeLookup_type, builtinLookup_eq_fast]; kernel_rfl) (by decide +kernel) (by decide +kernel) (by decide +kernel)
    (by first | exact .inl (by decide +kernel) | exact .inr (by decide +kernel)) (by rw [isSubtype_type]; kernel_rfl)
theorem called_object : TypeCalled "object" "object.__new__" "object.__init__" :=
  ⟨by decide, by decide +kernel, ⟨_, _, mro_object⟩, made_object, by decide +kernel, by rw [isSubtype_type]; kernel_rfl, slot_object_init⟩
theorem typeCall_object : checkTypeCall "object" ⟨[], []⟩ = pure () := by first | rfl | kernel_rfl
theorem newCall_object : checkBuiltinCall "object.__new__" ⟨[.type "object"], []⟩ = pure () := by first | rfl | kernel_rfl
theorem entry_object_new : entryFor table "object.__new__" = some Builtin.«object.__new__» := entryFor_of_tree (by kernel_rfl)
theorem args_object_init_1 (a : Value) : argsOk "object.__init__" ⟨[a], []⟩ := by unfold argsOk; kernel_rfl
theorem init_meets (self : Value) : Meets (Builtin.«object.__init__» ⟨[self], []⟩) (fun _ R s => R (.ok (.ret .none)) s) := Meets.of_wp fun prog w A R s hs => wpAny_pure ⟨_, rfl, hs⟩
theorem new_meets : Meets (Builtin.«object.__new__» ⟨[.type "object"], []⟩) (fun _ R s => R (.ok (.ret (.ref s.heap.objs.size))) { s with heap := s.heap.push objO }) := Meets.of_wp fun prog w A R s hs => by
  have h1 := made_object
  have h2 := mro_object
  unfold Builtin.«object.__new__»
  repeat (any_goals (first | assumption | wp_step))
  exact ⟨_, rfl, hs⟩
section
variable {prog : Program} {w : World} {A : Around} {E : Value → Shared → Prop} {s : Shared} {h₀ : Heap} {L : Addr} {m : Str → Option Value} {news : List (Addr × Obj)}
theorem call_object {Q : Value → Shared → Prop} (F : Fr h₀ L s.heap m) (N : News h₀ L s.heap news) (h : ∀ x h', Fr h₀ L h' m → News h₀ L h' ((x, objO) :: news) → (∀ p ∈ news, p.1 < x) → Q (.ref x) { s with heap := h' }) :
    wpAny (model prog w) A (call (.type "object") []) Q E s := by
  refine callType_meets (Q₁ := fun v s₁ => v = .ref s.heap.objs.size ∧ s₁ = { s with heap := s.heap.push objO }) called_object typeCall_object newCall_object entry_object_new PySem.F.entry_object_init new_meets ⟨rfl, rfl⟩ ?_
  rintro obj s₁ ⟨rfl, rfl⟩
  exact ⟨⟨_, Heap.get?_push_size _ rfl, rfl⟩, args_object_init_1 _, _, init_meets _, rfl, h _ _ (F.push _) (News.push F N _) fun p hp => Heap.lt_size (N p hp).1⟩
end

theorem linesObjC_1 : True := by
  k_with "call type:object" => ((with_reducible show wpAny _ _ (call (Value.type "object") []) _ _ _); k_dflt (refine' call_object (by k_asm) (by k_asm) ?_; k_whole; intro xu127' hu127' Fu127' Nu127' l1; (try k_lt l1); (try k_sweep)))
  trivial
theorem offF13 : True := by
  w_top off
  trivial
theorem linesF13_1 : True := by
  k_with "call ref" => ((with_reducible show wpAny _ _ (call (Value.ref 69) [Value.str _ _, Value.ref _, Value.str _ _]) _ _ _); (rename Fr _ _ _ _ => lFu128'); (k_dflt (refine' Sp.use (sp_trans _ _ _ _ _ _ _ _) (by k_asm) (by k_asm) (by k_asm) (by k_asm) (by k_asm) (by first | exact rfl | assumption) (by ktr_room) (by ktr_units) (by exact ⟨by with_reducible assumption, by with_reducible assumption, _, (News.get (by k_asm) (by k_mem))⟩) ?_); intro v9u128 h9u128 tk9u128 g9u128 F9u128 N9u128 p9u128; obtain ⟨D9u128, vs9u128, n9u128, p9u128, tok9u128, gD9u128, nD9u128⟩ := p9u128; subst p9u128; have N9u128' := newsAdd1 nD9u128 gD9u128 N9u128 lFu128'; clear lFu128'; have tl9u128 := tok_len tok9u128; (try k_sweep)))
  k_with "call ref" => ((with_reducible show wpAny _ _ (call (Value.ref 76) [Value.ref _, Value.ref _]) _ _ _); (with_reducible rename TokAre _ _ _ => toku129'); (k_dflt (refine' Sp.use (sp_joinp _ _ _ _ _ _ _ _) (by k_asm) (by k_asm) (by k_asm) (by k_asm) (by k_asm) (by first | exact rfl | assumption) (by ktr_room) (by ktr_units) (by exact ⟨News.isList (by k_asm) (by k_mem), toku129', by with_reducible assumption, by with_reducible assumption, by with_reducible assumption, by with_reducible assumption⟩) ?_); intro v9u129 h9u129 tk9u129 g9u129 F9u129 N9u129 p9u129; obtain ⟨res9u129, t9u129, jf9u129, p9u129⟩ := p9u129; subst p9u129; (try k_sweep)))
  trivial
set_option maxRecDepth 100000 in
set_option maxHeartbeats 8000000 in
theorem sp_translate (w : World) (mean : ExcName → Option Value) (mg mb : Str → Option Value) (x : Str) (t : Tok) :
    About PySem.Challenge.rw_rt0094_01 Mine.pre.heap_1_1 (Sp w mean mg mb 50 [Value.str x t] 9 (fun h => x.length ≤ 100 ∧ TrOk x ∧ NoDbl (trF x x.length) ∧ tW (trF x x.length) ≤ 900 ∧ (trF x x.length).length ≤ 1000) (fun _ _ v => ∃ res t, JF (trF x x.length) res ∧ v = Value.str (Str.ofString "(?s:" ++ Txt.join (Str.ofString "") res ++ Str.ofString ")\\Z") t)) := by
  k_fill; unfold About Sp; intro dp un gd cn cs a ccd cl outer A₀ base h₀ L m s Q E B F X T hk hd hu hp hret
  obtain ⟨hp1, hp2, hp3, hp4, hp5⟩ := hp
  walk_at "mine:go"
  all_goals (try dsimp only)
  all_goals first
  | (refine sp_ret (s := s) (Q := Q) hret (by k_asm) ?_; exact ⟨_, _, by with_reducible assumption, rfl⟩)

theorem offPatF : True := by
  w_top off
  trivial
/-- what the join makes of a list of tokens -/
def jRest : Nat → Toks → List Str
  | 0, _ => []
  | _ + 1, [] => []
  | f + 1, _ :: r =>
    if r = [] then [Str.ofString ".*"]
    else if r.dropWhile Option.isSome = [] then [Str.ofString ".*", Txt.join (Str.ofString "") (r.filterMap id)]
    else grp (Txt.join (Str.ofString "") ((r.takeWhile Option.isSome).filterMap id)) :: jRest f (r.dropWhile Option.isSome)
def jOut (ts : Toks) : List Str := (ts.takeWhile Option.isSome).filterMap id ++ jRest ts.length (ts.dropWhile Option.isSome)
theorem some_map (xs : List Str) : (xs.map some).filterMap id = xs := by induction xs <;> simp_all
theorem sr_split {ts : Toks} {a i : Int} {xs : List Str} (h : SR ts a i xs) : ts.drop a.toNat = xs.map some ++ ts.drop i.toNat := by
  obtain ⟨h0, h1, h2, h3⟩ := h
  have e1 : ts = ts.take a.toNat ++ (xs.map some ++ ts.drop i.toNat) := by rw [← List.append_assoc, ← h3, List.take_append_drop]
  have e2 : (ts.take a.toNat ++ ts.drop a.toNat) = ts.take a.toNat ++ (xs.map some ++ ts.drop i.toNat) := by rw [List.take_append_drop]; exact e1
  exact List.append_cancel_left e2
theorem take_somes {xs : List Str} {r : Toks} (h : r = [] ∨ ∃ r', r = none :: r') : (xs.map some ++ r).takeWhile Option.isSome = xs.map some ∧ (xs.map some ++ r).dropWhile Option.isSome = r := by
  induction xs with
  | nil => rcases h with rfl | ⟨r', rfl⟩ <;> simp
  | cons a xs ih => simp [ih]
theorem drop_at {ts : Toks} {i : Int} (h0 : 0 ≤ i) (h : tkAt ts i = some none) : ts.drop i.toNat = none :: ts.drop (i + 1).toNat := by
  unfold tkAt at h
  have hl := (List.getElem?_eq_some_iff.mp h)
  obtain ⟨h1, h2⟩ := hl
  rw [List.drop_eq_getElem_cons h1, h2]
  have e : (i + 1).toNat = i.toNat + 1 := by lia
  rw [e]
theorem drop_end {ts : Toks} {i : Int} (h : i = (ts.length : Int)) : ts.drop i.toNat = [] := by subst h; simp
/-- the loop's list, then what is still to come -/
theorem jr_out {ts : Toks} {i : Int} {res : List Str} (h : JR ts i res) : (i = (ts.length : Int) ∨ tkAt ts i = some none) → 0 ≤ i → ∃ f, (ts.drop i.toNat).length ≤ f ∧ jOut ts = res ++ jRest f (ts.drop i.toNat) := by
  induction h with
  | @start i xs h =>
    intro hi h0
    have e := sr_split h
    simp only [Int.toNat_zero, List.drop_zero] at e
    have hr : ts.drop i.toNat = [] ∨ ∃ r', ts.drop i.toNat = none :: r' := by
      rcases hi with hi | hi
      · exact .inl (drop_end hi)
      · exact .inr ⟨_, drop_at h0 hi⟩
    have t := take_somes (xs := xs) hr
    rw [← e] at t
    refine ⟨ts.length, by rw [List.length_drop]; lia, ?_⟩
    unfold jOut
    rw [t.1, t.2, some_map]
  | @step i j res xs hj h0 e1 h e3 ih =>
    intro hi hj0
    obtain ⟨f, hf, hout⟩ := ih (.inr e1) h0
    rw [drop_at h0 e1] at hf hout
    have e := sr_split h
    have d := drop_at hj0 e3
    have t := take_somes (xs := xs) (.inr ⟨_, d⟩)
    rw [← e] at t
    have hne : ts.drop (i + 1).toNat ≠ [] := by rw [e, d]; simp
    obtain ⟨f', rfl⟩ : ∃ f', f = f' + 1 := ⟨f - 1, by simp at hf; lia⟩
    refine ⟨f', ?_, ?_⟩
    · have h3 : (ts.drop (i + 1).toNat).length ≤ f' := by simp only [List.length_cons] at hf; lia
      rw [e, List.length_append] at h3; lia
    · rw [hout, jRest, if_neg hne, t.2, if_neg (by rw [d]; simp), t.1, some_map, List.append_assoc]; rfl
theorem jf_out {ts : Toks} {res : List Str} (h : JF ts res) : res = jOut ts := by
  cases h with
  | @none i res hj e =>
    obtain ⟨f, _, ho⟩ := jr_out hj (.inl e) (by lia)
    rw [ho, drop_end e]
    cases f <;> simp [jRest]
  | @last i res hj h0 e1 e2 =>
    obtain ⟨f, hf, ho⟩ := jr_out hj (.inr e1) h0
    rw [drop_at h0 e1] at hf ho
    obtain ⟨f', rfl⟩ : ∃ f', f = f' + 1 := ⟨f - 1, by simp at hf; lia⟩
    rw [ho, jRest, if_pos (drop_end e2)]
  | @tail i j res xs hj h0 e1 h e2 e3 =>
    obtain ⟨f, hf, ho⟩ := jr_out hj (.inr e1) h0
    rw [drop_at h0 e1] at hf ho
    obtain ⟨f', rfl⟩ : ∃ f', f = f' + 1 := ⟨f - 1, by simp at hf; lia⟩
    have e := sr_split h
    have t := take_somes (xs := xs) (.inl (drop_end e2))
    rw [← e] at t
    have hne : ts.drop (i + 1).toNat ≠ [] := by
      intro q
      have q2 := congrArg List.length q
      rw [List.length_drop] at q2
      have q3 := (sr_len h).2.2.1
      have q4 := (sr_len h).2.1
      simp at q2; lia
    have e5 : (ts.drop (i + 1).toNat).filterMap id = xs := by rw [e, drop_end e2, List.append_nil, some_map]
    rw [ho, jRest, if_neg hne, t.2, if_pos (drop_end e2), e5, List.append_assoc]; rfl

theorem offPatC : True := by
  w_top off
  trivial
def chr1 (n : Nat) : Str := ⟨#[n]⟩
/-- the pattern of a kind's letter (a sign) and a depth -/
def patS (c : Nat) (d : Nat) : Str := ⟨(c :: (List.replicate 9 63 ++ [32] ++ (List.replicate d [47, 42]).flatten)).toArray⟩
def kindC (k : Nat) : Nat := [100, 45, 108].getD k 0
def okTok (o : Option (Option Str)) : Bool := match o with | some none => true | _ => false
def noDblB (ts : Toks) : Bool := (List.range ts.length).all fun k => !(okTok ts[k]? && okTok ts[k + 1]?)
theorem noDbl_of {ts : Toks} (h : noDblB ts = true) : NoDbl ts := by
  intro k h0 h1 h2
  unfold tkAt at h1 h2
  have hl := (List.getElem?_eq_some_iff.mp h1).1
  have e : (k + 1).toNat = k.toNat + 1 := by lia
  rw [e] at h2
  have := List.all_eq_true.mp h k.toNat (List.mem_range.mpr hl)
  rw [h1, h2] at this
  cases this
def trcB (c : Str) : Bool := c == Str.ofString "*" || c == Str.ofString "?" || c == Str.ofString "d" || c == Str.ofString "-" || c == Str.ofString "l" || c == Str.ofString " " || c == Str.ofString "/"
theorem trc_of {c : Str} (h : trcB c = true) : TrC c := by
  unfold trcB at h
  simp only [Bool.or_eq_true, beq_iff_eq] at h
  unfold TrC EscOk
  rcases h with (((((h | h) | h) | h) | h) | h) | h <;> simp [h]
def trOkB (x : Str) : Bool := (List.range x.length).all fun i => trcB (Txt.item x (i : Int))
theorem trOk_of {x : Str} (h : trOkB x = true) : TrOk x := fun i hi => trc_of (List.all_eq_true.mp h i (List.mem_range.mpr hi))
def patOk (x : Str) : Bool := decide (x.length ≤ 100) && trOkB x && noDblB (trF x x.length) && decide (tW (trF x x.length) ≤ 900) && decide ((trF x x.length).length ≤ 1000)
def innerS (c d : Nat) : Str := ⟨((if c = 45 then [92, 45] else [c]) ++ List.replicate 9 46 ++ [92, 32, 47] ++ (List.replicate (d - 1) [40, 63, 62, 46, 42, 63, 47, 41]).flatten ++ [46, 42]).toArray⟩
def textS (x : Str) : Str := Str.ofString "(?s:" ++ Txt.join (Str.ofString "") (jOut (trF x x.length)) ++ Str.ofString ")\\Z"
theorem pats_ok : ∀ k < 3, ∀ d < 5, 0 < d → patOk (patS (kindC k) d) = true := by decide +kernel
theorem texts : ∀ k < 3, ∀ d < 5, 0 < d → textS (patS (kindC k) d) = Str.ofString "(?s:" ++ innerS (kindC k) d ++ Str.ofString ")\\Z" := by decide +kernel

theorem offPB : True := by
  w_top off
  trivial
set_option maxRecDepth 100000
set_option maxHeartbeats 80000000
abbrev DirAt (i m : Nat) : Prop := dirS (showP (m + 2 ^ i)) = showP m ∧ (showP (m + 2 ^ i) != Str.ofString "/") = true ∧ (showP (m + 2 ^ i)).cps.toList.count 47 = (if m = 0 then 0 else (showP m).cps.toList.count 47) + 1 ∧ (showP (m + 2 ^ i)).cps.toList.head? = some 47
-- in pieces of at most 64 cases: each piece a short step of the kernel's
theorem dir_a : ∀ i, i < 6 → ∀ m, m < 2 ^ i → DirAt i m := by decide +kernel
theorem dir_b : ∀ m, m < 64 → DirAt 6 m := by decide +kernel
theorem dir_c0 : ∀ m, m < 64 → DirAt 7 (m + 0) := by decide +kernel
theorem dir_c1 : ∀ m, m < 64 → DirAt 7 (m + 64) := by decide +kernel
theorem dir_d0 : ∀ m, m < 64 → DirAt 8 (m + 0) := by decide +kernel
theorem dir_d1 : ∀ m, m < 64 → DirAt 8 (m + 64) := by decide +kernel
theorem dir_d2 : ∀ m, m < 64 → DirAt 8 (m + 128) := by decide +kernel
theorem dir_d3 : ∀ m, m < 64 → DirAt 8 (m + 192) := by decide +kernel
theorem dir_piece {P : Nat → Prop} {a m : Nat} (h : ∀ m, m < 64 → P (m + a)) (h1 : a ≤ m) (h2 : m < a + 64) : P m := by
  have := h (m - a) (by lia)
  rwa [Nat.sub_add_cancel h1] at this
theorem dir_show : ∀ i, i < 9 → ∀ m, m < 2 ^ i → dirS (showP (m + 2 ^ i)) = showP m ∧ (showP (m + 2 ^ i) != Str.ofString "/") = true ∧ (showP (m + 2 ^ i)).cps.toList.count 47 = (if m = 0 then 0 else (showP m).cps.toList.count 47) + 1 ∧ (showP (m + 2 ^ i)).cps.toList.head? = some 47 := by
  intro i hi m hm
  show DirAt i m
  by_cases h6 : i < 6
  · exact dir_a i h6 m hm
  · have : i = 6 ∨ i = 7 ∨ i = 8 := by lia
    rcases this with rfl | rfl | rfl
    · exact dir_b m hm
    · have hm : m < 128 := hm
      by_cases h : m < 64
      · exact dir_piece (P := DirAt 7) dir_c0 (by lia) (by lia)
      · exact dir_piece (P := DirAt 7) dir_c1 (by lia) (by lia)
    · have hm : m < 256 := hm
      by_cases h : m < 64
      · exact dir_piece (P := DirAt 8) dir_d0 (by lia) (by lia)
      · by_cases h2 : m < 128
        · exact dir_piece (P := DirAt 8) dir_d1 (by lia) (by lia)
        · by_cases h3 : m < 192
          · exact dir_piece (P := DirAt 8) dir_d2 (by lia) (by lia)
          · exact dir_piece (P := DirAt 8) dir_d3 (by lia) (by lia)

theorem offPL : True := by
  w_top off
  trivial
set_option maxRecDepth 100000
/-- what the reader does at a sign of the pattern -/
inductive Op where
  | grp | cls | star | bad
  | sg (dot : Bool) (c : Str) (st : Nat)
def Op.same : Op → Op → Bool
  | .grp, .grp => true
  | .cls, .cls => true
  | .star, .star => true
  | .bad, .bad => true
  | .sg a b c, .sg a' b' c' => a == a' && b == b' && c == c'
  | _, _ => false
theorem Op.same_eq {a b : Op} (h : a.same b = true) : a = b := by
  cases a <;> cases b <;> simp [Op.same] at h ⊢
  obtain ⟨⟨h1, h2⟩, h3⟩ := h
  exact ⟨h1, h2, h3⟩
def opsSame : List Op → List Op → Bool
  | [], [] => true
  | a :: r, b :: q => a.same b && opsSame r q
  | _, _ => false
theorem opsSame_eq : ∀ {a b : List Op}, opsSame a b = true → a = b
  | [], [], _ => rfl
  | a :: r, b :: q, h => by
    simp only [opsSame, Bool.and_eq_true] at h
    rw [Op.same_eq h.1, opsSame_eq h.2]
def opAt (i : Str) (k : Nat) (d : Nat) : Op :=
  if (Txt.slice i (some (k : Int)) (some ((k : Int) + 6)) == Str.ofString "(?>.*?") = true ∧ d = 0 then .grp
  else if (Txt.item i (k : Int) == Str.ofString ")") = true ∧ d = 1 then .cls
  else if (Txt.item i (k : Int) ++ Txt.slice i (some ((k : Int) + 1)) (some ((k : Int) + 2)) == Str.ofString ".*") = true ∧ d = 0 then .star
  else if (Builtin.Str.occurrences (Str.ofString "()[]{}?*+|^$") (Txt.item i (k : Int)) 0 (Str.ofString "()[]{}?*+|^$").length 1).isEmpty = false then .bad
  else if (Txt.item i (k : Int) == Str.ofString "\\") = true then
    (if (Txt.slice i (some ((k : Int) + 1)) (some ((k : Int) + 2)) == Str.ofString "") = true then .bad
     else if Txt.isalnum (Txt.slice i (some ((k : Int) + 1)) (some ((k : Int) + 2))) = true then .bad
     else .sg (Txt.item i (k : Int) == Str.ofString ".") (Txt.item i ((k : Int) + 2 - 1)) 2)
  else .sg (Txt.item i (k : Int) == Str.ofString ".") (Txt.item i ((k : Int) + 1 - 1)) 1
def sgn (y : Str) (dot : Bool) (c : Str) (p : Int) : Bool := decide (p < (y.length : Int)) && (dot || Txt.item y p == c)
def Op.step : Op → Nat | .grp => 6 | .cls => 1 | .star => 2 | .bad => 1 | .sg _ _ st => st
def Op.deep : Op → Nat → Nat | .grp, _ => 1 | .cls, _ => 0 | .star, _ => 2 | .bad, d => d | .sg _ _ _, d => d
def opsOf (i : Str) : Nat → Nat → Nat → List Op
  | 0, _, _ => []
  | f + 1, k, d => if k < i.length then opAt i k d :: opsOf i f (k + (opAt i k d).step) ((opAt i k d).deep d) else []
def runOps (y : Str) : List Op → Nat → List Int → Bool
  | [], d, ps => (d != 1) && ps.any fun x => x == (y.length : Int)
  | o :: r, d, ps => if 0 < ps.length then (match o with
      | .bad => false
      | .grp => runOps y r 1 (rngI (ps.getD 0 0) ((y.length : Int) + 1))
      | .star => runOps y r 2 (rngI (ps.getD 0 0) ((y.length : Int) + 1))
      | .cls => runOps y r 0 (ps.take 1)
      | .sg dot c _ => runOps y r d ((ps.filter (sgn y dot c)).map (fun x => x + 1))) else (d != 1) && ps.any fun x => x == (y.length : Int)
def effOf (y : Str) (k d : Nat) (ps : List Int) : Op → Option TkS
  | .bad => none
  | .grp => some ⟨(k : Int) + 6, 1, rngI (ps.getD 0 0) ((y.length : Int) + 1)⟩
  | .star => some ⟨(k : Int) + 2, 2, rngI (ps.getD 0 0) ((y.length : Int) + 1)⟩
  | .cls => some ⟨(k : Int) + 1, 0, ps.take 1⟩
  | .sg dot c st => some ⟨(k : Int) + (st : Int), (d : Int), (ps.filter (sgn y dot c)).map (fun x => x + 1)⟩
theorem step_op (i y : Str) (k d : Nat) (ps : List Int) : tkStep i y ⟨(k : Int), (d : Int), ps⟩ = effOf y k d ps (opAt i k d) := by
  have e0 : ((d : Int) = 0) ↔ d = 0 := by lia
  have e1 : ((d : Int) = 1) ↔ d = 1 := by lia
  unfold tkStep opAt
  dsimp only
  simp only [e0, e1]
  repeat' split
  all_goals first | rfl | (simp only [effOf, sgn, tkSign]; rfl)
theorem run_ops (i y : Str) : ∀ (f k d : Nat) (ps : List Int), tkRun i y f ⟨(k : Int), (d : Int), ps⟩ = runOps y (opsOf i f k d) d ps := by
  have fin : ∀ (k d : Nat) (ps : List Int), tkFin y ⟨(k : Int), (d : Int), ps⟩ = ((d != 1) && ps.any fun x => x == (y.length : Int)) := by
    intro k d ps
    unfold tkFin
    have : ((d : Int) != 1) = (d != 1) := by
      by_cases h : d = 1
      · subst h; rfl
      · have h2 : (d : Int) ≠ 1 := by lia
        rw [bne_iff_ne.mpr h, bne_iff_ne.mpr h2]
    dsimp only
    rw [this]
  intro f
  induction f with
  | zero => intro k d ps; rw [tkRun_zero]; exact fin k d ps
  | succ f ih =>
    intro k d ps
    rw [tkRun_succ]
    unfold opsOf
    by_cases hk : k < i.length
    · rw [if_pos hk]
      unfold runOps
      have hk' : (k : Int) < (i.length : Int) := by lia
      by_cases hp : 0 < ps.length
      · rw [if_pos ⟨hk', hp⟩, if_pos hp, step_op]
        generalize opAt i k d = o
        cases o with
        | bad => rfl
        | grp => exact ih (k + 6) 1 _
        | star => exact ih (k + 2) 2 _
        | cls => exact ih (k + 1) 0 _
        | sg dot c st => exact ih (k + st) d _
      · rw [if_neg (fun q => hp q.2), if_neg hp]; exact fin k d ps
    · rw [if_neg (fun q => hk (by have := q.1; dsimp only at this; lia)), if_neg hk]; exact fin k d ps
def slash : Str := Str.ofString "/"
def grpsOf : Nat → List Op
  | 0 => [.star]
  | e + 1 => .grp :: .sg false slash 1 :: .cls :: grpsOf e
def dotOp : Op := .sg true (Str.ofString ".") 1
def progOf (k d : Nat) : List Op := .sg false ⟨#[kindC k]⟩ (if k = 1 then 2 else 1) :: (List.replicate 9 dotOp ++ (.sg false (Str.ofString " ") 2 :: .sg false slash 1 :: grpsOf (d - 1)))
theorem ops_eqB : ∀ k < 3, ∀ d < 5, 0 < d → opsSame (opsOf (innerS (kindC k) d) (innerS (kindC k) d).length 0 0) (progOf k d) = true := by decide +kernel
theorem ops_eq (k : Nat) (hk : k < 3) (d : Nat) (hd : d < 5) (h0 : 0 < d) : opsOf (innerS (kindC k) d) (innerS (kindC k) d).length 0 0 = progOf k d := opsSame_eq (ops_eqB k hk d hd h0)
theorem text_in : ∀ k < 3, ∀ d < 5, 0 < d → Txt.slice (Str.ofString "(?s:" ++ innerS (kindC k) d ++ Str.ofString ")\\Z") (some 4) (some (-3)) = innerS (kindC k) d := by decide +kernel
theorem takes_run {k d : Nat} (hk : k < 3) (hd : d < 5) (h0 : 0 < d) (y : Str) : takesF (textS (patS (kindC k) d)) y = runOps y (progOf k d) 0 [0] := by
  rw [texts k hk d hd h0]
  unfold takesF
  rw [text_in k hk d hd h0, if_neg (by simp)]
  unfold tkRes
  have := run_ops (innerS (kindC k) d) y (innerS (kindC k) d).length 0 0 [0]
  rw [ops_eq k hk d hd h0] at this
  exact this

theorem rng_cons {a b : Int} (h : a < b) : rngI a b = a :: rngI (a + 1) b := by
  unfold rngI rangeInts
  obtain ⟨n, hn⟩ : ∃ n, (b - a).toNat = n + 1 := ⟨(b - a).toNat - 1, by lia⟩
  have e : (b - (a + 1)).toNat = n := by lia
  rw [hn, e, List.range_succ_eq_map, List.map_cons, List.map_map]
  congr 1
  · lia
  · apply List.map_congr_left
    intro i _
    simp only [Function.comp_apply]
    lia
theorem rng_nil {a b : Int} (h : b ≤ a) : rngI a b = [] := by
  unfold rngI rangeInts
  rw [show (b - a).toNat = 0 by lia]; rfl
theorem item_at {y : Str} {p : Nat} (h : p < y.length) : Txt.item y (p : Int) = ⟨#[(y.cps.toList[p]?).getD 0]⟩ := by
  unfold Txt.item Txt.charAt
  have e : seqIndex? (p : Int) y.length = some p := by
    unfold seqIndex?
    have : ¬ ((p : Int) < 0) := by lia
    simp [this, h]
  rw [e]
  simp
theorem cps_one (a b : Nat) : ((⟨#[a]⟩ : Str) == ⟨#[b]⟩) = decide (a = b) := by
  by_cases h : a = b
  · subst h; simp
  · have : (⟨#[a]⟩ : Str) ≠ ⟨#[b]⟩ := by intro q; injection q with q; simp at q; exact h q
    rw [beq_eq_false_iff_ne.mpr this, decide_eq_false h]
section
variable {y : Str}
theorem sgn_end (dot : Bool) (c : Str) : sgn y dot c (y.length : Int) = false := by unfold sgn; simp
theorem sgn_dot {p : Nat} (h : p < y.length) (c : Str) : sgn y true c (p : Int) = true := by unfold sgn; simp [h]
theorem sgn_at {p : Nat} (h : p < y.length) (c : Nat) : sgn y false ⟨#[c]⟩ (p : Int) = decide ((y.cps.toList[p]?).getD 0 = c) := by
  unfold sgn; rw [item_at h, cps_one]; simp [h]
theorem run_sg {r : List Op} {d : Nat} {p : Nat} {dot : Bool} {c : Str} {st : Nat} : runOps y (.sg dot c st :: r) d [(p : Int)] = if sgn y dot c (p : Int) = true then runOps y r d [((p + 1 : Nat) : Int)] else runOps y r d [] := by
  conv => lhs; unfold runOps
  rw [if_pos (by simp)]
  by_cases h : sgn y dot c (p : Int) = true
  · rw [if_pos h]; simp [h]
  · rw [if_neg h]; simp [h]
theorem run_nil {r : List Op} {d : Nat} : runOps y r d [] = false := by
  cases r <;> simp [runOps]
theorem run_dots {r : List Op} {d : Nat} : ∀ (n p : Nat), p + n ≤ y.length → runOps y (List.replicate n dotOp ++ r) d [(p : Int)] = runOps y r d [((p + n : Nat) : Int)]
  | 0, p, _ => by simp
  | n + 1, p, h => by
    rw [List.replicate_succ, List.cons_append]
    unfold dotOp
    rw [run_sg, if_pos (sgn_dot (by lia) _)]
    have := run_dots (r := r) (d := d) n (p + 1) (by lia)
    unfold dotOp at this
    rw [this]
    congr 3
    lia
/-- the places behind the slashes from p on -/
def after (y : Str) (p : Nat) : List Int := ((rngI (p : Int) ((y.length : Int) + 1)).filter (sgn y false slash)).map (fun x => x + 1)
theorem slash_cps : slash = ⟨#[47]⟩ := by decide +kernel
theorem after_end : after y y.length = [] := by
  unfold after
  rw [rng_cons (by lia), rng_nil (Int.le_refl _), List.filter_cons, sgn_end]
  rfl
theorem after_hit {p : Nat} (h : p < y.length) (e : (y.cps.toList[p]?).getD 0 = 47) : ∃ r, after y p = ((p + 1 : Nat) : Int) :: r := by
  unfold after
  rw [rng_cons (by lia), List.filter_cons, slash_cps, sgn_at h, decide_eq_true e, if_pos rfl, List.map_cons]
  exact ⟨_, rfl⟩
theorem after_miss {p : Nat} (h : p < y.length) (e : (y.cps.toList[p]?).getD 0 ≠ 47) : after y p = after y (p + 1) := by
  unfold after
  rw [rng_cons (by lia), List.filter_cons, slash_cps, sgn_at h, decide_eq_false e]
  rfl
theorem run_c1 {r : List Op} {d : Nat} {ps : List Int} (h : 0 < ps.length) : runOps y (.grp :: r) d ps = runOps y r 1 (rngI (ps.getD 0 0) ((y.length : Int) + 1)) := by
  rw [runOps, if_pos h]
theorem run_c2 {r : List Op} {d : Nat} {ps : List Int} (h : 0 < ps.length) : runOps y (.cls :: r) d ps = runOps y r 0 (ps.take 1) := by
  rw [runOps, if_pos h]
theorem run_c3 {r : List Op} {d : Nat} {ps : List Int} {dot : Bool} {c : Str} {st : Nat} (h : 0 < ps.length) : runOps y (.sg dot c st :: r) d ps = runOps y r d ((ps.filter (sgn y dot c)).map (fun x => x + 1)) := by
  rw [runOps, if_pos h]
theorem run_c4 {r : List Op} {d : Nat} {ps : List Int} (h : 0 < ps.length) : runOps y (.star :: r) d ps = runOps y r 2 (rngI (ps.getD 0 0) ((y.length : Int) + 1)) := by
  rw [runOps, if_pos h]
theorem run_grp {p : Nat} {r : List Op} (h : p ≤ y.length) : runOps y (.grp :: .sg false slash 1 :: .cls :: r) 0 [(p : Int)] = if 0 < (after y p).length then runOps y r 0 ((after y p).take 1) else false := by
  have e : 0 < (rngI (p : Int) ((y.length : Int) + 1)).length := by rw [rng_cons (by lia)]; simp
  rw [run_c1 (by simp), show [(p : Int)].getD 0 0 = (p : Int) from rfl, run_c3 e]
  show runOps y (.cls :: r) 1 (after y p) = _
  by_cases h0 : 0 < (after y p).length
  · rw [if_pos h0, run_c2 h0]
  · rw [if_neg h0]
    have : after y p = [] := by cases q : after y p with | nil => rfl | cons a l => rw [q] at h0; simp at h0
    rw [this]; exact run_nil
theorem run_star {p : Nat} (h : p ≤ y.length) : runOps y [.star] 0 [(p : Int)] = true := by
  rw [run_c4 (by simp), show [(p : Int)].getD 0 0 = (p : Int) from rfl, runOps]
  simp only [Bool.and_eq_true, List.any_eq_true]
  refine ⟨rfl, (y.length : Int), ?_, by simp⟩
  unfold rngI rangeInts
  refine List.mem_map.mpr ⟨y.length - p, List.mem_range.mpr (by lia), by lia⟩
theorem run_grps : ∀ (e n p : Nat), p + n = y.length → runOps y (grpsOf e) 0 [(p : Int)] = decide (e ≤ (y.cps.toList.drop p).count 47)
  | 0, n, p, h => by
    rw [show grpsOf 0 = [.star] from rfl, run_star (by lia)]; simp
  | e + 1, n, p, h => by
    show runOps y (.grp :: .sg false slash 1 :: .cls :: grpsOf e) 0 [(p : Int)] = _
    rw [run_grp (by lia)]
    have key : ∀ n p, p + n = y.length → (if 0 < (after y p).length then runOps y (grpsOf e) 0 ((after y p).take 1) else false) = decide (e + 1 ≤ (y.cps.toList.drop p).count 47) := by
      intro n
      induction n with
      | zero =>
        intro p h
        obtain rfl : p = y.length := by lia
        rw [after_end]
        have : y.cps.toList.drop y.length = [] := List.drop_eq_nil_of_le (by rw [Array.length_toList]; exact Nat.le_refl _)
        rw [this]; simp
      | succ n ih =>
        intro p h
        have hp : p < y.length := by lia
        have hl : p < y.cps.toList.length := by rw [Array.length_toList]; exact hp
        have hd : y.cps.toList.drop p = y.cps.toList[p] :: y.cps.toList.drop (p + 1) := List.drop_eq_getElem_cons hl
        have hg : (y.cps.toList[p]?).getD 0 = y.cps.toList[p] := by rw [List.getElem?_eq_getElem hl]; rfl
        by_cases hc : (y.cps.toList[p]?).getD 0 = 47
        · obtain ⟨r, hr⟩ := after_hit hp hc
          rw [hr, if_pos (by simp)]
          show runOps y (grpsOf e) 0 [((p + 1 : Nat) : Int)] = _
          rw [run_grps e n (p + 1) (by lia), hd, ← hg, hc, List.count_cons]
          simp
        · rw [after_miss hp hc, ih (p + 1) (by lia), hd, List.count_cons, ← hg, if_neg (fun q => hc (beq_iff_eq.mp q))]; rfl
    exact key n p h
end

theorem deep_count : ∀ (i : Nat), i ≤ 9 → ∀ m, m < 2 ^ i → ∀ n, i ≤ n → deepF n (showP m) = if m = 0 then 0 else (showP m).cps.toList.count 47 := by
  intro i
  induction i with
  | zero =>
    intro _ m hm n _
    obtain rfl : m = 0 := by lia
    cases n with
    | zero => rfl
    | succ n =>
      have : (showP 0 != Str.ofString "/") = false := by decide +kernel
      rw [deepF, if_neg (by rw [this]; decide), if_pos rfl]
  | succ i ih =>
    intro hi m hm n hn
    by_cases h : m < 2 ^ i
    · exact ih (by lia) m h n (by lia)
    · obtain ⟨m', rfl⟩ : ∃ m', m = m' + 2 ^ i := ⟨m - 2 ^ i, by lia⟩
      have hm' : m' < 2 ^ i := by rw [Nat.pow_succ] at hm; lia
      have hp : 0 < 2 ^ i := Nat.pow_pos (by decide)
      obtain ⟨n', rfl⟩ : ∃ n', n = n' + 1 := ⟨n - 1, by lia⟩
      obtain ⟨e1, e2, e3, _⟩ := dir_show i (by lia) m' hm'
      rw [deepF, if_pos e2, e1, ih (by lia) m' hm' n' (by lia), if_neg (show ¬ m' + 2 ^ i = 0 by lia), e3]
theorem show_head {m : Nat} (h0 : 0 < m) (h1 : m < 512) : ∃ r, (showP m).cps.toList = 47 :: r := by
  have key : ∀ i, i ≤ 9 → ∀ m, m < 2 ^ i → 0 < m → ∃ r, (showP m).cps.toList = 47 :: r := by
    intro i
    induction i with
    | zero => intro _ m hm h; exact absurd h (by lia)
    | succ i ih =>
      intro hi m hm h0
      by_cases h : m < 2 ^ i
      · exact ih (by lia) m h h0
      · obtain ⟨m', rfl⟩ : ∃ m', m = m' + 2 ^ i := ⟨m - 2 ^ i, by lia⟩
        have hm' : m' < 2 ^ i := by rw [Nat.pow_succ] at hm; lia
        obtain ⟨_, _, _, e4⟩ := dir_show i (by lia) m' hm'
        cases q : (showP (m' + 2 ^ i)).cps.toList with
        | nil => rw [q] at e4; cases e4
        | cons a r => rw [q] at e4; exact ⟨r, by rw [Option.some.inj e4]⟩
  exact key 9 (Nat.le_refl _) m h1 h0
theorem kindC_at : ∀ k < 3, ∀ j < 3, (tcS ([16384, 32768, 40960].getD k 0)).cps.toList = [kindC k] ∧ (kindC k = kindC j → k = j) := by decide +kernel
/-- the reader takes a row just if its kind and its depth are asked for -/
theorem takes_law {r : RowV} (ok : RowOk r) {k d : Nat} (hk : k < 3) (hd : d < 5) (h0 : 0 < d) :
    takesF (textS (patS (kindC k) d)) r.text = (([r.d, r.f, r.l].getD k false) && decide ((d : Int) ≤ r.deep)) := by
  obtain ⟨K, m, y, hK, hm0, hm1, ⟨r9, hy, h9⟩, ht, e1, e2, e3, e4⟩ := ok
  obtain ⟨j, hj, rfl⟩ : ∃ j, j < 3 ∧ K = [16384, 32768, 40960].getD j 0 := by
    rcases hK with rfl | rfl | rfl
    · exact ⟨0, by decide, rfl⟩
    · exact ⟨1, by decide, rfl⟩
    · exact ⟨2, by decide, rfl⟩
  obtain ⟨P', hP⟩ := show_head hm0 hm1
  have hY : r.text.cps.toList = kindC j :: (r9 ++ (32 :: 47 :: P')) := by
    rw [ht, Str.cps_append, Str.cps_append, Array.toList_append, Array.toList_append, hy, (kindC_at j hj j hj).1, hP]
    have : (Str.ofString " ").cps.toList = [32] := by decide +kernel
    rw [this]; simp
  have hlen : r.text.length = 12 + P'.length := by
    have := congrArg List.length hY
    rw [Array.length_toList] at this
    simp only [List.length_cons, List.length_append, h9] at this
    show r.text.cps.size = _
    lia
  have hkind : [r.d, r.f, r.l].getD k false = decide (kindC j = kindC k) := by
    rw [e1, e2, e3]
    have := (kindC_at j hj k hk).2
    rcases (show k = 0 ∨ k = 1 ∨ k = 2 by lia) with rfl | rfl | rfl <;> rcases (show j = 0 ∨ j = 1 ∨ j = 2 by lia) with rfl | rfl | rfl <;> decide
  have hdeep : r.deep = (((47 :: P').count 47 : Nat) : Int) := by
    rw [e4, deep_count 9 (Nat.le_refl _) m hm1 9 (Nat.le_refl _), if_neg (by lia), hP]
  have g0 : (r.text.cps.toList[0]?).getD 0 = kindC j := by rw [hY]; rfl
  have g10 : (r.text.cps.toList[10]?).getD 0 = 32 := by
    rw [hY, show (10 : Nat) = 9 + 1 from rfl, List.getElem?_cons_succ, List.getElem?_append_right (by lia), h9]; rfl
  have g11 : (r.text.cps.toList[11]?).getD 0 = 47 := by
    rw [hY, show (11 : Nat) = 10 + 1 from rfl, List.getElem?_cons_succ, List.getElem?_append_right (by lia), h9]; rfl
  have d12 : r.text.cps.toList.drop 12 = P' := by
    rw [hY, show (12 : Nat) = 11 + 1 from rfl, List.drop_succ_cons, List.drop_append, h9, List.drop_eq_nil_of_le (by lia)]; rfl
  rw [takes_run hk hd h0, hkind]
  unfold progOf
  rw [show (0 : Int) = ((0 : Nat) : Int) from rfl, run_sg, sgn_at (by lia), g0]
  by_cases hc : kindC j = kindC k
  · rw [decide_eq_true hc, if_pos rfl, run_dots 9 (0 + 1) (by lia), show Str.ofString " " = ⟨#[32]⟩ by decide +kernel, run_sg, sgn_at (by lia), show 0 + 1 + 9 = 10 from rfl, g10, if_pos (by decide), slash_cps, run_sg, sgn_at (by lia), show 10 + 1 = 11 from rfl, g11, if_pos (by decide), run_grps (d - 1) P'.length 12 (by lia), d12, hdeep]
    simp only [List.count_cons_self, Bool.true_and]
    rw [decide_eq_decide]; lia
  · rw [decide_eq_false hc, if_neg (by decide), run_nil]; rfl

theorem offCompN : True := by
  w_top off
  trivial
/-- what a turn of a comprehension that takes nothing leaves: only its own namespace is another -/
def TurnOk (C : Addr) (M : (Str → Option Value) → Prop) (s s' : Shared) : Prop := ∃ h' tk' m', s' = { s with heap := h', toks := tk' } ∧ h'.Ns C m' ∧ M m' ∧ ∀ b o, b ≠ C → s.heap.get? b = some o → h'.get? b = some o
/-- the rule of a loop whose turns are T -/
def LoopR (prog : Program) (w : World) (A : Around) (cd : Code) (I : Addr) (env : Env) (T : Value → Shared → (Shared → Prop) → (Value → Shared → Prop) → Prop) : Prop :=
  ∀ (R : Result → Shared → Prop) (J : Nat → Shared → Prop), (∀ n s, J n s → wpAny (model prog w) A (pyNext (.ref I)) (fun r s₁ => match r with
    | none => R (.ok .next) s₁
    | some v => T v s₁ (fun s' => ∃ m, m < n ∧ J m s') (notedBy (model prog w) A env fun e s' => R (.error e) s')) (notedBy (model prog w) A env fun e s' => R (.error e) s') s) → ∀ n s, J n s → codeAny (model prog w) A cd R s
section
variable {prog : Program} {w : World} {A : Around} {E : Value → Shared → Prop} {s : Shared}
def T1 (prog : Program) (w : World) (A : Around) (target c : PySem.Expr) (I : Addr) (env : Env) (v : Value) (s₁ : Shared) (K : Shared → Prop) (E : Value → Shared → Prop) : Prop :=
  wpAny (model prog w) A (letOwnedTupleGo target (.ref I) v) (fun _ s₀ => wpAny (model prog w) A (assign target env v) (fun _ s₂ => wpAny (model prog w) A (isTrue c env (eval c env)) (fun ok s₃ => ok = false ∧ K s₃) E s₂) E s₀) E s₁
theorem loop_one {elt target iter c : PySem.Expr} {scope : Scope} {pos : Pos} {I : Addr} {acc : Value} {env : Env} :
    LoopR prog w A (.compLoop (.ListComp elt [⟨target, iter, [c], 0⟩] scope pos) 0 (.ref I) acc env) I env (T1 prog w A target c I env) := by
  intro R J turn n s h
  refine kct_loop J (fun n s hJ => wpAny_mono (turn n s hJ) (fun r s₁ h₁ => ?_) fun _ _ e => e) n h
  cases r with
  | none => exact h₁
  | some v =>
    refine wpAny_mono h₁ (fun _ s₀ h₀ => wpAny_mono h₀ (fun _ s₂ h₂ => wpAny_mono h₂ (fun ok s₃ h₃ => ?_) fun _ _ e => e) fun _ _ e => e) fun _ _ e => e
    obtain ⟨rfl, h₃⟩ := h₃
    simpa using h₃
theorem compTurn_in (elt target iter c : PySem.Expr) (g₀ : Comprehension) (scope : Scope) (pos : Pos) (it acc : Value) (env : Env) :
    compTurn (.ListComp elt [g₀, ⟨target, iter, [c], 0⟩] scope pos) 1 it acc env = (do
      standAt iter.pos
      match ← pyNext it with
      | none => pure (.done .next)
      | some v =>
        letOwnedTupleGo target it v
        assign target env v
        let mut ok := true
        for c in [c] do
          if ok then ok ← isTrue c env (eval c env)
        if ok then
          (do let _ ← call (.builtin "list.append") [acc, ← eval elt env])
        again (.compLoop (.ListComp elt [g₀, ⟨target, iter, [c], 0⟩] scope pos) 1 it acc env)) := by rfl
theorem loop_in {elt target iter c : PySem.Expr} {g₀ : Comprehension} {scope : Scope} {pos : Pos} {I : Addr} {acc : Value} {env : Env} :
    LoopR prog w A (.compLoop (.ListComp elt [g₀, ⟨target, iter, [c], 0⟩] scope pos) 1 (.ref I) acc env) I env (T1 prog w A target c I env) := by
  intro R J turn n s h
  refine codeAny_loop rfl J (fun n s hI => ?_) n h
  show wpAny _ A ((compTurn (.ListComp elt [g₀, ⟨target, iter, [c], 0⟩] scope pos) 1 (.ref I) acc env).onRaise (fun x => do noteFrame x env; theTreesLotGoes x)) _ _ s
  refine wpAny_noted ?_
  rw [compTurn_in]
  refine wpAny_bind (wpAny_standAt (wpAny_bind (wpAny_mono (turn n s hI) (fun r s₁ h₁ => ?_) fun _ _ h' => h')))
  cases r with
  | none => exact wpAny_pure h₁
  | some v =>
    refine wpAny_bind (wpAny_mono h₁ (fun _ s₀ h₀' => ?_) fun _ _ h' => h')
    refine wpAny_bind (wpAny_mono h₀' (fun _ s₂ h₂ => ?_) fun _ _ h' => h')
    refine wpAny_bind (wpAny_tests_one (wpAny_mono h₂ (fun okb s₃ h₃ => ?_) fun _ _ h' => h'))
    obtain ⟨rfl, h₃⟩ := h₃
    exact wpAny_pure ⟨rfl, h₃⟩
theorem compTurn_out (elt t₀ i₀ target iter c : PySem.Expr) (scope : Scope) (pos : Pos) (it acc : Value) (env : Env) :
    compTurn (.ListComp elt [⟨t₀, i₀, [], 0⟩, ⟨target, iter, [c], 0⟩] scope pos) 0 it acc env = (do
      standAt i₀.pos
      match ← pyNext it with
      | none => pure (.done .next)
      | some v =>
        letOwnedTupleGo t₀ it v
        assign t₀ env v
        let x ← eval iter env
        standAt iter.pos
        let x ← foldedSetIterable iter env x
        let _ ← runOwn (.compStart (.ListComp elt [⟨t₀, i₀, [], 0⟩, ⟨target, iter, [c], 0⟩] scope pos) 1 (← holding [x] (pyIter x)) acc env) env
        again (.compLoop (.ListComp elt [⟨t₀, i₀, [], 0⟩, ⟨target, iter, [c], 0⟩] scope pos) 0 it acc env)) := by rfl
def T0 (prog : Program) (w : World) (A : Around) (t₀ iter : PySem.Expr) (e : PySem.Expr) (I : Addr) (acc : Value) (env : Env) (v : Value) (s₁ : Shared) (K : Shared → Prop) (E : Value → Shared → Prop) : Prop :=
  wpAny (model prog w) A (letOwnedTupleGo t₀ (.ref I) v) (fun _ s₀ => wpAny (model prog w) A (assign t₀ env v) (fun _ s₂ => wpAny (model prog w) A (eval iter env) (fun x s₃ => wpAny (model prog w) A (pyIter x) (fun it s₄ =>
    codeAny (model prog w) A (.compStart e 1 it acc env) (fun r s₅ => match r with | .ok _ => K s₅ | .error _ => False) s₄) E s₃) E s₂) E s₀) E s₁
theorem loop_out {elt t₀ i₀ target iter c : PySem.Expr} {scope : Scope} {pos : Pos} {I : Addr} {acc : Value} {env : Env} (hs : ∀ x, foldedSetIterable iter env x = pure x) :
    LoopR prog w A (.compLoop (.ListComp elt [⟨t₀, i₀, [], 0⟩, ⟨target, iter, [c], 0⟩] scope pos) 0 (.ref I) acc env) I env (T0 prog w A t₀ iter (.ListComp elt [⟨t₀, i₀, [], 0⟩, ⟨target, iter, [c], 0⟩] scope pos) I acc env) := by
  intro R J turn n s h
  refine codeAny_loop rfl J (fun n s hI => ?_) n h
  show wpAny _ A ((compTurn (.ListComp elt [⟨t₀, i₀, [], 0⟩, ⟨target, iter, [c], 0⟩] scope pos) 0 (.ref I) acc env).onRaise (fun x => do noteFrame x env; theTreesLotGoes x)) _ _ s
  refine wpAny_noted ?_
  rw [compTurn_out]
  refine wpAny_bind (wpAny_standAt (wpAny_bind (wpAny_mono (turn n s hI) (fun r s₁ h₁ => ?_) fun _ _ h' => h')))
  cases r with
  | none => exact wpAny_pure h₁
  | some v =>
    refine wpAny_bind (wpAny_mono h₁ (fun _ s₀ h₀' => ?_) fun _ _ h' => h')
    refine wpAny_bind (wpAny_mono h₀' (fun _ s₂ h₂ => ?_) fun _ _ h' => h')
    refine wpAny_bind (wpAny_mono h₂ (fun x s₃ h₃ => ?_) fun _ _ h' => h')
    refine wpAny_bind (wpAny_standAt (wpAny_bind (wpAny_of_eq (hs x) ?_)))
    refine wpAny_bind (wpAny_holding (wpAny_mono h₃ (fun it s₄ h₄ => ?_) fun _ _ h' => h'))
    refine wpAny_bind (wpAny_runOwn (codeAny_mono h₄ fun r s₅ h₅ => ?_))
    cases r with
    | ok f => exact wpAny_pure ⟨rfl, h₅⟩
    | error x => exact h₅.elim
/-- a loop whose turns take nothing comes to its end -/
theorem none_walk {cd : Code} {I C : Addr} {env : Env} {T : Value → Shared → (Shared → Prop) → (Value → Shared → Prop) → Prop} {fp : List Addr} {n : Nat} {P : Nat → Value → Prop} {St : Nat → Heap → Prop} {R : Result → Shared → Prop} {m₀ : Str → Option Value} (M : (Str → Option Value) → Prop)
    (H : LoopR prog w A cd I env T) (W : Walks prog w A I fp [I] n P St) (hCf : C ∉ fp) (hst : St 0 s.heap) (hn : s.heap.Ns C m₀) (hM : M m₀)
    (turn : ∀ i v s₁ m₁ K E', i < n → P i v → St (i + 1) s₁.heap → s₁.heap.Ns C m₁ → M m₁ → (∃ h tk, s₁ = { s with heap := h, toks := tk }) → (∀ b o, b ≠ C → b ≠ I → s.heap.get? b = some o → s₁.heap.get? b = some o) → (∀ s', TurnOk C M s₁ s' → K s') → T v s₁ K E')
    (done : ∀ h tk m', h.Ns C m' → (∀ b o, b ≠ C → b ≠ I → s.heap.get? b = some o → h.get? b = some o) → R (.ok .next) { s with heap := h, toks := tk }) :
    codeAny (model prog w) A cd R s := by
  refine H R (fun k s' => ∃ h tk m' i, s' = { s with heap := h, toks := tk } ∧ i ≤ n ∧ k = n - i ∧ St i h ∧ h.Ns C m' ∧ M m' ∧ ∀ b o, b ≠ C → b ≠ I → s.heap.get? b = some o → h.get? b = some o) ?_ n s ⟨s.heap, s.toks, m₀, 0, rfl, Nat.zero_le _, rfl, hst, hn, hM, fun b o _ _ e => e⟩
  have hCI : C ≠ I := fun q => hCf (q ▸ W.sub I (List.mem_singleton.mpr rfl))
  rintro k s' ⟨h, tk, m', i, rfl, hi, rfl, hs, hns, hMm, hk⟩
  by_cases hlt : i < n
  · refine W.item i _ _ _ hlt hs fun v h₂ tk₂ hPv hst₂ hk₂ => ?_
    have hns₂ : h₂.Ns C m' := hns.at' fun o e => hk₂ _ o (by simpa using hCI) e
    refine turn i v { s with heap := h₂, toks := tk₂ } m' _ _ hlt hPv hst₂ hns₂ hMm ⟨h₂, tk₂, rfl⟩ (fun b o h1 h2 e => hk₂ b o (by simpa using h2) (hk b o h1 h2 e)) ?_
    rintro s₂ ⟨h₃, tk₃, m₃, rfl, hn₃, hM₃, hk₃⟩
    refine ⟨n - (i + 1), by lia, h₃, tk₃, m₃, i + 1, rfl, hlt, rfl, W.frame _ _ _ hst₂ fun b hb o e => hk₃ b o (fun q => hCf (q ▸ hb)) e, hn₃, hM₃, fun b o h1 h2 e => hk₃ b o h1 (hk₂ b o (by simpa using h2) (hk b o h1 h2 e))⟩
  · obtain rfl : i = n := Nat.le_antisymm hi (Nat.not_lt.mp hlt)
    refine W.done _ _ _ hs fun h₂ tk₂ hk₂ => ?_
    exact done h₂ tk₂ m' (hns.at' fun o e => hk₂ _ o (by simpa using hCI) e) fun b o h1 h2 e => hk₂ b o (by simpa using h2) (hk b o h1 h2 e)
/-- a comprehension that takes nothing: its block -/
theorem none_block {e : PySem.Expr} {scope : Scope} {cl : List (Str × Addr)} {s₂ : Shared} {I : Addr} {env : Env} {RR : Value → Addr → Result → Shared → Prop}
    (hcell : ∀ y ∈ scope.names, y.2 ≠ .cell) (hkind : scope.kind = .function) {oI : Obj} (hI : s₂.heap.get? I = some oI)
    (start : ∀ D C h₁ tk m₁, s₂.heap.objs.size ≤ D → s₂.heap.objs.size ≤ C → D ≠ C → h₁.Ns C m₁ → h₁.get? D = some (LCg.lst []) → (∀ b o, s₂.heap.get? b = some o → h₁.get? b = some o) →
      (∀ h' tk' m', h'.Ns C m' → (∀ b o, b ≠ C → b ≠ I → h₁.get? b = some o → h'.get? b = some o) → RR (.ref D) C (.ok .next) { s₂ with heap := h', toks := tk' }) →
      codeAny (model prog w) A (.compStart e 0 (.ref I) (.ref D) (compEnvC scope cl C env)) (RR (.ref D) C) { s₂ with heap := h₁, toks := tk })
    (hRR : ∀ D C h tk m', s₂.heap.objs.size ≤ D → s₂.heap.objs.size ≤ C → D ≠ C → h.Ns C m' → h.get? D = some (LCg.lst []) → (∀ b o, b ≠ I → s₂.heap.get? b = some o → h.get? b = some o) → RR (.ref D) C (.ok .next) { s₂ with heap := h, toks := tk }) :
    wpAny (model prog w) A (newList []) (fun acc s₃ => wpAny (model prog w) A (newFunctionEnv scope env.globals cl [] env.qual none .none (some env)) (fun cenv s₄ =>
      codeAny (model prog w) A (.compStart e 0 (.ref I) acc { cenv with scope := relabel scope env }) (RR acc cenv.locals) s₄) E s₃) E s₂ := by
  refine wpAny_newObj_type (wpAny_newFunctionEnv hcell (by intro y hy; simp at hy) (fun h₁ hns₁ hsb₁ => ?_) hkind)
  dsimp only at hns₁ hsb₁ ⊢
  generalize hH2 : s₂.heap.push { cls := .type "list", dict := none, data := .seq ([] : List Value).toArray } = H2 at hns₁ hsb₁ ⊢
  have hC : H2.objs.size = s₂.heap.objs.size + 1 := by rw [← hH2, Heap.size_push]
  have hDC : s₂.heap.objs.size ≠ H2.objs.size := by rw [hC]; exact Nat.ne_of_lt (Nat.lt_succ_self _)
  have below : ∀ b, b < s₂.heap.objs.size → b ≠ H2.objs.size ∧ b ≠ s₂.heap.objs.size := fun b hb => ⟨by rw [hC]; exact Nat.ne_of_lt (Nat.lt_succ_of_lt hb), Nat.ne_of_lt hb⟩
  have old : ∀ b o, s₂.heap.get? b = some o → h₁.get? b = some o := fun b o e => hsb₁.extBut b o (below b (Heap.lt_size e)).1 (Heap.get?_push_of_some _ (hH2 ▸ Heap.get?_push_of_some _ e))
  have hacc : h₁.get? s₂.heap.objs.size = some (LCg.lst []) := hsb₁.extBut _ _ hDC (Heap.get?_push_of_some _ (hH2 ▸ Heap.get?_push_size _ rfl))
  have hDI : s₂.heap.objs.size ≠ I := Ne.symm (below I (Heap.lt_size hI)).2
  refine start _ _ h₁ _ _ (Nat.le_refl _) (by rw [hC]; exact Nat.le_succ _) hDC hns₁ hacc old fun h' tk' m' hn' hk' => ?_
  exact hRR _ _ h' tk' m' (Nat.le_refl _) (by rw [hC]; exact Nat.le_succ _) hDC hn' (hk' _ _ hDC hDI hacc) fun b o hb e => hk' b o (below b (Heap.lt_size e)).1 hb (old b o e)

def CnEnd (s₁ : Shared) (ok : Bool) (s₂ : Shared) : Prop := ok = false ∧ ∃ h' tk', s₂ = { s₁ with heap := h', toks := tk' } ∧ ∀ b o, s₁.heap.get? b = some o → h'.get? b = some o
theorem cn_assign {env : Env} {a b d : Str} {pa pb pd tp : Pos} {kk : Nat} {T : Addr} {x y z : Value} {m : Str → Option Value} {Q : Unit → Shared → Prop} (hh : A.handled = none) (ht : s.heap.IsList T #[x, y, z])
    (ha : env.kindOf a = some .local) (hb : env.kindOf b = some .local) (hd : env.kindOf d = some .local) (hp : (env.scope.kind == .class || (env.scope.kind == .module && env.locals != env.globals)) = false) (hn : s.heap.Ns env.locals m)
    (h : ∀ (h' : Heap) (tk : Nat), h'.Ns env.locals (fun w => if w = d then some z else if w = b then some y else if w = a then some x else m w) → (∀ c o, c ≠ env.locals → s.heap.get? c = some o → h'.get? c = some o) → Q () { s with heap := h', toks := tk }) :
    wpAny (model prog w) A (assign (.Tuple [.Name a pa, .Name b pb, .Name d pd] kk tp) env (.ref T)) Q E s := by
  rw [assign_Tuple]
  refine wpAny_bind (wpAny_standAt ?_)
  unfold unpack
  have e1 : (assignEach [.Name a pa, .Name b pb, .Name d pd] env).length = (#[x, y, z] : Array Value).size := rfl
  have e2 : (assignEach [.Name a pa, .Name b pb, .Name d pd] env).findIdx? (·.1) = none := rfl
  rw [e1, e2]
  refine wpAny_bind (wpAny_holding (kun_itemsOf hh ht fun h₁ he₁ => ?_))
  have hL : env.locals ≠ s.heap.objs.size := Nat.ne_of_lt hn.lt
  have hn₁ : h₁.Ns env.locals m := hn.at' fun o e => he₁ _ o hL e
  have up₁ : ∀ c o, s.heap.get? c = some o → h₁.get? c = some o := fun c o e => he₁ c o (Nat.ne_of_lt (Heap.lt_size e)) e
  show wpAny _ _ (assignInOrder [assign (.Name a pa) env, assign (.Name b pb) env, assign (.Name d pd) env] [x, y, z]) _ _ _
  refine assignInOrder_cons ?_
  refine wpAny_assign_Name (wpAny_storeName_local ha hn₁ (fun h₂ hn₂ hs₂ => ?_) hp)
  refine assignInOrder_cons ?_
  refine wpAny_assign_Name (wpAny_storeName_local hb hn₂ (fun h₃ hn₃ hs₃ => ?_) hp)
  refine assignInOrder_cons ?_
  refine wpAny_assign_Name (wpAny_storeName_local hd hn₃ (fun h₄ hn₄ hs₄ => ?_) hp)
  refine assignInOrder_nil ?_
  exact h h₄ _ hn₄ fun c o hc e => hs₄.extBut c o hc (hs₃.extBut c o hc (hs₂.extBut c o hc (up₁ c o e)))
end
section
variable {prog : Program} {w : World} {A : Around} {E : Value → Shared → Prop} {s : Shared} {h₀ : Heap} {L : Addr} {m : Str → Option Value} {env : Env}
/-- the source of a comprehension over a list of rows that takes nothing -/
def CnSrc (prog : Program) (w : World) (A : Around) (h₀ : Heap) (L : Addr) (m : Str → Option Value) (env : Env) (c : PySem.Expr) (a b d : Str) (scope : Scope) (cl : List (Str × Addr)) (Q : Value → Shared → Prop) (xv : Value) (s₁ : Shared) : Prop :=
  ∃ (ax : Addr) (vs : List Value) (news : List (Addr × Obj)) (P : Value → Value → Value → Prop), xv = .ref ax ∧ A.handled = none ∧ Fr h₀ L s₁.heap m ∧ News h₀ L s₁.heap news ∧ h₀.IsList ax vs.toArray ∧
    (∀ v ∈ vs, ∃ e x y z, v = .ref e ∧ h₀.IsList e #[x, y, z] ∧ P x y z) ∧
    (∀ x y z C oC m₂ h tk E', P x y z → LCg.NsObj oC m₂ → m₂ a = some x → m₂ b = some y → m₂ d = some z → Fr h₀ L h m → News h₀ L h ((C, oC) :: news) → (∀ p ∈ news, p.1 ≠ C) →
      wpAny (model prog w) A (isTrue c (compEnvC scope cl C env) (eval c (compEnvC scope cl C env))) (CnEnd { s₁ with heap := h, toks := tk }) E' { s₁ with heap := h, toks := tk }) ∧
    (∀ D h tk, Fr h₀ L h m → News h₀ L h ((D, LCg.lst []) :: news) → Q (.ref D) { s₁ with heap := h, toks := tk })
theorem cn_keep {h h' : Heap} (F : Fr h₀ L h m) {news : List (Addr × Obj)} (N : News h₀ L h news) (up : ∀ b o, h.get? b = some o → h'.get? b = some o) : Fr h₀ L h' m ∧ News h₀ L h' news :=
  ⟨F.keeps up, fun p hp => ⟨up _ _ (N p hp).1, (N p hp).2⟩⟩
theorem cn_fresh {h : Heap} (F : Fr h₀ L h m) {a : Addr} (ha : h.objs.size ≤ a) : h₀.get? a = none := by
  cases e : h₀.get? a with
  | none => rfl
  | some o => exact absurd (Heap.lt_size (F.keep a o e)) (Nat.not_lt.mpr ha)
theorem right_comp {elt iter c : PySem.Expr} {a b d : Str} {pa pb pd tp : Pos} {kk : Nat} {scope : Scope} {cl : List (Str × Addr)} {pos : Pos} {Q : Value → Shared → Prop} (_F₀ : Fr h₀ L s.heap m)
    (hclos : closureFor scope env = pure cl) (hcell : ∀ y ∈ scope.names, y.2 ≠ .cell) (hkind : scope.kind = .function)
    (hnames : ∀ y ∈ scope.names, y.2 = .local → scope.names.lookup y.1 = some .local) (hxa : scope.names.lookup a = some .local) (hxb : scope.names.lookup b = some .local) (hxd : scope.names.lookup d = some .local) (hne : (¬ a = b ∧ ¬ a = d ∧ ¬ b = d))
    (h : wpAny (model prog w) A (eval iter env) (CnSrc prog w A h₀ L m env c a b d scope cl Q) E s)
    (hs : ∀ x, foldedSetIterable iter env x = pure x := by intro _; rfl) :
    wpAny (model prog w) A (eval (.ListComp elt [⟨.Tuple [.Name a pa, .Name b pb, .Name d pd] kk tp, iter, [c], 0⟩] scope pos) env) Q E s := by
  rw [eval_ListComp]
  refine wpAny_comprehension_free (use := none) rfl hs hclos hkind hnames (wpAny_mono h (fun xv s₁ h₁ => ?_) fun _ _ e => e)
  obtain ⟨ax, vs, news, P, rfl, hh, F, N, hl, hvs, turn, fin⟩ := h₁
  have hl₁ : s₁.heap.IsList ax vs.toArray := hl.at fun o e => F.keep ax o e
  have haxlt : ax < s₁.heap.objs.size := by obtain ⟨_, e, _⟩ := hl₁; exact Heap.lt_size e
  refine wpAny_pyIter_list hl₁ ?_
  have up₁ : ∀ b o, s₁.heap.get? b = some o → (s₁.heap.push { cls := .type "list_iterator", data := .fields #[.ref ax, .int 0 0] }).get? b = some o := fun b o e => Heap.get?_push_of_some _ e
  have hIn : (s₁.heap.push { cls := .type "list_iterator", data := .fields #[.ref ax, .int 0 0] }).get? s₁.heap.objs.size = some { cls := .type "list_iterator", data := .fields #[.ref ax, .int 0 0] } := Heap.get?_push_size _ rfl
  refine none_block hcell hkind hIn (fun D C h₁ tk m₁ hD hC hDC hns hDl old hR => ?_) (fun D C h₂ tk m' hD hC hDC hns hDl old => ?_)
  · rw [Heap.size_push] at hD hC
    have hCI : C ≠ s₁.heap.objs.size := Nat.ne_of_gt hC
    have W := Walks.list (prog := prog) (w := w) hh s₁.heap.objs.size ax (Nat.ne_of_lt haxlt) vs.toArray
    have hst : h₁.IsListIter s₁.heap.objs.size ax 0 ∧ h₁.IsList ax vs.toArray := ⟨⟨_, old _ _ hIn, rfl, rfl⟩, hl₁.at fun o e => old _ _ (up₁ _ _ e)⟩
    have hCf : C ∉ [s₁.heap.objs.size, ax] := by
      intro q
      rcases List.mem_cons.mp q with q | q
      · exact hCI q
      · have := List.mem_singleton.mp q
        exact absurd haxlt (by rw [← this]; exact Nat.not_lt.mpr (Nat.le_of_lt hC))
    have loop : codeAny (model prog w) A (.compLoop (.ListComp elt [⟨.Tuple [.Name a pa, .Name b pb, .Name d pd] kk tp, iter, [c], 0⟩] scope pos) 0 (.ref s₁.heap.objs.size) (.ref D) (compEnvC scope cl C env))
        (compPost (model prog w) A E none Q (.ref D) C) { s₁ with heap := h₁, toks := tk } := by
      refine none_walk (s := { s₁ with heap := h₁, toks := tk }) (fun _ => True) loop_one W hCf hst hns trivial (fun i v s₂ m₂ K E' hi hv hs₂ hn₂ _ he hk hK => ?_) (fun h₂ tk₂ m' hn' hk' => hR h₂ tk₂ m' hn' hk')
      obtain ⟨h₂, tk₂, rfl⟩ := he
      have hv' : vs[i]? = some v := by simpa using hv
      obtain ⟨e, x, y, z, rfl, he, hP⟩ := hvs v (List.mem_of_getElem? hv')
      have upT : ∀ b o, s₁.heap.get? b = some o → h₂.get? b = some o := fun b o e => hk b o (Nat.ne_of_lt (Nat.lt_of_lt_of_le (Heap.lt_size e) (Nat.le_of_lt hC))) (Nat.ne_of_lt (Heap.lt_size e)) (old b o (up₁ b o e))
      obtain ⟨F₂, N₂⟩ := cn_keep F N upT
      unfold T1
      refine wpAny_letOwnedTupleGo_listiter hs₂.1 ?_
      refine cn_assign (env := compEnvC scope cl C env) hh (he.at fun o q => F₂.keep e o q) (lookup_relabel_local hxa) (lookup_relabel_local hxb) (lookup_relabel_local hxd) (by simp [compEnvC, relabel, hkind]) hn₂ fun h₃ tk₃ hn₃ hk₃ => ?_
      obtain ⟨oC, heC, hoC⟩ := LCg.ns_obj hn₃
      have hCL : C ≠ L := fun q => absurd F.ns.lt (by rw [← q]; exact Nat.not_lt.mpr (Nat.le_of_lt hC))
      have hC₀ : h₀.get? C = none := cn_fresh F (Nat.le_of_lt hC)
      have upT₃ : ∀ b o, s₁.heap.get? b = some o → h₃.get? b = some o := fun b o e => hk₃ b o (Nat.ne_of_lt (Nat.lt_of_lt_of_le (Heap.lt_size e) (Nat.le_of_lt hC))) (upT b o e)
      obtain ⟨F₃, N₃⟩ := cn_keep F N upT₃
      have N₄ : News h₀ L h₃ ((C, oC) :: news) := fun p hp => by
        rcases List.mem_cons.mp hp with rfl | hp
        · exact ⟨heC, hCL, hC₀⟩
        · exact N₃ p hp
      refine wpAny_mono (turn x y z C oC _ h₃ tk₃ E' hP hoC (by simp [hne.1, hne.2.1]) (by simp [hne.2.2]) (by simp) F₃ N₄ fun p hp q => ?_) (fun ok s₄ h₄ => ?_) fun _ _ e => e
      · exact absurd (Heap.lt_size (N p hp).1) (by rw [q]; exact Nat.not_lt.mpr (Nat.le_of_lt hC))
      · obtain ⟨rfl, h₅, tk₅, rfl, hk₅⟩ := h₄
        exact ⟨rfl, hK _ ⟨h₅, tk₅, _, rfl, hn₃.at' fun o e => hk₅ _ o e, trivial, fun b o hb e => hk₅ b o (hk₃ b o hb e)⟩⟩
    refine codeAny_compStart_list loop ?_
    exact wpAny_pyIter_listiter hst.1 loop
  · rw [Heap.size_push] at hD hC
    have hDL : D ≠ L := fun q => absurd F.ns.lt (by rw [← q]; exact Nat.not_lt.mpr (Nat.le_of_lt hD))
    refine ⟨m', hns, fun h'' hs'' => ?_⟩
    have up₂ : ∀ b o, s₁.heap.get? b = some o → h''.get? b = some o := fun b o e => hs''.extBut b o (Nat.ne_of_lt (Nat.lt_of_lt_of_le (Heap.lt_size e) (Nat.le_of_lt hC))) (old b o (Nat.ne_of_lt (Heap.lt_size e)) (up₁ b o e))
    obtain ⟨F₂, N₂⟩ := cn_keep F N up₂
    refine fin D h'' tk F₂ fun p hp => ?_
    rcases List.mem_cons.mp hp with rfl | hp
    · exact ⟨hs''.extBut _ _ hDC hDl, hDL, cn_fresh F (Nat.le_of_lt hD)⟩
    · exact N₂ p hp

theorem compStart_in {elt target iter c : PySem.Expr} {g₀ : Comprehension} {scope : Scope} {pos : Pos} {it acc : Value} {R : Result → Shared → Prop}
    (h0 : codeAny (model prog w) A (.compLoop (.ListComp elt [g₀, ⟨target, iter, [c], 0⟩] scope pos) 1 it acc env) R s)
    (h : wpAny (model prog w) A (pyIter it) (fun it' s' => codeAny (model prog w) A (.compLoop (.ListComp elt [g₀, ⟨target, iter, [c], 0⟩] scope pos) 1 it' acc env) R s')
      (notedBy (model prog w) A env fun x s' => R (.error x) s') s) :
    codeAny (model prog w) A (.compStart (.ListComp elt [g₀, ⟨target, iter, [c], 0⟩] scope pos) 1 it acc env) R s := by
  refine codeAny_of_tree ?_
  show wpAny _ _ ((compStart (.ListComp elt [g₀, ⟨target, iter, [c], 0⟩] scope pos) 1 it acc env).onRaise (fun x => do noteFrame x env; standAt theWindowsPlace)) _ _ s
  refine wpAny_notedAt ?_
  unfold compStart
  show wpAny _ _ (ask >>= _) _ _ s
  refine wpAny_bind (wpAny_askSetting (wpAny_ite ?_))
  split
  · first
      | exact wpAny_bind (wpAny_pure (wpAny_pure (And.intro rfl h0)))
      | exact wpAny_pure (And.intro rfl h0)
  · first
      | exact wpAny_bind (wpAny_rule (wpAny_bind (wpAny_standAt (wpAny_bind (wpAny_mono h (fun it' s' h' => wpAny_pure (And.intro rfl h')) fun _ _ x => x)))))
      | (refine wpAny_bind (wpAny_rule ?_); show wpAny _ _ (standAt iter.pos >>= _) _ _ s; exact wpAny_bind (wpAny_standAt (wpAny_bind (wpAny_mono h (fun it' s' h' => wpAny_pure (And.intro rfl h')) fun _ _ x => x))))
def RngEnd (s₁ : Shared) (a b : Int) (xv : Value) (s₂ : Shared) : Prop := ∃ (r : Addr) (t u v : Tok) (h' : Heap) (tk' : Nat), xv = .ref r ∧ s₂ = { s₁ with heap := h', toks := tk' } ∧ IsRange h' r a b 1 t u v ∧ ∀ b o, s₁.heap.get? b = some o → h'.get? b = some o
/-- the source of a comprehension over two ranges that takes nothing -/
def CnSrc2 (prog : Program) (w : World) (A : Around) (h₀ : Heap) (L : Addr) (m : Str → Option Value) (env : Env) (iter c : PySem.Expr) (a b : Str) (scope : Scope) (cl : List (Str × Addr)) (Q : Value → Shared → Prop) (xv : Value) (s₁ : Shared) : Prop :=
  ∃ (r : Addr) (t u v : Tok) (news : List (Addr × Obj)), xv = .ref r ∧ A.handled = none ∧ Fr h₀ L s₁.heap m ∧ News h₀ L s₁.heap news ∧ IsRange s₁.heap r 0 3 1 t u v ∧
    (∀ (k : Nat) t C oC m₂ h tk E', k < 3 → LCg.NsObj oC m₂ → m₂ a = some (.int (k : Int) t) → Fr h₀ L h m → News h₀ L h ((C, oC) :: news) → (∀ p ∈ news, p.1 ≠ C) →
      wpAny (model prog w) A (eval iter (compEnvC scope cl C env)) (RngEnd { s₁ with heap := h, toks := tk } 1 5) E' { s₁ with heap := h, toks := tk }) ∧
    (∀ (k : Nat) t (d : Nat) t' C oC m₂ h tk E', k < 3 → d < 5 → 0 < d → LCg.NsObj oC m₂ → m₂ a = some (.int (k : Int) t) → m₂ b = some (.int (d : Int) t') → Fr h₀ L h m → News h₀ L h ((C, oC) :: news) → (∀ p ∈ news, p.1 ≠ C) →
      wpAny (model prog w) A (isTrue c (compEnvC scope cl C env) (eval c (compEnvC scope cl C env))) (CnEnd { s₁ with heap := h, toks := tk }) E' { s₁ with heap := h, toks := tk }) ∧
    (∀ D h tk, Fr h₀ L h m → News h₀ L h ((D, LCg.lst []) :: news) → Q (.ref D) { s₁ with heap := h, toks := tk })
theorem law_comp {elt i₀ iter c : PySem.Expr} {a b : Str} {pa pb : Pos} {scope : Scope} {cl : List (Str × Addr)} {pos : Pos} {Q : Value → Shared → Prop} (_F₀ : Fr h₀ L s.heap m)
    (hclos : closureFor scope env = pure cl) (hcell : ∀ y ∈ scope.names, y.2 ≠ .cell) (hkind : scope.kind = .function)
    (hnames : ∀ y ∈ scope.names, y.2 = .local → scope.names.lookup y.1 = some .local) (hxa : scope.names.lookup a = some .local) (hxb : scope.names.lookup b = some .local) (hne : ¬ a = b)
    (h : wpAny (model prog w) A (eval i₀ env) (CnSrc2 prog w A h₀ L m env iter c a b scope cl Q) E s)
    (hs : ∀ x, foldedSetIterable i₀ env x = pure x := by intro _; rfl) (hs₂ : ∀ env x, foldedSetIterable iter env x = pure x := by intro _ _; rfl) :
    wpAny (model prog w) A (eval (.ListComp elt [⟨.Name a pa, i₀, [], 0⟩, ⟨.Name b pb, iter, [c], 0⟩] scope pos) env) Q E s := by
  rw [eval_ListComp]
  refine wpAny_comprehension_free (use := none) rfl hs hclos hkind hnames (wpAny_mono h (fun xv s₁ h₁ => ?_) fun _ _ e => e)
  obtain ⟨r, t, u, v, news, rfl, hh, F, N, hr, inner, turn, fin⟩ := h₁
  refine wpAny_pyIter_range hr (by decide +kernel) ?_
  generalize hq : ({ cls := .type "range_iterator", data := .fields #[rawInt 0, rawInt (Builtin.Range.rangeSize 0 3 1), rawInt 1] } : Obj) = oI
  have up₁ : ∀ b o, s₁.heap.get? b = some o → (s₁.heap.push oI).get? b = some o := fun b o e => Heap.get?_push_of_some _ e
  have hIn : (s₁.heap.push oI).get? s₁.heap.objs.size = some oI := Heap.get?_push_size _ (by rw [← hq]; rfl)
  refine none_block hcell hkind hIn (fun D C h₁ tk m₁ hD hC hDC hns hDl old hR => ?_) (fun D C h₂ tk m' hD hC hDC hns hDl old => ?_)
  · rw [Heap.size_push] at hD hC
    have hCI : C ≠ s₁.heap.objs.size := Nat.ne_of_gt hC
    have hCL : C ≠ L := fun q => absurd F.ns.lt (by rw [← q]; exact Nat.not_lt.mpr (Nat.le_of_lt hC))
    have hC₀ : h₀.get? C = none := cn_fresh F (Nat.le_of_lt hC)
    have apart : ∀ p ∈ news, p.1 ≠ C := fun p hp q => absurd (Heap.lt_size (N p hp).1) (by rw [q]; exact Nat.not_lt.mpr (Nat.le_of_lt hC))
    have W := LCg.range_walks (prog := prog) (w := w) (I := s₁.heap.objs.size) hh 0 3
    have hst : IsRangeIter h₁ s₁.heap.objs.size (0 + ((0 : Nat) : Int) * 1) (((3 : Nat) : Int) - ((0 : Nat) : Int)) 1 := by
      have := old _ _ hIn
      rw [← hq] at this
      exact this
    have loop : codeAny (model prog w) A (.compLoop (.ListComp elt [⟨.Name a pa, i₀, [], 0⟩, ⟨.Name b pb, iter, [c], 0⟩] scope pos) 0 (.ref s₁.heap.objs.size) (.ref D) (compEnvC scope cl C env))
        (compPost (model prog w) A E none Q (.ref D) C) { s₁ with heap := h₁, toks := tk } := by
      refine none_walk (s := { s₁ with heap := h₁, toks := tk }) (C := C) (fun _ => True) (loop_out (hs₂ _)) W (by simpa using hCI) hst hns trivial (fun i v s₂ m₂ K E' hi hv hs₂ hn₂ _ he hk hK => ?_) (fun h₂ tk₂ m' hn' hk' => hR h₂ tk₂ m' hn' hk')
      obtain ⟨h₂, tk₂, rfl⟩ := he
      obtain ⟨tv, rfl⟩ := hv
      have upT : ∀ b o, s₁.heap.get? b = some o → h₂.get? b = some o := fun b o e => hk b o (Nat.ne_of_lt (Nat.lt_of_lt_of_le (Heap.lt_size e) (Nat.le_of_lt hC))) (Nat.ne_of_lt (Heap.lt_size e)) (old b o (up₁ b o e))
      unfold T0
      refine wpAny_of_eq (show letOwnedTupleGo (.Name a pa) (.ref s₁.heap.objs.size) (.int (0 + (i : Int)) tv) = pure () by rfl) ?_
      refine wpAny_assign_Name (wpAny_storeName_local (lookup_relabel_local hxa) hn₂ (fun h₃ hn₃ hs₃ => ?_) (by simp [compEnvC, relabel, hkind]))
      obtain ⟨oC, heC, hoC⟩ := LCg.ns_obj hn₃
      have upT₃ : ∀ b o, s₁.heap.get? b = some o → h₃.get? b = some o := fun b o e => hs₃.extBut b o (Nat.ne_of_lt (Nat.lt_of_lt_of_le (Heap.lt_size e) (Nat.le_of_lt hC))) (upT b o e)
      obtain ⟨F₃, N₃⟩ := cn_keep F N upT₃
      have N₄ : News h₀ L h₃ ((C, oC) :: news) := fun p hp => by
        rcases List.mem_cons.mp hp with rfl | hp
        · exact ⟨heC, hCL, hC₀⟩
        · exact N₃ p hp
      refine wpAny_mono (inner i tv C oC _ h₃ _ _ hi hoC (by simp) F₃ N₄ apart) (fun x s₄ h₄ => ?_) fun _ _ e => e
      obtain ⟨r₂, t₂, u₂, v₂, h₄, tk₄, rfl, rfl, hr₂, hk₄⟩ := h₄
      refine wpAny_pyIter_range hr₂ (by decide +kernel) ?_
      generalize hq₂ : ({ cls := .type "range_iterator", data := .fields #[rawInt 1, rawInt (Builtin.Range.rangeSize 1 5 1), rawInt 1] } : Obj) = oI₂
      have hI₂ : (h₄.push oI₂).get? h₄.objs.size = some oI₂ := Heap.get?_push_size _ (by rw [← hq₂]; rfl)
      have up₄ : ∀ b o, h₃.get? b = some o → (h₄.push oI₂).get? b = some o := fun b o e => Heap.get?_push_of_some _ (hk₄ b o e)
      have hCl₄ : C < h₄.objs.size := Heap.lt_size (hk₄ _ _ heC)
      have hCI₂ : C ≠ h₄.objs.size := Nat.ne_of_lt hCl₄
      have hst₂ : IsRangeIter (h₄.push oI₂) h₄.objs.size (1 + ((0 : Nat) : Int) * 1) (((4 : Nat) : Int) - ((0 : Nat) : Int)) 1 := by
        rw [← hq₂] at hI₂ ⊢
        exact hI₂
      have W₂ := LCg.range_walks (prog := prog) (w := w) (I := h₄.objs.size) hh 1 4
      have hn₄ : (h₄.push oI₂).Ns C _ := hn₃.at' fun o e => up₄ _ o e
      have loop₂ : codeAny (model prog w) A (.compLoop (.ListComp elt [⟨.Name a pa, i₀, [], 0⟩, ⟨.Name b pb, iter, [c], 0⟩] scope pos) 1 (.ref h₄.objs.size) (.ref D) (compEnvC scope cl C env))
          (fun r s₅ => match r with | .ok _ => K s₅ | .error _ => False) { s₁ with heap := h₄.push oI₂, toks := tk₄ } := by
        refine none_walk (s := { s₁ with heap := h₄.push oI₂, toks := tk₄ }) (C := C) (fun m => m a = some (.int (0 + (i : Int)) tv)) loop_in W₂ (by simpa using hCI₂) hst₂ hn₄ (by simp) (fun j v s₅ m₅ K' E'' hj hv hs₅ hn₅ hm₅ he hk₅ hK' => ?_) (fun h₅ tk₅ m' hn' hk' => ?_)
        · obtain ⟨h₅, tk₅, rfl⟩ := he
          obtain ⟨tw, rfl⟩ := hv
          unfold T1
          refine wpAny_of_eq (show letOwnedTupleGo (.Name b pb) (.ref h₄.objs.size) (.int (1 + (j : Int)) tw) = pure () by rfl) ?_
          refine wpAny_assign_Name (wpAny_storeName_local (lookup_relabel_local hxb) hn₅ (fun h₆ hn₆ hs₆ => ?_) (by simp [compEnvC, relabel, hkind]))
          obtain ⟨oC₆, heC₆, hoC₆⟩ := LCg.ns_obj hn₆
          have upT₆ : ∀ b o, s₁.heap.get? b = some o → h₆.get? b = some o := fun b o e => by
            have hbC : b ≠ C := Nat.ne_of_lt (Nat.lt_of_lt_of_le (Heap.lt_size e) (Nat.le_of_lt hC))
            exact hs₆.extBut b o hbC (hk₅ b o hbC (Nat.ne_of_lt (Nat.lt_trans (Nat.lt_of_lt_of_le (Heap.lt_size e) (Nat.le_of_lt hC)) hCl₄)) (up₄ b o (upT₃ b o e)))
          obtain ⟨F₆, N₆⟩ := cn_keep F N upT₆
          have N₇ : News h₀ L h₆ ((C, oC₆) :: news) := fun p hp => by
            rcases List.mem_cons.mp hp with rfl | hp
            · exact ⟨heC₆, hCL, hC₀⟩
            · exact N₆ p hp
          refine wpAny_mono (turn i tv (1 + j) tw C oC₆ _ h₆ _ E'' hi (by lia) (by lia) hoC₆ (by simpa [hne] using hm₅) (by simp) F₆ N₇ apart) (fun ok s₇ h₇ => ?_) fun _ _ e => e
          obtain ⟨rfl, h₈, tk₈, rfl, hk₈⟩ := h₇
          exact ⟨rfl, hK' _ ⟨h₈, tk₈, _, rfl, hn₆.at' fun o e => hk₈ _ o e, by simp [hne, hm₅], fun b o hb e => hk₈ b o (hs₆.extBut b o hb e)⟩⟩
        · refine hK _ ⟨h₅, tk₅, m', rfl, hn', trivial, fun b o hb e => ?_⟩
          have e₄ := up₄ b o (hs₃.extBut b o hb e)
          exact hk' b o hb (Nat.ne_of_lt (Heap.lt_size (hk₄ b o (hs₃.extBut b o hb e)))) e₄
      exact compStart_in loop₂ (wpAny_pyIter_rangeiter hst₂ loop₂)
    exact codeAny_compStart_list loop (wpAny_pyIter_rangeiter hst loop)
  · rw [Heap.size_push] at hD hC
    have hDL : D ≠ L := fun q => absurd F.ns.lt (by rw [← q]; exact Nat.not_lt.mpr (Nat.le_of_lt hD))
    refine ⟨m', hns, fun h'' hs'' => ?_⟩
    have up₂ : ∀ b o, s₁.heap.get? b = some o → h''.get? b = some o := fun b o e => hs''.extBut b o (Nat.ne_of_lt (Nat.lt_of_lt_of_le (Heap.lt_size e) (Nat.le_of_lt hC))) (old b o (Nat.ne_of_lt (Heap.lt_size e)) (up₁ b o e))
    obtain ⟨F₂, N₂⟩ := cn_keep F N up₂
    refine fin D h'' tk F₂ fun p hp => ?_
    rcases List.mem_cons.mp hp with rfl | hp
    · exact ⟨hs''.extBut _ _ hDC hDl, hDL, cn_fresh F (Nat.le_of_lt hD)⟩
    · exact N₂ p hp
end

theorem offF14 : True := by
  w_top off
  trivial
theorem pat_eq : ∀ k : Nat, k < 3 → ∀ d : Nat, d < 5 → 0 < d → Txt.item (Str.ofString "d-l") (k : Int) ++ Txt.mul (Str.ofString "?") 9 ++ Str.ofString " " ++ Txt.mul (Str.ofString "/*") (d : Int) = patS (kindC k) d ∧ (Txt.mul (Str.ofString "/*") (d : Int)).length ≤ 10 ∧ (patS (kindC k) d).length ≤ 100 ∧ (textS (patS (kindC k) d)).length ≤ 100 := by decide +kernel
theorem pat_ok {k d : Nat} (hk : k < 3) (hd : d < 5) (h0 : 0 < d) : (patS (kindC k) d).length ≤ 100 ∧ TrOk (patS (kindC k) d) ∧ NoDbl (trF (patS (kindC k) d) (patS (kindC k) d).length) ∧ tW (trF (patS (kindC k) d) (patS (kindC k) d).length) ≤ 900 ∧ (trF (patS (kindC k) d) (patS (kindC k) d).length).length ≤ 1000 := by
  have h := pats_ok k hk d hd h0
  unfold patOk at h
  simp only [Bool.and_eq_true, decide_eq_true_eq] at h
  obtain ⟨⟨⟨⟨h1, h2⟩, h3⟩, h4⟩, h5⟩ := h
  exact ⟨h1, trOk_of h2, noDbl_of h3, h4, h5⟩
theorem row_len {r : RowV} (ok : RowOk r) : r.text.length ≤ 1000 ∧ 0 ≤ r.deep ∧ r.deep ≤ 1000 := by
  obtain ⟨K, m, y, hK, hm0, hm1, fm, ht, _, _, _, e4⟩ := ok
  have h1 := fm_len fm
  have h2 := path_len m hm1
  have h3 : (Str.ofString " ").length = 1 := by decide +kernel
  refine ⟨by rw [ht, Str.length_append, Str.length_append, h3]; lia, by rw [e4]; lia, ?_⟩
  rw [e4, deep_count 9 (Nat.le_refl _) m hm1 9 (Nat.le_refl _), if_neg (by lia)]
  have := List.count_le_length (a := 47) (l := (showP m).cps.toList)
  rw [Array.length_toList] at this
  have h4 : (showP m).cps.size ≤ 100 := h2
  lia
section
variable {prog : Program} {w : World} {A : Around} {E : Value → Shared → Prop} {s : Shared} {h₀ : Heap} {L : Addr} {m : Str → Option Value} {env : Env}
theorem right_src {c : PySem.Expr} {scope : Scope} {cl : List (Str × Addr)} {Q : Value → Shared → Prop} {ax : Addr} {i : Nat} {vs : List Value} {rs news : List (Addr × Obj)} (hh : A.handled = none) (F : Fr h₀ L s.heap m) (N : News h₀ L s.heap news) (hl : h₀.IsList ax vs.toArray) (rv : RowsV i vs rs) (hrs : ∀ p ∈ rs, h₀.get? p.1 = some p.2)
    (turn : ∀ (r : RowV) (b : Addr) (t t' : Tok) C oC m₂ h tk E', RowOk r → r.text.length ≤ 1000 → 0 ≤ r.deep → r.deep ≤ 1000 → h₀.IsList b #[.bool r.d, .bool r.f, .bool r.l] → LCg.NsObj oC m₂ → m₂ (Str.ofString "row") = some (.str r.text t) → m₂ (Str.ofString "kinds") = some (.ref b) → m₂ (Str.ofString "turns") = some (.int r.deep t') → Fr h₀ L h m → News h₀ L h ((C, oC) :: news) → AllNe C news →
      wpAny (model prog w) A (isTrue c (compEnvC scope cl C env) (eval c (compEnvC scope cl C env))) (CnEnd { s with heap := h, toks := tk }) E' { s with heap := h, toks := tk })
    (fin : ∀ D h tk, Fr h₀ L h m → News h₀ L h ((D, W.listOf #[] 0) :: news) → Q (.ref D) { s with heap := h, toks := tk }) :
    CnSrc prog w A h₀ L m env c (Str.ofString "row") (Str.ofString "kinds") (Str.ofString "turns") scope cl Q (.ref ax) s := by
  refine ⟨ax, vs, news, fun x y z => ∃ (r : RowV) (b : Addr) (t t' : Tok), RowOk r ∧ x = .str r.text t ∧ y = .ref b ∧ z = .int r.deep t' ∧ h₀.IsList b #[.bool r.d, .bool r.f, .bool r.l], rfl, hh, F, N, hl, fun v hv => ?_, ?_, fin⟩
  · obtain ⟨a, b, r, t, t', n, n', rfl, m1, m2, ok⟩ := rv.2.1 v hv
    exact ⟨a, _, _, _, rfl, ⟨_, hrs _ m1, rfl, _, rfl⟩, r, b, t, t', ok, rfl, rfl, rfl, ⟨_, hrs _ m2, rfl, _, rfl⟩⟩
  · rintro x y z C oC m₂ h tk E' ⟨r, b, t, t', ok, rfl, rfl, rfl, hb⟩ hC e1 e2 e3 F' N' hne
    have q := row_len ok
    exact turn r b t t' C oC m₂ h tk E' ok q.1 q.2.1 q.2.2 hb hC e1 e2 e3 F' N' (allNe_of hne)
theorem pick3 {value slice : Expr} {b : Addr} {d f l : Bool} {k : Nat} {u : Tok} {Q : Value → Shared → Prop} (F : Fr h₀ L s.heap m) (hl : h₀.IsList b #[.bool d, .bool f, .bool l]) (hk : k < 3) (h : Q (.bool ([d, f, l].getD k false)) s)
    (hs : subscripted slice false (.ref b) (.int k u) = operate [.ref b, .int k u] (getItem (.ref b) (.int k u)) := by with_unfolding_all rfl) :
    wpAny (model prog w) A (subscriptTail value slice (.ref b) (.int k u)) Q E s := by
  have hl := hl.at fun o e => F.keep b o e
  refine tail_any hl.typeIs slot_list_getitem.lookup (wpAny_getItem_list hl (by lia) (by lia) (x := .bool ([d, f, l].getD k false)) ?_ h) hs
  rcases (show k = 0 ∨ k = 1 ∨ k = 2 by lia) with rfl | rfl | rfl <;> rfl
end
theorem text_at {k d : Nat} {res : List Str} (hk : k < 3) (hd : d < 5) (h0 : 0 < d) (h : JF (trF (patS (kindC k) d) (patS (kindC k) d).length) res) :
    ∃ X : Str, X = Str.ofString "(?s:" ++ Txt.join (Str.ofString "") res ++ Str.ofString ")\\Z" ∧ X = textS (patS (kindC k) d) ∧ X.length ≤ 1000 := by
  have q := jf_out h
  subst q
  have l := (pat_eq k hk d hd h0).2.2.2
  exact ⟨_, rfl, rfl, Nat.le_trans l (by decide)⟩
theorem eq_nilK {prog : Program} {w : World} {A : Around} {E : Value → Shared → Prop} {s : Shared} {a b : Addr} {Q : Value → Shared → Prop} (hl : s.heap.IsList a #[]) (hl' : s.heap.IsList b #[]) (hu : A.units + 64 < cLine) (h : Q (.bool true) s) :
    wpAny (model prog w) A (compareOp .Eq (.ref a) (.ref b)) Q E s :=
  eq_intsK (vs := []) (us := []) (ns := []) (ms := []) hl .nil hl' .nil hu (by simpa using h)
theorem linesF14_1 : True := by
  k_with "compareOp Eq ref ref" => ((with_reducible show wpAny _ _ (compareOp CmpOp.Eq (Value.ref _) (Value.ref _)) _ _ _); (k_dflt (refine' eq_nilK (by exact News.isList (by k_asm) (by k_mem)) (by exact News.isList (by k_asm) (by k_mem)) (by ktr_units) ?_; k_whole)))
  trivial
theorem cn_end {s₁ : Shared} {ok : Bool} {h' : Heap} {tk : Nat} (e : ok = false) (g : Grew s₁.heap h') : CnEnd s₁ ok { s₁ with heap := h', toks := tk } := ⟨e, h', tk, rfl, g⟩
theorem cn_a {r : RowV} {X : Str} {k d : Nat} (ok : RowOk r) (hk : k < 3) (hd : d < 5) (h0 : 0 < d) (e : X = textS (patS (kindC k) d)) (c : [r.d, r.f, r.l].getD k false = true) : (takesF X r.text != decide ((d : Int) ≤ r.deep)) = false := by
  rw [e, takes_law ok hk hd h0, c]; simp
theorem cn_b {r : RowV} {X : Str} {k d : Nat} (ok : RowOk r) (hk : k < 3) (hd : d < 5) (h0 : 0 < d) (e : X = textS (patS (kindC k) d)) (c : [r.d, r.f, r.l].getD k false = false) : (takesF X r.text != [r.d, r.f, r.l].getD k false) = false := by
  rw [e, takes_law ok hk hd h0, c]; simp
theorem linesF14_2 : True := by
  k_with "eval ListComp" => ((with_reducible show wpAny _ _ (eval (Expr.ListComp (Expr.Name (PySem.Str.ofString "row") _) _ _ _) _) _ _ _); (k_dflt (refine right_comp (by k_asm) (by with_unfolding_all rfl) (by decide) (by rfl) (by decide) (by rfl) (by rfl) (by rfl) (by decide) ?_)))
  k_with "CnSrc" => ((with_reducible show CnSrc _ _ _ _ _ _ _ _ _ _ _ _ _ _ (Value.ref _) _); (with_reducible rename RowsV _ _ _ => rvu132'); (k_dflt (refine' right_src (by exact rfl) (by k_asm) (by k_asm) (by with_reducible assumption) rvu132' (by with_reducible assumption) ?_ ?_)); (all_goals (intros; (try k_fold))))
  k_with "call ref" => ((with_reducible show wpAny _ _ (call (Value.ref 50) [Value.str _ _]) _ _ _); (k_dflt ((have pe := (pat_eq _ (by with_reducible assumption) _ (by with_reducible assumption) (by with_reducible assumption)).1); rw [pe]; (have po := pat_ok (by with_reducible assumption) (by with_reducible assumption) (by with_reducible assumption)); refine' Sp.use (sp_translate _ _ _ _ _ _) (by k_asm) (by k_asm) (by k_asm) (by k_asm) (by k_asm) (by first | exact rfl | assumption) (by ktr_room) (by ktr_units) (by exact po) ?_); intro v9u133 h9u133 tk9u133 g9u133 F9u133 N9u133 p9u133; obtain ⟨res9u133, t9u133, p9u133, q9u133⟩ := p9u133; (obtain ⟨X9u133, e9u133, e8u133, l9u133⟩ := text_at (by with_reducible assumption) (by with_reducible assumption) (by with_reducible assumption) p9u133); rw [← e9u133] at q9u133; clear e9u133 p9u133; subst q9u133; clear po pe; (try k_sweep)))
  k_with "call ref" => ((with_reducible show wpAny _ _ (call (Value.ref 271) [Value.str _ _, Value.str _ _]) _ _ _); (k_dflt (refine' Sp.use (sp_takes _ _ _ _ _ _ _ _) (by k_asm) (by k_asm) (by k_asm) (by k_asm) (by k_asm) (by first | exact rfl | assumption) (by ktr_room) (by ktr_units) (by exact ⟨by with_reducible assumption, by with_reducible assumption⟩) ?_); intro v9u134 h9u134 tk9u134 g9u134 F9u134 N9u134 p9u134; subst p9u134; (try k_sweep)))
  k_with "subscriptTail Name Name ref int" => ((with_reducible show wpAny _ _ (subscriptTail _ _ (Value.ref _) (Value.int _ _)) _ _ _); (with_reducible rename Heap.IsList _ _ #[Value.bool _, _, _] => ilu135'); (k_dflt (refine' pick3 (by k_asm) ilu135' (by with_reducible assumption) ?_; k_whole)))
  trivial
set_option maxRecDepth 100000 in
set_option maxHeartbeats 8000000 in
theorem sp_right (w : World) (mean : ExcName → Option Value) (mg mb : Str → Option Value) (a₀ : Addr) (vs : List Value) (rs : List (Addr × Obj)) (i k d : Nat) (t t' : Tok) :
    About PySem.Challenge.rw_rt0094_01 Mine.pre.heap_1_1 (Sp w mean mg mb 290 [Value.ref a₀, Value.int (k : Int) t, Value.int (d : Int) t'] 16 (fun h => h.IsList a₀ vs.toArray ∧ RowsV i vs rs ∧ (∀ p ∈ rs, h.get? p.1 = some p.2) ∧ k < 3 ∧ d < 5 ∧ 0 < d) (fun _ _ v => v = Value.bool true)) := by
  k_fill; unfold About Sp; intro dp un gd cn cs a ccd cl outer A₀ base h₀ L m s Q E B F X T hk hd hu hp hret
  obtain ⟨hp1, hp2, hp3, hp4, hp5, hp6⟩ := hp
  walk_at "mine:goC"
  all_goals (try dsimp only)
  all_goals first
  | (refine sp_ret (s := s) (Q := Q) hret (by k_asm) rfl)
  | ((show qk _ _); k_unfold; (try dsimp only); k_steps; all_goals (refine sp_ret (s := s) (Q := Q) hret (by k_asm) rfl))
  | exact cn_end (cn_a (by with_reducible assumption) hp4 hp5 hp6 (by with_reducible assumption) (by with_reducible assumption)) (by assumption)
  | exact cn_end (cn_b (by with_reducible assumption) hp4 hp5 hp6 (by with_reducible assumption) (by with_reducible assumption)) (by assumption)

theorem offF15 : True := by
  w_top off
  trivial
theorem ints9 {vs : List Value} {xs ys : List Int} (h : IntsAre vs (xs.take 3 ++ ys)) (hy : ys.length = 6) : vs.length ≤ 9 := by
  rw [ints_len h, List.length_append, List.length_take, hy]; omega
theorem law_led {h₀ h h9 : Heap} {L D T : Addr} {o oR : Obj} {m : Str → Option Value} {news es : List (Addr × Obj)} (F : Fr h₀ L h m) (N : News h₀ L h9 news) (nn : ∀ p ∈ (D, o) :: es, h9.get? p.1 = some p.2 ∧ h.get? p.1 = none) (m1 : (T, tabObj #[]) ∈ news) (m2 : (L + 1, oR) ∈ news) :
    News h₀ L h9 ((D, o) :: (T, tabObj #[]) :: (L + 1, oR) :: es) := by
  have N' := newsAdd _ F N nn
  intro p hp
  rcases List.mem_cons.mp hp with rfl | hp; · exact N' _ (.head _)
  rcases List.mem_cons.mp hp with rfl | hp; · exact N' _ (List.mem_append_right _ m1)
  rcases List.mem_cons.mp hp with rfl | hp; · exact N' _ (List.mem_append_right _ m2)
  exact N' _ (List.mem_append_left _ (.tail _ hp))
theorem law_ledC {G : Prop} {h₀ h h9 : Heap} {L D T : Addr} {o oR : Obj} {m : Str → Option Value} {news es : List (Addr × Obj)} (F : Fr h₀ L h m) (N : News h₀ L h9 news) (nn : ∀ p ∈ (D, o) :: es, h9.get? p.1 = some p.2 ∧ h.get? p.1 = none) (m1 : (T, tabObj #[]) ∈ news) (m2 : (L + 1, oR) ∈ news) (k : News h₀ L h9 ((D, o) :: (T, tabObj #[]) :: (L + 1, oR) :: es) → G) : G := k (law_led F N nn m1 m2)
theorem list_pre {h₀ h : Heap} {L a₀ : Addr} {news es : List (Addr × Obj)} {refs : List Value} {n k : Nat} (N : News h₀ L h news) (tv : TreeV k refs es) (m : (a₀, W.listOf refs.toArray n) ∈ news) (sub : ∀ p ∈ es, p ∈ news) (le : k ≤ 9) :
    h.IsList a₀ refs.toArray ∧ TreeV k refs es ∧ (∀ p ∈ es, h.get? p.1 = some p.2) ∧ k ≤ 9 := ⟨News.isList N m, tv, fun p hp => (N p (sub p hp)).1, le⟩
theorem right_pre {h₀ h : Heap} {L a₀ : Addr} {news rs : List (Addr × Obj)} {vs : List Value} {n i k d : Nat} (N : News h₀ L h news) (rv : RowsV i vs rs) (m : (a₀, W.listOf vs.toArray n) ∈ news) (sub : ∀ p ∈ rs, p ∈ news) (hk : k < 3) (hd : d < 5) (h0 : 0 < d) :
    h.IsList a₀ vs.toArray ∧ RowsV i vs rs ∧ (∀ p ∈ rs, h.get? p.1 = some p.2) ∧ k < 3 ∧ d < 5 ∧ 0 < d := ⟨News.isList N m, rv, fun p hp => (N p (sub p hp)).1, hk, hd, h0⟩
section
variable {M : Model} {A : Around} {E : Value → Shared → Prop} {s : Shared} {h₀ : Heap} {L : Addr} {m : Str → Option Value} {env : Env} {x : Str} {v : Value} {Q : Unit → Shared → Prop} {news rs : List (Addr × Obj)} {D T : Addr} {oR : Obj} {v₀ : Option Value} {vs : List Value} {i n : Nat}
theorem law_store (F : Fr h₀ L s.heap m) (N : News h₀ L s.heap news) (hc : env.cells.lookup x = some (L + 1)) (m1 : (D, W.listOf vs.toArray n) ∈ news) (m2 : (T, tabObj #[]) ∈ news) (m3 : (L + 1, oR) ∈ news) (hrs : ∀ p ∈ rs, p ∈ news) (rv : RowsV i vs rs) (h64 : @LT.lt Nat _ T L) (hd : oR.data = .cell v₀)
    (h : ∀ h' oR', Fr h₀ L h' m → News h₀ L h' ((D, W.listOf vs.toArray n) :: (T, tabObj #[]) :: (L + 1, oR') :: rs) → oR'.data = .cell (some v) → Q () { s with heap := h' })
    (hk : env.scope.kind = .function) (hx : env.kindOf x = some .cell) : wpAny M A (storeName env x v) Q E s := by
  have gR := N _ m3
  have apart : ∀ p : Addr × Obj, s.heap.get? p.1 = some p.2 → (∃ xs k, p.2 = W.listOf xs k) → p.1 ≠ L + 1 := by
    rintro p hp ⟨xs, k, e⟩ q
    rw [q, gR.1] at hp
    have this : oR = p.snd := Option.some.inj hp
    rw [this, e] at hd; cases hd
  refine wpAny_storeName_cell hk hx hc ⟨oR, gR.1, hd⟩ fun h' hv hs => ?_
  obtain ⟨oR', ho', hd'⟩ := hv
  refine h h' oR' ⟨F.ns.sameBut hs (Ne.symm gR.2.1), fun b ob e => (hs.2 b (fun q => ?_)).trans (F.keep b ob e), F.above⟩ (fun p hp => ?_) hd'
  · rw [q, gR.2.2] at e; cases e
  have up : ∀ p ∈ news, p.1 ≠ L + 1 → h'.get? p.1 = some p.2 ∧ p.1 ≠ L ∧ h₀.get? p.1 = none := fun p hp q => ⟨hs.extBut _ _ q (N p hp).1, (N p hp).2⟩
  rcases List.mem_cons.mp hp with rfl | hp; · exact up _ m1 (apart _ (N _ m1).1 ⟨_, _, rfl⟩)
  rcases List.mem_cons.mp hp with rfl | hp
  · exact up _ m2 (Nat.ne_of_lt (Nat.lt_succ_of_lt h64))
  rcases List.mem_cons.mp hp with rfl | hp; · exact ⟨ho', gR.2⟩
  obtain ⟨y, r, k, e, _⟩ := rv.2.2.2 p hp
  exact up _ (hrs p hp) (apart _ (N _ (hrs p hp)).1 ⟨_, _, e⟩)
end
section
variable {prog : Program} {w : World} {A : Around} {E : Value → Shared → Prop} {s : Shared} {h₀ : Heap} {L : Addr} {m : Str → Option Value} {env : Env}
theorem law_src {iter c : PySem.Expr} {scope : Scope} {cl : List (Str × Addr)} {Q : Value → Shared → Prop} {r : Addr} {t u v : Tok} {news : List (Addr × Obj)} (hh : A.handled = none) (F : Fr h₀ L s.heap m) (N : News h₀ L s.heap news) (hr : IsRange s.heap r 0 3 1 t u v)
    (inner : ∀ C oC m₂ h tk E', LCg.NsObj oC m₂ → Fr h₀ L h m → News h₀ L h ((C, oC) :: news) →
      wpAny (model prog w) A (eval iter (compEnvC scope cl C env)) (RngEnd { s with heap := h, toks := tk } 1 5) E' { s with heap := h, toks := tk })
    (turn : ∀ (k : Nat) t (d : Nat) t' C oC m₂ h tk E', k < 3 → d < 5 → 0 < d → LCg.NsObj oC m₂ → m₂ (Str.ofString "kind") = some (.int (k : Int) t) → m₂ (Str.ofString "deep") = some (.int (d : Int) t') → Fr h₀ L h m → News h₀ L h ((C, oC) :: news) →
      wpAny (model prog w) A (isTrue c (compEnvC scope cl C env) (eval c (compEnvC scope cl C env))) (CnEnd { s with heap := h, toks := tk }) E' { s with heap := h, toks := tk })
    (fin : ∀ D h tk, Fr h₀ L h m → News h₀ L h ((D, W.listOf #[] 0) :: news) → Q (.ref D) { s with heap := h, toks := tk }) :
    CnSrc2 prog w A h₀ L m env iter c (Str.ofString "kind") (Str.ofString "deep") scope cl Q (.ref r) s :=
  ⟨r, t, u, v, news, rfl, hh, F, N, hr, fun k t C oC m₂ h tk E' _ hC _ F' N' _ => inner C oC m₂ h tk E' hC F' N', fun k t d t' C oC m₂ h tk E' h1 h2 h3 hC e1 e2 F' N' _ => turn k t d t' C oC m₂ h tk E' h1 h2 h3 hC e1 e2 F' N', fin⟩
end
theorem linesF15_1 : True := by
  k_with "mine:mem" => (repeat (first | exact List.Mem.head _ | apply List.Mem.tail))
  k_with "call ref" => ((with_reducible show wpAny _ _ (call (Value.ref 266) [Value.ref _]) _ _ _); (rename Fr _ _ _ _ => lFu137'); (k_dflt (refine' Sp.use (sp_tree _ _ _ _ _ _ _) (by k_asm) (by k_asm) (by k_asm) (by k_asm) (by k_asm) (by first | exact rfl | assumption) (by ktr_room) (by ktr_units) (by exact ⟨News.isList (by k_asm) (by k_mem), by with_reducible assumption, ints9 (by with_reducible assumption) rfl⟩) ?_); intro v9u137 h9u137 tk9u137 g9u137 F9u137 N9u137 p9u137; obtain ⟨D9u137, refs9u137, n9u137, es9u137, p9u137, tv9u137, nn9u137⟩ := p9u137; subst p9u137; (k_dflt (refine' law_ledC lFu137' N9u137 nn9u137 (by walk_at "mine:mem") (by walk_at "mine:mem") ?_)); intro N9u137'; (with_reducible rename IntsAre _ (List.take 3 _ ++ _) => iau137'); (have le9u137 := ints9 iau137' rfl); clear lFu137' N9u137 nn9u137; (try k_sweep)))
  k_with "call ref" => ((with_reducible show wpAny _ _ (call (Value.ref 285) [Value.ref _]) _ _ _); (rename Fr _ _ _ _ => lFu138'); (rename News _ _ _ _ => lNu138'); (with_reducible rename TreeV _ _ _ => tvu138'); (k_dflt (refine' Sp.use (sp_listing _ _ _ _ _ _ _ _) (by k_asm) (by k_asm) (by k_asm) (by k_asm) (by k_asm) (by first | exact rfl | assumption) (by ktr_room) (by ktr_units) (by exact list_pre (by assumption) (by with_reducible assumption) (by walk_at "mine:mem") (by (intro p hp; (repeat (first | exact hp | apply List.Mem.tail)))) (by with_reducible assumption)) ?_); intro v9u138 h9u138 tk9u138 g9u138 F9u138 N9u138 p9u138; obtain ⟨D9u138, vs9u138, n9u138, rs9u138, p9u138, rv9u138, nn9u138⟩ := p9u138; subst p9u138; (k_dflt (refine' law_ledC lFu138' N9u138 nn9u138 (by walk_at "mine:mem") (by walk_at "mine:mem") ?_)); intro N9u138'; clear lFu138' lNu138' N9u138 nn9u138 tvu138'; (try k_sweep)))
  k_with "storeName" => ((with_reducible show wpAny _ _ (storeName _ (PySem.Str.ofString "rows") _) _ _ _); (with_reducible rename RowsV _ _ _ => rvu139'); (k_dflt (refine' law_store (by k_asm) (by k_asm) (by exact rfl) (by k_mem) (by walk_at "mine:mem") (by walk_at "mine:mem") (by (intro p hp; (repeat (first | exact hp | apply List.Mem.tail)))) rvu139' (by assumption) (by k_asm) ?_ (by exact rfl) (by exact rfl); k_whole; intro hu139' ou139' Fu139' Nu139' du139'; (try k_sweep))))
  k_with "eval ListComp" => ((with_reducible show wpAny _ _ (eval (Expr.ListComp (Expr.Name (PySem.Str.ofString "kind") _) _ _ _) _) _ _ _); (k_dflt (refine law_comp (by k_asm) (by with_unfolding_all rfl) (by decide) (by rfl) (by decide) (by rfl) (by rfl) (by decide) ?_)))
  k_with "CnSrc2" => ((with_reducible show CnSrc2 _ _ _ _ _ _ _ _ _ _ _ _ _ _ (Value.ref _) _); (rename IsRange _ _ _ _ _ _ _ _ => Ru141'); (k_dflt (refine' law_src (by exact rfl) (by k_asm) (by k_asm) Ru141' ?_ ?_ ?_)); (all_goals (intros; (try k_fold))))
  k_with "call ref" => ((with_reducible show wpAny _ _ (call (Value.ref 290) [Value.ref _, Value.int _ _, Value.int _ _]) _ _ _); (rename News _ _ _ _ => lNu142'); (with_reducible rename RowsV _ _ _ => rvu142'); (k_dflt (refine' Sp.use (sp_right _ _ _ _ _ _ _ _ _ _ _ _) (by k_asm) (by k_asm) (by k_asm) (by k_asm) (by k_asm) (by first | exact rfl | assumption) (by ktr_room) (by ktr_units) (by exact right_pre (by assumption) (by with_reducible assumption) (by walk_at "mine:mem") (by (intro p hp; (repeat (first | exact hp | apply List.Mem.tail)))) (by with_reducible assumption) (by with_reducible assumption) (by with_reducible assumption)) ?_); intro v9u142 h9u142 tk9u142 g9u142 F9u142 N9u142 p9u142; subst p9u142; clear lNu142'; (try k_sweep)))
  trivial
-- puts the goal as it reads now (its holes filled) in the goal's place: without it the walk takes five times the memory
theorem same_goal {P : Prop} (h : P) : P := h
set_option maxRecDepth 100000 in
set_option maxHeartbeats 8000000 in
theorem holds : PySem.Challenge.rw_rt0094_01.Holds := by
  w_on
  refine holds_law law_said fun said => ?_
  have opens := open_cut (N := 6254) (He := fun P => absHeap (Mine.pre.tree_1_511 P) _ _) (H₀ := Mine.pre.heap_1_33) Mine.pre._proof_1_517 (by decide +kernel) Mine.pre._proof_1_519
  have left := LeftO.of_pieces (N := 6254) (H₀ := Mine.pre.heap_1_33) (H₁ := Mine.pre.heap_1_403) opens Mine.pre._proof_1_521 Mine.pre._proof_1_406 (by decide +kernel) (fun w => funext fun os => Mine.pre._proof_1_552 w os)
  refine holds_open left (Hook.of _) (Hook.keeps _) (fun s e => xl_of s (Bool.and_eq_true_iff.mp e).1) XL.keeps (by rfl) (by rfl) (by rfl) (fun s e => recFacts_of (Bool.and_eq_true_iff.mp e).2) (by rfl) (by first | assumption | decide +kernel) (by decide +kernel) ⟨rfl, rfl, rfl, rfl, rfl, by decide +kernel⟩ ?hw ?hc
  (case hw => w_witness2)
  clear opens left said
  refine same_goal ?_
  k_go0
  (all_goals try k_fold)
  k_steps
  (all_goals (try k_data))
  all_goals first
  | exact cn_end rfl (by assumption)
  | exact ⟨_, _, _, _, _, _, rfl, rfl, by assumption, by assumption⟩

end Mine
theorem PySem.Challenge.cw_rt0094_01_holds : PySem.Challenge.rw_rt0094_01.Holds := by
  exact Mine.holds
