import PyProof.Rows.All
import Wide.All
import OpenK.AllK
import Wide.FinOn
import Lean
import PySem.Challenge.RW_in0083_01
set_option Elab.async false
set_option linter.all false
set_option genInjectivity false
set_option genSizeOfSpec false
set_option compiler.extract_closed false
set_option maxRecDepth 100000
set_option maxHeartbeats 8000000
namespace Mine
section
open PySem PySem.W PyProof.Rows
name_quick tw8075568018651887793 for S.findZ by S.findZ_eq
name_quick tw7397068168572129948 for S.findZ by S.findZ_eq
name_quick tw6733733256287894996 for S.findZ by S.findZ_eq
name_quick tw901195817213932543 for S.findZ by S.findZ_eq
name_quick tw14979626087600564940 for S.findZ by S.findZ_eq
name_quick tw7398270241245271220 for S.findZ by S.findZ_eq
name_quick tw17094633900937708471 for S.findZ by S.findZ_eq
name_quick tw8238876669374634799 for S.findZ by S.findZ_eq
name_quick tw14725528821904125628 for S.findZ by S.findZ_eq
name_quick tw11682034243073823630 for S.findZ by S.findZ_eq
name_quick tw9967110833062545112 for S.findZ by S.findZ_eq
name_quick tw4016919884179927283 for S.findZ by S.findZ_eq
name_quick tw851788092915810840 for S.findZ by S.findZ_eq
name_quick tw14891183629231038608 for S.findZ by S.findZ_eq
name_quick tw17517737089405305841 for S.findZ by S.findZ_eq
name_quick tw9979284746773624096 for S.findZ by S.findZ_eq
name_quick tw2627984346626558326 for S.findZ by S.findZ_eq
name_quick tw1377046205977697930 for S.findZ by S.findZ_eq
name_quick tw17648843745064261011 for S.findZ by S.findZ_eq
name_quick tw8042821146705691829 for S.findZ by S.findZ_eq
name_quick tw7401281599722004195 for S.findZ by S.findZ_eq
name_quick tw7581352650102555174 for S.findZ by S.findZ_eq
name_quick tw912392155897948271 for S.findZ by S.findZ_eq
name_quick tw9225554623484653252 for S.findZ by S.findZ_eq
name_quick tw16804044748790271530 for S.findZ by S.findZ_eq
name_quick tw13559156169165276386 for S.findZ by S.findZ_eq
name_quick tw947438040082793914 for S.findZ by S.findZ_eq
name_quick tw12575752337218549985 for S.findZ by S.findZ_eq
name_quick tw16317912014791525384 for S.findZ by S.findZ_eq
name_quick tw15172853278717766862 for S.findZ by S.findZ_eq
name_quick tw15403472608951419477 for S.findZ by S.findZ_eq
name_quick tw1649557021532216605 for S.findZ by S.findZ_eq
name_quick tw8303831635834835207 for S.findZ by S.findZ_eq
name_quick tw7250012664060256230 for S.findZ by S.findZ_eq
name_quick tw6019396324639902685 for S.findZ by S.findZ_eq
name_quick tw13141144453892091621 for S.findZ by S.findZ_eq
name_quick tw11130039905162102590 for S.findZ by S.findZ_eq
name_quick tw6550987210724342151 for S.findZ by S.findZ_eq
name_quick tw9529234661008812162 for S.findZ by S.findZ_eq
name_quick tw4658958612460137192 for S.findZ by S.findZ_eq
name_quick tw4748654258956052638 for S.findZ by S.findZ_eq
name_quick tw14386061602966655976 for S.findZ by S.findZ_eq
name_quick tw10323183001455561277 for S.findZ by S.findZ_eq
name_quick tw11543547407058413889 for S.findZ by S.findZ_eq
name_quick tw136631920214876835 for S.findZ by S.findZ_eq
name_quick tw4444965560193506482 for S.findZ by S.findZ_eq
name_quick tw117213463901210413 for S.findZ by S.findZ_eq
name_quick tw15894407043143930727 for S.findZ by S.findZ_eq
name_quick tw11306939235166856333 for S.findZ by S.findZ_eq
name_quick tw11939915149646268982 for S.findZ by S.findZ_eq
name_quick tw6434265647005701932 for S.findZ by S.findZ_eq
name_quick tw3093977132361051618 for S.findZ by S.findZ_eq
name_quick tw14376985748213822385 for S.findZ by S.findZ_eq
name_quick tw18101931140130867144 for S.findZ by S.findZ_eq
name_quick tw15475462885187679331 for S.findZ by S.findZ_eq
name_quick tw4636218855388986860 for S.findZ by S.findZ_eq
name_quick tw9931943479562821362 for S.findZ by S.findZ_eq
name_quick tw13317431791736044220 for S.findZ by S.findZ_eq
name_quick tw7198390536060210744 for S.findZ by S.findZ_eq
name_quick tw4797165386629745026 for S.findZ by S.findZ_eq
name_quick tw11161088081135249708 for S.findZ by S.findZ_eq
name_quick tw11462045893675790159 for S.findZ by S.findZ_eq
name_quick tw5591276700874282246 for S.findZ by S.findZ_eq
name_quick tw3698559305507148144 for S.findZ by S.findZ_eq
name_quick tw11202209253345464007 for S.findZ by S.findZ_eq
name_quick tw282004115355043989 for S.findZ by S.findZ_eq
name_quick tw183835017167291270 for S.findZ by S.findZ_eq
name_quick tw11625766737575182897 for S.findZ by S.findZ_eq
name_quick tw4075660801711882420 for S.findZ by S.findZ_eq
name_quick tw18340240734955500558 for S.findZ by S.findZ_eq
name_quick tw2460228577881660442 for S.findZ by S.findZ_eq
name_quick tw8719427161674164953 for S.findZ by S.findZ_eq
name_quick tw3282434896037501709 for S.findZ by S.findZ_eq
name_quick tw4011157648589011858 for S.findZ by S.findZ_eq
name_quick tw15323854079317868165 for S.findZ by S.findZ_eq
name_quick tw16817318245366136608 for S.findZ by S.findZ_eq
name_quick tw347637069881736656 for S.findZ by S.findZ_eq
name_quick tw16984617044495170189 for S.findZ by S.findZ_eq
name_quick tw724751600484774222 for S.findZ by S.findZ_eq
name_quick tw13640514254501968386 for S.findZ by S.findZ_eq
name_quick tw6147512888328947467 for S.findZ by S.findZ_eq
name_quick tw9539479885485572040 for S.findZ by S.findZ_eq
name_quick tw4527066259768149269 for S.findZ by S.findZ_eq
name_quick tw7745614565497352828 for S.findZ by S.findZ_eq
name_quick tw13900631225919944168 for S.findZ by S.findZ_eq
name_quick tw5368380235373115269 for S.findZ by S.findZ_eq
name_quick tw17164873540382356111 for S.findZ by S.findZ_eq
name_quick tw15823609455315575823 for S.findZ by S.findZ_eq
name_quick tw11853533878840232495 for S.findZ by S.findZ_eq
name_quick tw10314498396905981064 for S.findZ by S.findZ_eq
name_quick tw13912434898499826684 for S.findZ by S.findZ_eq
name_quick tw15278061642289888581 for S.findZ by S.findZ_eq
name_quick tw460243522976405022 for S.findZ by S.findZ_eq
name_quick tw10942035263794033107 for S.findZ by S.findZ_eq
name_quick tw17497748084772794779 for S.findZ by S.findZ_eq
name_quick tw9011979029575296479 for S.findZ by S.findZ_eq
name_quick tw15348362524478657138 for S.findZ by S.findZ_eq
name_quick tw17846936440860909165 for S.findZ by S.findZ_eq
name_quick tw1355338860687761863 for S.findZ by S.findZ_eq
name_quick tw2354135333415324597 for S.findZ by S.findZ_eq
name_quick tw11013792430000457035 for S.findZ by S.findZ_eq
name_quick tw8603108125212654177 for S.findZ by S.findZ_eq
name_quick tw9951705424602377420 for S.findZ by S.findZ_eq
name_quick tw878741703135273975 for S.findZ by S.findZ_eq
name_quick tw12299743096253456131 for S.findZ by S.findZ_eq
name_quick tw5076957145309523181 for S.findZ by S.findZ_eq
name_quick tw13776390136698705113 for S.findZ by S.findZ_eq
name_quick tw11445135464325071761 for S.findZ by S.findZ_eq
name_quick tw3856783459128436802 for S.findZ by S.findZ_eq
name_quick tw5701610774189311196 for S.findZ by S.findZ_eq
name_quick tw9136488742655976645 for S.findZ by S.findZ_eq
name_quick tw17000458434675057986 for S.findZ by S.findZ_eq
name_quick tw6380047634161181297 for S.findZ by S.findZ_eq
name_quick tw3972328310683599613 for S.findZ by S.findZ_eq
name_quick tw8663951642670702713 for S.findZ by S.findZ_eq
name_quick tw10073347824450446311 for S.findZ by S.findZ_eq
name_quick tw13642483538084851733 for S.findZ by S.findZ_eq
name_quick tw12825359941727978080 for S.findZ by S.findZ_eq
name_quick tw12371321757623732685 for S.findZ by S.findZ_eq
name_quick tw16643379632663270332 for S.findZ by S.findZ_eq
name_quick tw8860024209350480642 for S.findZ by S.findZ_eq
name_quick tw3766158894648301139 for S.findZ by S.findZ_eq
name_quick tw10644746117286937887 for S.findZ by S.findZ_eq
name_quick tw6122645084068987007 for S.findZ by S.findZ_eq
name_quick tw1184552218554016812 for S.findZ by S.findZ_eq
name_quick tw5396446701170858492 for S.findZ by S.findZ_eq
name_quick tw10706342367453228570 for S.findZ by S.findZ_eq
name_quick tw3362959441861295915 for S.findZ by S.findZ_eq
name_quick tw11985326045990495214 for S.findZ by S.findZ_eq
name_quick tw2334299552400917057 for S.findZ by S.findZ_eq
name_quick tw17532440430192770315 for S.findZ by S.findZ_eq
name_quick tw682011567655089306 for S.findZ by S.findZ_eq
name_quick tw6363645014702824404 for S.findZ by S.findZ_eq
name_quick tw1735497430108182060 for S.findZ by S.findZ_eq
name_quick tw5721027456603625697 for S.findZ by S.findZ_eq
name_quick tw2719445374943340272 for S.findZ by S.findZ_eq
name_quick tw16049961110935095269 for S.findZ by S.findZ_eq
name_quick tw5200128776193632040 for S.findZ by S.findZ_eq
name_quick tw9763268239775435451 for S.findZ by S.findZ_eq
name_quick tw13618601795979515405 for S.findZ by S.findZ_eq
name_quick tw387338674003428930 for S.findZ by S.findZ_eq
name_quick tw14896874001708588922 for S.findZ by S.findZ_eq
name_quick tw6735346659252874535 for S.findZ by S.findZ_eq
name_quick tw4978915544186085027 for S.findZ by S.findZ_eq
name_quick tw721709456127091705 for S.findZ by S.findZ_eq
name_quick tw6434138532213402376 for S.findZ by S.findZ_eq
name_quick tw900395245841561262 for S.findZ by S.findZ_eq
name_quick tw7721631327575515661 for S.findZ by S.findZ_eq
name_quick tw6004533443673955352 for S.findZ by S.findZ_eq
name_quick tw1620339239838986703 for S.findZ by S.findZ_eq
name_quick tw1702518465993881591 for S.findZ by S.findZ_eq
name_quick tw7650934615059315214 for S.findZ by S.findZ_eq
name_quick tw12329403913580668285 for S.findZ by S.findZ_eq
name_quick tw14023627001141898710 for S.findZ by S.findZ_eq
name_quick tw16349216596472256690 for S.findZ by S.findZ_eq
name_quick tw11588390666370768167 for S.findZ by S.findZ_eq
name_quick tw3424931102881643321 for S.findZ by S.findZ_eq
name_quick tw14333388528381170442 for S.findZ by S.findZ_eq
name_quick tw5529568453561195837 for S.findZ by S.findZ_eq
name_quick tw12233582284571471492 for S.findZ by S.findZ_eq
name_quick tw1402947280878808549 for S.findZ by S.findZ_eq
name_quick tw1258717718454355964 for S.findZ by S.findZ_eq
name_quick tw3560238982266916124 for S.findZ by S.findZ_eq
name_quick tw15742981410569661332 for S.findZ by S.findZ_eq
name_quick tw14108194823987119177 for S.findZ by S.findZ_eq
name_quick tw11277716924127702174 for S.findZ by S.findZ_eq
name_quick tw11863081143760314161 for S.findZ by S.findZ_eq
name_quick tw17804436615005485693 for S.findZ by S.findZ_eq
name_quick tw4407734736301137906 for S.findZ by S.findZ_eq
name_quick tw1574873078441994576 for S.findZ by S.findZ_eq
name_quick tw958810671402257542 for S.findZ by S.findZ_eq
name_quick tw2039238271031011813 for S.findZ by S.findZ_eq
name_quick tw3636048126100218174 for S.findZ by S.findZ_eq
name_quick tw11452132507678324671 for S.findZ by S.findZ_eq
name_quick tw18056578402003937789 for S.findZ by S.findZ_eq
name_quick tw11420187438672877268 for S.findZ by S.findZ_eq
name_quick tw15450981722951097364 for S.findZ by S.findZ_eq
name_quick tw14311459727803291754 for S.findZ by S.findZ_eq
name_quick tw10887116778572429059 for S.findZ by S.findZ_eq
name_quick tw10948738476641704880 for S.findZ by S.findZ_eq
name_quick tw16439824349840649037 for S.findZ by S.findZ_eq
name_quick tw16296994325663420285 for S.findZ by S.findZ_eq
name_quick tw17552769576498331613 for S.findZ by S.findZ_eq
name_quick tw14326252917377295143 for S.findZ by S.findZ_eq
name_quick tw15480198773659482676 for S.findZ by S.findZ_eq
name_quick tw9948023125614773506 for S.findZ by S.findZ_eq
name_quick tw8703263022893421829 for S.findZ by S.findZ_eq
name_quick tw13002492023102617099 for S.findZ by S.findZ_eq
name_quick tw8224813933742928703 for S.findZ by S.findZ_eq
name_quick tw342737451032717037 for S.findZ by S.findZ_eq
name_quick tw9908251947323293946 for S.findZ by S.findZ_eq
name_quick tw11682084944484805031 for S.findZ by S.findZ_eq
name_quick tw15066959818950650227 for S.findZ by S.findZ_eq
name_quick tw14112274594779413971 for S.findZ by S.findZ_eq
name_quick tw951843321253372498 for S.findZ by S.findZ_eq
name_quick tw10010936943081839664 for S.findZ by S.findZ_eq
name_quick tw10424941004445345732 for S.findZ by S.findZ_eq
name_quick tw7496433998918960881 for S.findZ by S.findZ_eq
name_quick tw10919533547850550483 for S.findZ by S.findZ_eq
name_quick tw12177639751122801600 for S.findZ by S.findZ_eq
name_quick tw5518745428033880147 for S.findZ by S.findZ_eq
name_quick tw13759679279233594173 for S.findZ by S.findZ_eq
name_quick tw13145125596335152023 for S.findZ by S.findZ_eq
name_quick tw9315938663221665524 for S.findZ by S.findZ_eq
name_quick tw6059929106960060952 for S.findZ by S.findZ_eq
name_quick tw2660918139993853925 for S.findZ by S.findZ_eq
name_quick tw15766043655864335149 for S.findZ by S.findZ_eq
name_quick tw11964429278604863157 for S.findZ by S.findZ_eq
name_quick tw12635297910168745909 for S.findZ by S.findZ_eq
name_quick tw5135500740108067664 for S.findZ by S.findZ_eq
name_quick tw2905824091091238844 for S.findZ by S.findZ_eq
name_quick tw9501820088010722379 for S.findZ by S.findZ_eq
name_quick tw17730428716208468724 for S.findZ by S.findZ_eq
name_quick tw12237943961548833269 for S.findZ by S.findZ_eq
name_quick tw3764465048917985505 for S.findZ by S.findZ_eq
name_quick tw12659028871203227004 for S.findZ by S.findZ_eq
name_quick tw3131671291697673992 for S.findZ by S.findZ_eq
name_quick tw7275051467321613617 for S.findZ by S.findZ_eq
name_quick tw17975652961387846372 for S.findZ by S.findZ_eq
name_quick tw1092655722715705105 for S.findZ by S.findZ_eq
name_quick tw17434858337260393937 for S.findZ by S.findZ_eq
name_quick tw18345786424863182364 for S.findZ by S.findZ_eq
name_quick tw16374537267813192141 for S.findZ by S.findZ_eq
name_quick tw2447775223705975068 for S.findZ by S.findZ_eq
name_quick tw17279654841073493023 for S.findZ by S.findZ_eq
name_quick tw12734952128020822468 for S.findZ by S.findZ_eq
name_quick tw14884601019740666482 for S.findZ by S.findZ_eq
name_quick tw15919542637913265678 for S.findZ by S.findZ_eq
name_quick tw3632125250117507227 for S.findZ by S.findZ_eq
name_quick tw11333186260410459676 for S.findZ by S.findZ_eq
name_quick tw5111356299099525756 for S.findZ by S.findZ_eq
name_quick tw6448080314894763839 for S.findZ by S.findZ_eq
name_quick tw13254397897704925713 for S.findZ by S.findZ_eq
name_quick tw15423634916342008072 for S.findZ by S.findZ_eq
name_quick tw17100903815162463580 for S.findZ by S.findZ_eq
name_quick tw6654550962395885724 for S.findZ by S.findZ_eq
name_quick tw3152983702415266003 for S.findZ by S.findZ_eq
name_quick tw5732905514179830355 for S.findZ by S.findZ_eq
name_quick tw13180171748994924942 for S.findZ by S.findZ_eq
name_quick tw3577408171920636059 for S.findZ by S.findZ_eq
name_quick tw12268644228514654432 for S.findZ by S.findZ_eq
name_quick tw5770868932273138760 for S.findZ by S.findZ_eq
name_quick tw6711915476519705758 for S.findZ by S.findZ_eq
name_quick tw11529799822564653932 for S.findZ by S.findZ_eq
name_quick tw704327219915372674 for S.findZ by S.findZ_eq
name_quick tw14433975572909055671 for S.findZ by S.findZ_eq
name_quick tw17730448691065144110 for S.findZ by S.findZ_eq
name_quick tw4302124980754421698 for S.findZ by S.findZ_eq
name_quick tw17888162413812561239 for S.findZ by S.findZ_eq
name_quick tw392140993173905013 for S.findZ by S.findZ_eq
name_quick tw18211773271919218964 for S.findZ by S.findZ_eq
name_quick tw16947794391021106201 for S.findZ by S.findZ_eq
name_quick tw18260038339965228139 for S.findZ by S.findZ_eq
name_quick tw1962928258387122110 for S.findZ by S.findZ_eq
name_quick tw12393455550290869266 for S.findZ by S.findZ_eq
open_top hd for PySem.Challenge.rw_in0083_01
end
section
open PySem PySem.W PySem.Calls PyProof.Rows
section
variable {prog : Program} {w : World} {A : Around} {E : Value → Shared → Prop} {s : Shared} {env : Env} {h₀ : Heap} {x : Str} {body : List Stmt} {Q : Flow → Shared → Prop}
end
noncomputable def Stop (P : Prop) : Prop := P
theorem Stop.out {P : Prop} (h : Stop P) : P := h
theorem strValues_push (l : List (Str × Tok)) (a : Str) (t : Tok) : (strValues l).toArray.push (.str a t) = (strValues (l ++ [(a, t)])).toArray := by simp [strValues]
theorem len_of_map {l : List (Str × Tok)} {ss : List Str} (e : l.map (·.1) = ss) : ss.length = l.length := by
  subst e; simp
theorem strs_at {l : List (Str × Tok)} {i : Nat} {v : Value} (hv : (strValues l)[i]? = some v) : ∃ q, l[i]? = some q ∧ v = .str q.1 q.2 := by
  rw [strValues, List.getElem?_map] at hv
  cases e : l[i]? with
  | none => rw [e] at hv; cases hv
  | some q => rw [e] at hv; exact ⟨q, rfl, (Option.some.inj hv).symm⟩
theorem map_at {l : List (Str × Tok)} {ss : List Str} {i : Nat} {q : Str × Tok} (e : l.map (·.1) = ss) (h : l[i]? = some q) : ss[i]? = some q.1 := by
  subst e; rw [List.getElem?_map, h]; rfl
structure Light (ys : List Str) : Prop where
  le : (ys.map (·.length)).sum + ys.length ≤ 1048576
theorem sum_le {ys : List Str} {k : Nat} (h : ∀ a ∈ ys, a.length ≤ k) : (ys.map (·.length)).sum ≤ ys.length * k := by
  induction ys with
  | nil => simp
  | cons a r ih =>
    have h1 := h a (.head _)
    have h2 := ih fun b hb => h b (.tail _ hb)
    simp only [List.map_cons, List.sum_cons, List.length_cons, Nat.add_mul, Nat.one_mul]
    lia
theorem Light.of {ys : List Str} (h : ∀ a ∈ ys, a.length ≤ 1000) (hn : ys.length ≤ 1000) : Light ys := by
  have := sum_le h
  have h2 : ys.length * 1000 ≤ 1000 * 1000 := Nat.mul_le_mul_right _ hn
  exact ⟨by lia⟩
theorem strsAre_vals : ∀ l : List (Str × Tok), StrsAre (strValues l) (l.map (·.1)) := strsAre_of_values
theorem join_strs {prog : Program} {w : World} {A : Around} {E : Value → Shared → Prop} {s : Shared} {D : Addr} {x : Str} {t : Tok} {l : List (Str × Tok)} {Q : Value → Shared → Prop} (hl : s.heap.IsList D (strValues l).toArray) (hW : Light (l.map (·.1))) (hsep : x.length ≤ 16)
    (h : ∀ t' k, Q (.str (Txt.join x (l.map (·.1))) t') { s with toks := k }) : wpAny (model prog w) A (call (.builtin "str.join") [.str x t, .ref D]) Q E s :=
  join_listW hl (by simpa using strsAre_vals l) hsep hW.le h
theorem app_length (a b : Str) : (a ++ b).length = a.length + b.length := by
  show (a.cps ++ b.cps).size = _
  rw [Array.size_append]; rfl
theorem join_eq (sep : Str) (l : List Str) : Txt.join sep l = Str.join sep l := eq_of_beq (join_plain_closes sep l)
theorem join_len {sep : Str} {l : List Str} {k n : Nat} (hs : sep.length = 1) (hk : ∀ a ∈ l, a.length ≤ k) (hn : l.length ≤ n) : (Txt.join sep l).length ≤ n * k + n := by
  rw [join_eq]
  have h1 := StrLaws.join_length_le sep l
  have h2 := sum_le hk
  have h3 : l.length * k ≤ n * k := Nat.mul_le_mul_right _ hn
  rw [hs] at h1
  lia
theorem Light.of2 {ys : List Str} {k n : Nat} (h : ∀ a ∈ ys, a.length ≤ k) (hn : ys.length ≤ n) (hb : n * k + n ≤ 1048576) : Light ys := by
  have h2 := sum_le h
  have h3 : ys.length * k ≤ n * k := Nat.mul_le_mul_right _ hn
  exact ⟨by lia⟩
theorem slash_len : (Str.ofString "/").length = 1 := by decide +kernel
theorem dot_len : (Str.ofString ".").length = 1 := by decide +kernel
theorem empty_of_len {a : Str} (h : (a.length : Int) = 0) : a = Str.ofString "" := by
  obtain ⟨c⟩ := a
  have h1 : c.size = 0 := by have : (c.size : Int) = 0 := h; lia
  have h2 : c = #[] := Array.eq_empty_of_size_eq_zero h1
  subst h2
  rfl
theorem ne_empty_of_len {a : Str} (h : (a.length : Int) ≠ 0) : (a == Str.ofString "") = false := by
  rw [beq_eq_false_iff_ne]
  intro e
  subst e
  exact h rfl
section
variable {prog : Program} {w : World} {A : Around} {E : Value → Shared → Prop} {s : Shared} {env : Env} {h₀ : Heap} {x : Str} {body : List Stmt} {Q : Flow → Shared → Prop}
end
end
section
open PySem PySem.W PySem.Calls PyProof.Rows
noncomputable def Con (n : Nat) (f : Addr) (vs : List Value) (P : Heap → Prop) (R : Heap → Value → Heap → Prop) : Prop :=
  ∀ (w : World) (p : Program) (loose : List Str) (mean : ExcName → Option Value) (mg mb : Str → Option Value) (A : Around) (h₀ : Heap) (s : Shared) (Q E : Value → Shared → Prop),
    (Mine.hd.heap_39 w.params).In h₀ → Top p loose mean mg mb h₀ → s.heap = h₀ → A.depth + n < recursionLimit → A.units + n * 100 < cLine → A.handled = none → P h₀ →
    (∀ v h' tk', h₀.StaysIn h' → R h₀ v h' → Q v { s with heap := h', toks := tk' }) →
    wpAny (model PySem.Challenge.pw_in0083_01 w) A (call (.ref f) vs) Q E s
section
variable {prog : Program} {w : World} {A : Around} {E : Value → Shared → Prop} {s : Shared} {K : Frag} {C L : Addr} {h₀ : Heap} {m mg mb : Str → Option Value} {news : List (Addr × Obj)} {p : Program} {loose : List Str} {mean : ExcName → Option Value} {Q : Value → Shared → Prop}
theorem enter {name qual : Str} {params : Arguments} {body : List Stmt} {scope : Scope} {dV kV doc pm cdv ct oc : Value} {an od : Option Addr} {osl : Array (Option Value)} {f : Addr} {pos : List Value} {kw : List (Str × Value)} {binds : List (Str × Value)}
    (X : K.In h₀) (T : Top p loose mean mg mb h₀) (hs : s.heap = h₀)
    (ho : K.lookup f = some ⟨oc, od, .func (fnOf name qual params body scope dV kV doc pm an cdv ct), osl⟩) (hcd : codeIn K cdv qual = true) (hroom : A.depth < recursionLimit)
    (hbind : BindsTo s (fnOf name qual params body scope dV kV doc pm an cdv ct) ⟨pos, kw⟩ binds) (hloc : ∀ y ∈ binds, scope.names.lookup y.1 = some .local)
    (h : ∀ h₁ tk₁, Fr h₀ h₀.objs.size h₁ (fun y => binds.reverse.lookup y) → News h₀ h₀.objs.size h₁ [] →
      wpAny (model prog w) (A.deeper (envOf qual scope h₀.objs.size f cdv)) (execs body (envOf qual scope h₀.objs.size f cdv))
        (fun fl s' => Q (match fl with | .ret v => v | _ => .none) s')
        (fun e s' => wpAny (model prog w) (A.deeper (envOf qual scope h₀.objs.size f cdv)) (leaving (envOf qual scope h₀.objs.size f cdv) e) (fun _ s'' => E e s'') (fun e' s'' => E e' s'') s')
        { s with heap := h₁, toks := tk₁ })
    (hco : scope.isCoroutine = false) (hgen : scope.isGenerator = false) (hk : scope.kind = .function)
    (hcell : ∀ x ∈ scope.names, x.2 ≠ .cell) : wpAny (model prog w) A (call (.ref f) pos kw) Q E s := by
  subst hs
  refine wpAny_call ?_
  refine codeAny_call_def (fd := fnOf name qual params body scope dV kV doc pm an cdv ct) (body := body) (binds := binds) hroom (X _ _ ho) rfl T.nolimit (codeRec_of X hcd) rfl hbind hcell hloc (fun h₁ hns hk₁ => ?_) hco hgen hk
  exact h h₁ _ ⟨hns, hk₁, Nat.le_refl _⟩ News.nil
theorem Con.use {n : Nat} {f : Addr} {vs : List Value} {P : Heap → Prop} {R : Heap → Value → Heap → Prop} {w : World} (C : Con n f vs P R) (F : Fr h₀ L s.heap m) (X : (Mine.hd.heap_39 w.params).In h₀) (N : News h₀ L s.heap news) (T : Top p loose mean mg mb h₀)
    (hd : A.depth + n < recursionLimit) (hu : A.units + n * 100 < cLine) (hA : A.handled = none) (hP : P s.heap)
    (ret : ∀ v h' tk', Fr h₀ L h' m → News h₀ L h' news → s.heap.StaysIn h' → R s.heap v h' → Q v { s with heap := h', toks := tk' }) :
    wpAny (model PySem.Challenge.pw_in0083_01 w) A (call (.ref f) vs) Q E s :=
  C w p loose mean mg mb A s.heap s Q E (X.keeps F.keep) (T.keeps F.keep) rfl hd hu hA hP fun v h' tk' k r =>
    ret v h' tk' ⟨F.ns.keeps k, fun b o e => k b o (F.keep b o e), F.above⟩ (fun q hq => ⟨k _ _ (N q hq).1, (N q hq).2⟩) k r
end
noncomputable def RList (ss : List Str) (h : Heap) (v : Value) (h' : Heap) : Prop :=
  ∃ D n ys, v = .ref D ∧ h.get? D = none ∧ h'.get? D = some { cls := .type "list", data := .seq (strValues ys).toArray n } ∧ ys.map (·.1) = ss
theorem off_top : True := by
  w_top off
  trivial
theorem fill_it : (Mine.hd.heap_39 = Mine.hd.heap_39) ∧ (PySem.Challenge.rw_in0083_01 = PySem.Challenge.rw_in0083_01) := by
  k_fill
  exact ⟨rfl, rfl⟩
end
section
open PySem PySem.W PySem.Calls PyProof.Rows
inductive PV where
  | unset | str (x : Str) | int (i : Int) | bool (b : Bool) | none | ref (a : Addr) | val (v : Value)
noncomputable def PV.rep : PV → Value → Prop
  | .unset, _ => False
  | .str x, v => ∃ t, v = .str x t
  | .int i, v => ∃ t, v = .int i t
  | .bool b, v => v = .bool b
  | .none, v => v = .none
  | .ref a, v => v = .ref a
  | .val u, v => v = u
noncomputable def reps : List PV → List Value → Prop
  | [], [] => True
  | p :: ps, v :: vs => p.rep v ∧ reps ps vs
  | _, _ => False
inductive AO where
  | strs (l : List Str) | list (l : List PV) | obj (o : Obj) | pred (P : Obj → Prop)
noncomputable def AO.rep : AO → Obj → Prop
  | .strs l, o => ∃ ys n, o = PySem.W.listOf (strValues ys).toArray n ∧ ys.map (·.1) = l
  | .list l, o => ∃ vs n, o = PySem.W.listOf vs.toArray n ∧ reps l vs
  | .obj o', o => o = o'
  | .pred P, o => P o
noncomputable abbrev Led := List (Addr × AO)
noncomputable def lrep : Led → List (Addr × Obj) → Prop
  | [], [] => True
  | a :: W, b :: N => (a.1 = b.1 ∧ a.2.rep b.2) ∧ lrep W N
  | _, _ => False
noncomputable def frep : List Str → List PV → (Str → Option Value) → Prop
  | [], [], _ => True
  | k :: ks, p :: ps, m => (match p with | .unset => m k = Option.none | p => ∃ v, m k = some v ∧ p.rep v) ∧ frep ks ps m
  | _, _, _ => False
structure FI where
  qual : Str
  scope : Scope
  f : Addr
  cd : Value
  locals : List Str
  en : Addr → Env := fun L => envOf qual scope L f cd
  kf : scope.kind = .function := by rfl
  lk : locals.all (fun x => scope.names.lookup x == some .local && !(x == Str.ofString "__debug__")) = true := by decide +kernel
  nd : locals.Nodup := by decide +kernel
  hsc : ∀ L, (en L).scope = scope := by intro _; rfl
  hgl : ∀ L, (en L).globals = mainGlobals := by intro _; rfl
  hbu : ∀ L, (en L).builtins = builtinsNs := by intro _; rfl
structure Cx (F : FI) (N : Nat) where
  w : World
  p : Program
  loose : List Str
  mean : ExcName → Option Value
  mg : Str → Option Value
  mb : Str → Option Value
  A : Around
  h₀ : Heap
  L : Addr
  s : Shared
  X : (Mine.hd.heap_39 w.params).In h₀
  T : Top p loose mean mg mb h₀
  hh : A.handled = Option.none
  hd : A.depth + N < recursionLimit
  hu : A.units + N * 100 < cLine
section
variable {F : FI} {N : Nat}
noncomputable def Cx.env (c : Cx F N) : Env := F.en c.L
noncomputable abbrev Cx.M (c : Cx F N) : Model := model PySem.Challenge.pw_in0083_01 c.w
noncomputable abbrev Cx.st (c : Cx F N) (h : Heap) (tk : Nat) : Shared := { c.s with heap := h, toks := tk }
inductive In (c : Cx F N) (ps : List PV) (W : Led) (h : Heap) : Prop
  | mk (m : Str → Option Value) (news : List (Addr × Obj)) (hF : Fr c.h₀ c.env.locals h m) (hN : News c.h₀ c.env.locals h news) (hf : frep F.locals ps m) (hl : lrep W news) (nd : (W.map (·.1)).Nodup) : In c ps W h
inductive At : List Str → List PV → Str → PV → Prop
  | here {x p ks ps} : At (x :: ks) (p :: ps) x p
  | there {k q ks ps x p} : At ks ps x p → At (k :: ks) (q :: ps) x p
inductive SetAt : List Str → List PV → Str → PV → List PV → Prop
  | here {x q p ks ps} : SetAt (x :: ks) (q :: ps) x p (p :: ps)
  | there {k q ks ps x p ps'} : SetAt ks ps x p ps' → SetAt (k :: ks) (q :: ps) x p (q :: ps')
theorem At.mem {ks : List Str} {ps : List PV} {x : Str} {p : PV} (h : At ks ps x p) : x ∈ ks := by
  induction h with
  | here => exact .head _
  | there _ ih => exact .tail _ ih
theorem SetAt.mem {ks : List Str} {ps ps' : List PV} {x : Str} {p : PV} (h : SetAt ks ps x p ps') : x ∈ ks := by
  induction h with
  | here => exact .head _
  | there _ ih => exact .tail _ ih
theorem frep_at {ks : List Str} {ps : List PV} {x : Str} {p : PV} {m : Str → Option Value} (h : At ks ps x p) (f : frep ks ps m) (hp : p ≠ .unset) : ∃ v, m x = some v ∧ p.rep v := by
  induction h with
  | here =>
    have := f.1
    revert this
    split
    · exact absurd rfl hp
    · exact id
  | there _ ih => exact ih f.2 hp
theorem frep_ext {m m' : Str → Option Value} : ∀ {ks : List Str} {ps : List PV}, (∀ k ∈ ks, m' k = m k) → frep ks ps m → frep ks ps m'
  | [], [], _, _ => trivial
  | [], _ :: _, _, f => f.elim
  | _ :: _, [], _, f => f.elim
  | k :: ks, p :: ps, e, f => by
    refine ⟨?_, frep_ext (fun k' hk => e k' (.tail _ hk)) f.2⟩
    have h1 := f.1
    revert h1
    rw [e k (.head _)]
    exact id
theorem frep_set {ks : List Str} {ps ps' : List PV} {x : Str} {p : PV} {m : Str → Option Value} {v : Value} (h : SetAt ks ps x p ps') (nd : ks.Nodup) (f : frep ks ps m) (hv : p.rep v) : frep ks ps' (fun y => if y = x then some v else m y) := by
  induction h with
  | here =>
    have hn := List.nodup_cons.mp nd
    refine ⟨?_, frep_ext (fun k hk => if_neg (fun e => hn.1 (by rw [← e]; exact hk))) f.2⟩
    split
    · exact hv.elim
    · exact ⟨v, if_pos rfl, hv⟩
  | @there k q ks ps x p ps' hs ih =>
    have hn := List.nodup_cons.mp nd
    refine ⟨?_, ih hn.2 f.2 hv⟩
    have h1 := f.1
    have hne : ¬ k = x := fun e => hn.1 (by rw [e]; exact hs.mem)
    have e1 : (fun y => if y = x then some v else m y) k = m k := if_neg hne
    revert h1
    rw [e1]
    exact id
theorem FI.kind {x : Str} (h : x ∈ F.locals) : F.scope.names.lookup x = some .local ∧ (x == Str.ofString "__debug__") = false := by
  have := List.all_eq_true.mp F.lk x h
  rw [Bool.and_eq_true] at this
  exact ⟨eq_of_beq this.1, by simpa using this.2⟩
theorem Cx.kk (c : Cx F N) : c.env.scope.kind = .function := by rw [Cx.env, F.hsc]; exact F.kf
theorem Cx.ko (c : Cx F N) {x : Str} {k : Option NameKind} (h : F.scope.names.lookup x = k) : c.env.kindOf x = k := by rw [Env.kindOf, Cx.env, F.hsc]; exact h
theorem Cx.kl (c : Cx F N) {x : Str} (h : x ∈ F.locals) : c.env.kindOf x = some .local := c.ko (F.kind h).1
theorem Cx.nocls (c : Cx F N) : (c.env.scope.kind == .class || (c.env.scope.kind == .module && c.env.locals != c.env.globals)) = false := by rw [c.kk]; rfl
section
variable {c : Cx F N} {m : Str → Option Value} {h : Heap} {tk : Nat} {x : Str} {v : Value} {Q E : Value → Shared → Prop}
theorem Cx.nm (hF : Fr c.h₀ c.env.locals h m) {pos : Pos} (hv : m x = some v) (h1 : Q v (c.st h tk)) (hx : x ∈ F.locals) : wpAny c.M c.A (eval (.Name x pos) c.env) Q E (c.st h tk) :=
  wpAny_Name (wpAny_loadName_local c.kk (c.kl hx) hF.ns hv h1) (F.kind hx).2
theorem Cx.nmK (hF : Fr c.h₀ c.env.locals h m) {pos : Pos} (e : nsIn (Mine.hd.heap_39 c.w.params) mainGlobals x = some (some v)) (h1 : Q v (c.st h tk)) (hk : F.scope.names.lookup x = some .globalImplicit) (hd : (x == ("__debug__" : Str)) = false) : wpAny c.M c.A (eval (.Name x pos) c.env) Q E (c.st h tk) :=
  Name_function_global c.kk (c.ko hk) (loadGlobal_global (by rw [Cx.env, F.hgl]; exact (topRead_of c.T).g.keeps hF.keep) (mg_of c.X (topRead_of c.T).g e) h1) hd
theorem Cx.nmB (hF : Fr c.h₀ c.env.locals h m) {pos : Pos} (e : nsIn (Mine.hd.heap_39 c.w.params) mainGlobals x = some none) (hv : bootBuiltins x = some v) (hn : x ≠ "__name__") (h1 : Q v (c.st h tk)) (hk : F.scope.names.lookup x = some .globalImplicit) (hd : (x == ("__debug__" : Str)) = false) : wpAny c.M c.A (eval (.Name x pos) c.env) Q E (c.st h tk) :=
  Name_function_global c.kk (c.ko hk) (loadGlobal_builtin (by rw [Cx.env, F.hgl]; exact (topRead_of c.T).g.keeps hF.keep) (mg_none_of c.X (topRead_of c.T).g e) (by rw [Cx.env, F.hbu]; exact (topRead_of c.T).b.keeps hF.keep) (((topRead_of c.T).builtins x hn).trans hv) h1) hd
end
noncomputable def Ep (c : Cx F N) (ps : List PV) (W : Led) (e : PySem.Expr) (p : PV) : Prop :=
  ∀ (h : Heap) (tk : Nat) (Q E : Value → Shared → Prop), In c ps W h → (∀ v h' tk', p.rep v → In c ps W h' → Q v (c.st h' tk')) → wpAny c.M c.A (eval e c.env) Q E (c.st h tk)
noncomputable def Es (c : Cx F N) (ps : List PV) (W : Led) (es : List PySem.Expr) (qs : List PV) : Prop :=
  ∀ (pos : Pos) (h : Heap) (tk : Nat) (Q : List Value → Shared → Prop) (E : Value → Shared → Prop), In c ps W h → (∀ vs h' tk', reps qs vs → In c ps W h' → Q vs (c.st h' tk')) → wpAny c.M c.A (spliced (backTo pos (starEach es c.env))) Q E (c.st h tk)
noncomputable def Et (c : Cx F N) (ps : List PV) (W : Led) (e : PySem.Expr) (b : Bool) : Prop :=
  ∀ (whole : Sem Value) (h : Heap) (tk : Nat) (Q : Bool → Shared → Prop) (E : Value → Shared → Prop), whole = eval e c.env → In c ps W h → (∀ h' tk', In c ps W h' → Q b (c.st h' tk')) → wpAny c.M c.A (PySem.isTrue e c.env whole) Q E (c.st h tk)
noncomputable def Ea (c : Cx F N) (ps : List PV) (W : Led) (e : PySem.Expr) (x : AO) : Prop :=
  ∀ (h : Heap) (tk : Nat) (Q E : Value → Shared → Prop), In c ps W h → (∀ a h' tk', In c ps ((a, x) :: W) h' → Q (.ref a) (c.st h' tk')) → wpAny c.M c.A (eval e c.env) Q E (c.st h tk)
structure Sx (c : Cx F N) (ps : List PV) (W : Led) (body : List Stmt) (Φ : Flow → Shared → Prop) (E : Value → Shared → Prop) : Prop where
  run : ∀ (h : Heap) (tk : Nat), In c ps W h → wpAny c.M c.A (execs body c.env) Φ E (c.st h tk)
variable {c : Cx F N} {ps : List PV} {W : Led}
theorem In.weak {a : Addr × AO} {h : Heap} (i : In c ps (a :: W) h) : In c ps W h := by
  obtain ⟨m, news, hF, hN, hf, hl, nd⟩ := i
  cases news with
  | nil => exact hl.elim
  | cons n news => exact ⟨m, news, hF, fun p hp => hN p (.tail _ hp), hf, hl.2, (List.nodup_cons.mp nd).2⟩
theorem Ep.name {x : Str} {p : PV} {pos : Pos} (hx : At F.locals ps x p) (hp : p ≠ .unset := by nofun) : Ep c ps W (.Name x pos) p := by
  intro h tk Q E ⟨m, news, hF, hN, hf, hl, nd⟩ hq
  obtain ⟨v, hv, hr⟩ := frep_at hx hf hp
  exact Cx.nm hF hv (hq v h tk hr ⟨m, news, hF, hN, hf, hl, nd⟩) hx.mem
theorem Ep.str {x : Str} {k : Nat} {pos : Pos} : Ep c ps W (.Constant (.str x) k pos) (.str x) := by
  intro h tk Q E i hq
  exact Constant_str (hq _ _ _ ⟨_, rfl⟩ i)
theorem Ep.int {x : Int} {k : Nat} {pos : Pos} : Ep c ps W (.Constant (.int x) k pos) (.int x) := by
  intro h tk Q E i hq
  exact wpAny_Constant_int (hq _ _ _ ⟨_, rfl⟩ i)
theorem Ep.bool {x : Bool} {k : Nat} {pos : Pos} : Ep c ps W (.Constant (.bool x) k pos) (.bool x) := by
  intro h tk Q E i hq
  exact Constant_bool (hq _ _ _ rfl i)
theorem Es.nil : Es c ps W [] [] := fun _ _ _ _ _ i hq => args_nil (hq _ _ _ trivial i)
theorem Es.cons {e : PySem.Expr} {es : List PySem.Expr} {p : PV} {qs : List PV} (h1 : Ep c ps W e p) (h2 : Es c ps W es qs) (hs : starEach (e :: es) c.env = (false, eval e c.env) :: starEach es c.env := by rfl) : Es c ps W (e :: es) (p :: qs) :=
  fun pos h tk Q E i hq => args_cons (h1 _ _ _ _ i fun v h' tk' hr i' => h2 _ _ _ _ _ i' fun vs h'' tk'' hrs i'' => hq _ _ _ ⟨hr, hrs⟩ i'') hs
noncomputable def BinOk (op : Operator) (p q r : PV) : Prop :=
  ∀ (w : World) (A : Around) (s : Shared) (u v : Value) (Q E : Value → Shared → Prop), p.rep u → q.rep v → (∀ x k, r.rep x → Q x { s with toks := k }) → wpAny (model PySem.Challenge.pw_in0083_01 w) A (binaryOp op u v) Q E s
theorem Ep.bin {l r : PySem.Expr} {op : Operator} {pos : Pos} {p q z : PV} (h1 : Ep c ps W l p) (h2 : Ep c ps W r q) (o : BinOk op p q z) : Ep c ps W (.BinOp l op r pos) z :=
  fun _ _ _ _ i hq => wpAny_BinOp (h1 _ _ _ _ i fun _ _ _ r1 i1 => h2 _ _ _ _ i1 fun _ _ _ r2 i2 => o _ _ _ _ _ _ _ r1 r2 fun _ _ r3 => hq _ _ _ r3 i2)
noncomputable def CmpOk (op : CmpOp) (p q : PV) (b : Bool) : Prop :=
  ∀ (w : World) (A : Around) (s : Shared) (u v : Value) (Q E : Value → Shared → Prop), p.rep u → q.rep v → (∀ k, Q (.bool b) { s with toks := k }) → wpAny (model PySem.Challenge.pw_in0083_01 w) A (compareOp op u v) Q E s
theorem Ep.cmp {l r : PySem.Expr} {op : CmpOp} {pos : Pos} {p q : PV} {b : Bool} (h1 : Ep c ps W l p) (h2 : Ep c ps W r q) (o : CmpOk op p q b) (hb : behindInMarks op r = false := by rfl) : Ep c ps W (.Compare l [op] [r] pos) (.bool b) :=
  fun _ _ _ _ i hq => wpAny_Compare1 (h1 _ _ _ _ i fun _ _ _ r1 i1 => h2 _ _ _ _ i1 fun _ _ _ r2 i2 => o _ _ _ _ _ _ _ r1 r2 fun _ => hq _ _ _ rfl i2) hb
theorem Et.cmp {l r : PySem.Expr} {op : CmpOp} {pos : Pos} {p q : PV} {b : Bool} (h1 : Ep c ps W l p) (h2 : Ep c ps W r q) (o : CmpOk op p q b) (hb : behindInMarks op r = false := by rfl) : Et c ps W (.Compare l [op] [r] pos) b :=
  fun _ _ _ _ _ _ i hq => wpAny_isTrue_Compare1 (h1 _ _ _ _ i fun _ _ _ r1 i1 => h2 _ _ _ _ i1 fun _ _ _ r2 i2 => o _ _ _ _ _ _ _ r1 r2 fun _ => wpAny_truthy_bool (hq _ _ i2)) hb
theorem Et.not {e : PySem.Expr} {pos : Pos} {b : Bool} (h : Et c ps W e b) : Et c ps W (.UnaryOp .Not e pos) (!b) :=
  fun _ _ _ _ _ _ i hq => isTrue_not (h _ _ _ _ _ rfl i fun _ _ i' => hq _ _ i')
theorem Et.or_nil {pos : Pos} {whole : Sem Value} {h : Heap} {tk : Nat} {Q : Bool → Shared → Prop} {E : Value → Shared → Prop} (i : In c ps W h) (hq : ∀ h' tk', In c ps W h' → Q false (c.st h' tk')) : wpAny c.M c.A (PySem.isTrue (.BoolOp .Or [] pos) c.env whole) Q E (c.st h tk) := isTrue_or_nil (hq _ _ i)
noncomputable def Eo (c : Cx F N) (ps : List PV) (W : Led) (op : PySem.BoolOp) (es : List PySem.Expr) (b : Bool) : Prop :=
  ∀ (pos : Pos) (whole : Sem Value) (h : Heap) (tk : Nat) (Q : Bool → Shared → Prop) (E : Value → Shared → Prop), In c ps W h → (∀ h' tk', In c ps W h' → Q b (c.st h' tk')) → wpAny c.M c.A (PySem.isTrue (.BoolOp op es pos) c.env whole) Q E (c.st h tk)
theorem Eo.nilO : Eo c ps W .Or [] false := fun _ _ _ _ _ _ i hq => isTrue_or_nil (hq _ _ i)
theorem Eo.nilA : Eo c ps W .And [] true := fun _ _ _ _ _ _ i hq => isTrue_and_nil (hq _ _ i)
theorem Eo.or {e : PySem.Expr} {es : List PySem.Expr} {a b : Bool} (h1 : Et c ps W e a) (h2 : a = false → Eo c ps W .Or es b) : Eo c ps W .Or (e :: es) (a || b) := by
  intro pos whole h tk Q E i hq
  refine isTrue_or (h1 _ _ _ _ _ rfl i fun h' tk' i' => ?_)
  cases a with
  | true => rw [if_pos rfl]; exact hq _ _ i'
  | false => rw [if_neg (by decide)]; exact h2 rfl _ _ _ _ _ _ i' hq
theorem Eo.and {e : PySem.Expr} {es : List PySem.Expr} {a b : Bool} (h1 : Et c ps W e a) (h2 : a = true → Eo c ps W .And es b) : Eo c ps W .And (e :: es) (a && b) := by
  intro pos whole h tk Q E i hq
  refine isTrue_and (h1 _ _ _ _ _ rfl i fun h' tk' i' => ?_)
  cases a with
  | true => rw [if_pos rfl]; exact h2 rfl _ _ _ _ _ _ i' hq
  | false => rw [if_neg (by decide)]; exact hq _ _ i'
theorem Et.bo {op : PySem.BoolOp} {es : List PySem.Expr} {pos : Pos} {b : Bool} (h : Eo c ps W op es b) : Et c ps W (.BoolOp op es pos) b :=
  fun _ _ _ _ _ _ i hq => h _ _ _ _ _ _ i hq
noncomputable def TruOk (p : PV) (b : Bool) : Prop :=
  ∀ (w : World) (A : Around) (s : Shared) (u : Value) (Q : Bool → Shared → Prop) (E : Value → Shared → Prop), p.rep u → (∀ k, Q b { s with toks := k }) → wpAny (model PySem.Challenge.pw_in0083_01 w) A (truthy u) Q E s
theorem Et.val {e : PySem.Expr} {p : PV} {b : Bool} (h : Ep c ps W e p) (t : TruOk p b)
    (hp : ∀ whole, whole = eval e c.env → PySem.isTrue e c.env whole = (do let v ← whole; standAt (PySem.Expr.pos e); holding [v] (truthy v)) := by intro _ _; rfl) : Et c ps W e b := by
  intro whole hh tk Q E hw i hq
  refine isTrue_plain ?_ (hp whole hw)
  subst hw
  exact h _ _ _ _ i fun _ _ _ r i' => t _ _ _ _ _ _ r fun _ => hq _ _ i'
variable {Φ : Flow → Shared → Prop} {E : Value → Shared → Prop} {rest : List Stmt}
noncomputable def Seq (c : Cx F N) (rest : List Stmt) (Φ : Flow → Shared → Prop) (E : Value → Shared → Prop) : Flow → Shared → Prop :=
  fun f s' => match f with
    | .next => wpAny c.M c.A (execs rest c.env) Φ E s'
    | f => Φ f s'
theorem Sx.seq (h : Sx c ps W rest Φ E) : Sx c ps W [] (Seq c rest Φ E) E := ⟨fun _ _ i => wpAny_execs_nil (h.run _ _ i)⟩
theorem Sx.ifte {e : PySem.Expr} {th el : List Stmt} {pos : Pos} {b : Bool} (h : Et c ps W e b) (h1 : b = true → Sx c ps W th (Seq c rest Φ E) E) (h2 : b = false → Sx c ps W el (Seq c rest Φ E) E) : Sx c ps W (.If e th el pos :: rest) Φ E := by
  refine ⟨fun hp tk i => ?_⟩
  refine wpAny_execs_cons (wpAny_If (h _ _ _ _ _ rfl i fun h' tk' i' => ?_))
  cases b with
  | true => rw [if_pos rfl]; exact (h1 rfl).run _ _ i'
  | false => rw [if_neg (by decide)]; exact (h2 rfl).run _ _ i'
theorem In.store {x : Str} {p : PV} {ps' : List PV} {v : Value} {h : Heap} {tk : Nat} {Q : Unit → Shared → Prop} (hs : SetAt F.locals ps x p ps') (hv : p.rep v) (i : In c ps W h) (hq : ∀ h' tk', In c ps' W h' → Q () (c.st h' tk')) :
    wpAny c.M c.A (storeName c.env x v) Q E (c.st h tk) := by
  obtain ⟨m, news, hF, hN, hf, hl, nd⟩ := i
  exact wpAny_storeName_local (c.kl hs.mem) hF.ns (fun h' hn h2 => hq h' _ ⟨_, _, hF.set hn h2, hN.set h2, frep_set hs F.nd hf hv, hl, nd⟩) c.nocls
theorem Sx.assign {x : Str} {px pos : Pos} {e : PySem.Expr} {p : PV} {ps' : List PV} (h : Ep c ps W e p) (hs : SetAt F.locals ps x p ps') (k : Sx c ps' W rest Φ E)
    (hw : swapsWith e (some (.Name x px)) pos.line c.env = pure false := by rfl) : Sx c ps W (.Assign [.Name x px] e pos :: rest) Φ E :=
  ⟨fun _ _ i => wpAny_execs_cons (wpAny_Assign_Name (h _ _ _ _ i fun _ _ _ r i' => i'.store hs r fun _ _ i'' => k.run _ _ i'') hw)⟩
theorem Sx.assignA {x : Str} {px pos : Pos} {e : PySem.Expr} {o : AO} {ps' : Addr → List PV} (h : Ea c ps W e o) (hs : ∀ a, SetAt F.locals ps x (.ref a) (ps' a)) (k : ∀ a, Sx c (ps' a) ((a, o) :: W) rest Φ E)
    (hw : swapsWith e (some (.Name x px)) pos.line c.env = pure false := by rfl) : Sx c ps W (.Assign [.Name x px] e pos :: rest) Φ E :=
  ⟨fun _ _ i => wpAny_execs_cons (wpAny_Assign_Name (h _ _ _ _ i fun a _ _ i' => i'.store (hs a) rfl fun _ _ i'' => (k a).run _ _ i'') hw)⟩
noncomputable def AugOk (op : Operator) (p q r : PV) : Prop :=
  ∀ (w : World) (A : Around) (s : Shared) (u v : Value) (Q E : Value → Shared → Prop), p.rep u → q.rep v → (∀ x k, r.rep x → Q x { s with toks := k }) → wpAny (model PySem.Challenge.pw_in0083_01 w) A (inplaceOp op u v) Q E s
theorem Sx.aug {x : Str} {px pos : Pos} {op : Operator} {e : PySem.Expr} {p q r : PV} {ps' : List PV} (hx : At F.locals ps x p) (hp : p ≠ .unset) (h : Ep c ps W e q) (o : AugOk op p q r) (hs : SetAt F.locals ps x r ps') (k : Sx c ps' W rest Φ E) :
    Sx c ps W (.AugAssign (.Name x px) op e pos :: rest) Φ E := by
  refine ⟨fun hh tk i => ?_⟩
  obtain ⟨m, news, hF, hN, hf, hl, nd⟩ := id i
  obtain ⟨v, hv, hr⟩ := frep_at hx hf hp
  refine wpAny_execs_cons (wpAny_AugAssign_Name (wpAny_loadName_local c.kk (c.kl hx.mem) hF.ns hv ?_))
  exact h _ _ _ _ i fun _ _ _ r2 i2 => o _ _ _ _ _ _ _ hr r2 fun _ _ r3 => i2.store hs r3 fun _ _ i'' => k.run _ _ i''
noncomputable def Rets (c : Cx F N) (R : Heap → Value → Heap → Prop) (Φ : Flow → Shared → Prop) : Prop := ∀ v h' tk', c.h₀.StaysIn h' → R c.h₀ v h' → Φ (.ret v) (c.st h' tk')
theorem Sx.ret {R : Heap → Value → Heap → Prop} {e : PySem.Expr} {pos : Pos} {p : PV} (hE : Rets c R Φ) (h : Ep c ps W e p) (hR : ∀ v h', p.rep v → In c ps W h' → R c.h₀ v h') : Sx c ps W (.Return (some e) pos :: rest) Φ E :=
  ⟨fun _ _ i => wpAny_execs_cons (wpAny_Return_some (h _ _ _ _ i fun v h' _ r i' => by
    obtain ⟨_, _, hF, _⟩ := id i'
    exact hE v h' _ hF.keep (hR v h' r i')))⟩
theorem Rets.seq {R : Heap → Value → Heap → Prop} (h : Rets c R Φ) : Rets c R (Seq c rest Φ E) := fun v h' tk' a b => h v h' tk' a b
end
end
section
open PySem PySem.W PySem.Calls PyProof.Rows
section
variable {F : FI} {N : Nat} {c : Cx F N} {ps : List PV} {W : Led} {Φ : Flow → Shared → Prop} {E : Value → Shared → Prop} {rest : List Stmt}
theorem room_d {a N r : Nat} (h : a + (N + 1) < r) : a + 1 + N < r := by
  rw [Nat.add_assoc, Nat.add_comm 1 N]
  exact h
theorem room_u {a N r : Nat} (h : a + (N + 1) * 100 < r) : a + 3 + N * 100 < r := by
  refine Nat.lt_of_le_of_lt ?_ h
  rw [Nat.succ_mul, Nat.add_assoc, Nat.add_comm 3]
  exact Nat.add_le_add_left (Nat.add_le_add_left (by decide) _) _
theorem Con.of {F : FI} {N : Nat} {vs : List Value} {P : Heap → Prop} {R : Heap → Value → Heap → Prop} {name : Str} {body : List Stmt} {params : Arguments} {dV kV doc pm ct oc : Value} {an od : Option Addr} {osl : Array (Option Value)} {binds : List (Str × Value)} {ps : List PV}
    (ho : ∀ q, (Mine.hd.heap_39 q).lookup F.f = some ⟨oc, od, .func (fnOf name F.qual params body F.scope dV kV doc pm an F.cd ct), osl⟩) (hcd : ∀ q, codeIn (Mine.hd.heap_39 q) F.cd F.qual = true)
    (hbind : ∀ s, BindsTo s (fnOf name F.qual params body F.scope dV kV doc pm an F.cd ct) ⟨vs, []⟩ binds) (hloc : ∀ y ∈ binds, F.scope.names.lookup y.1 = some .local)
    (hgen : F.scope.isGenerator = false) (hco : F.scope.isCoroutine = false) (hcell : ∀ x ∈ F.scope.names, x.2 ≠ .cell) (hf : frep F.locals ps (fun y => binds.reverse.lookup y))
    (k : ∀ (c : Cx F N) (Φ : Flow → Shared → Prop) (E : Value → Shared → Prop), Rets c R Φ → PassesOwn c.M c.A c.env E → P c.h₀ → Sx c ps [] body Φ E) (hmk : F.en = fun L => envOf F.qual F.scope L F.f F.cd := by rfl) : Con (N + 1) F.f vs P R := by
  obtain ⟨qual, scope, f, cd, locals, en, kf, lk, nd, hsc, hgl, hbu⟩ := F
  dsimp only at hmk
  subst hmk
  intro w p loose mean mg mb A h₀ s Q E X T hs hd hu hA hP hret
  have hd' : (A.deeper (envOf qual scope h₀.objs.size f cd)).depth + N < recursionLimit := room_d hd
  have hu' : (A.deeper (envOf qual scope h₀.objs.size f cd)).units + N * 100 < cLine := room_u hu
  refine enter X T hs (ho _) (hcd _) (by lia) (hbind s) hloc (fun h₁ tk₁ F₁ N₁ => ?_) hco hgen kf hcell
  let c : Cx ⟨qual, scope, f, cd, locals, _, kf, lk, nd, hsc, hgl, hbu⟩ N := { w, p, loose, mean, mg, mb, A := A.deeper (envOf qual scope h₀.objs.size f cd), h₀, L := h₀.objs.size, s, X, T, hh := hA, hd := hd', hu := hu' }
  exact (k c _ _ (fun v h' tk' st r => hret v h' tk' st r) PassesOwn.leaving hP).run h₁ tk₁ ⟨_, [], F₁, N₁, hf, trivial, .nil⟩
noncomputable def Lp (c : Cx F N) {σ : Type} (psf : σ → List PV) (Wf : σ → Led) (J : σ → Prop) (mu : σ → Nat) (n : Nat) (rest : List Stmt) (Φ : Flow → Shared → Prop) (E : Value → Shared → Prop) (f : Flow) (s' : Shared) : Prop :=
  match f with
  | .next | .cont => ∃ st h tk, s' = c.st h tk ∧ In c (psf st) (Wf st) h ∧ J st ∧ mu st < n
  | .brk => wpAny c.M c.A (execs rest c.env) Φ E s'
  | .ret v => Φ (.ret v) s'
theorem Sx.while {σ : Type} (psf : σ → List PV) (Wf : σ → Led) (J : σ → Prop) (mu : σ → Nat) (B : σ → Bool) (st₀ : σ) {test : PySem.Expr} {body : List Stmt} {pos : Pos} (hE : PassesOwn c.M c.A c.env E) (hj : J st₀)
    (turn : ∀ st, J st → Et c (psf st) (Wf st) test (B st) ∧ (B st = true → Sx c (psf st) (Wf st) body (Lp c psf Wf J mu (mu st) rest Φ E) E) ∧ (B st = false → Sx c (psf st) (Wf st) rest Φ E)) :
    Sx c (psf st₀) (Wf st₀) (.While test body [] pos :: rest) Φ E := by
  refine ⟨fun h tk => ?_⟩
  rintro ⟨m, news, hF, hN, hf, hl, nd⟩
  refine wpAny_execs_cons ?_
  refine While_inv2 (h₀ := c.h₀) (L := c.env.locals) (fun n m news => ∃ st, frep F.locals (psf st) m ∧ lrep (Wf st) news ∧ ((Wf st).map (·.1)).Nodup ∧ J st ∧ mu st = n) hF hN ⟨st₀, hf, hl, nd, hj, rfl⟩ ?_ hE
  rintro n m₁ news₁ h₁ tk₁ F₁ N₁ ⟨st, f1, l1, n1, hJ, rfl⟩
  obtain ⟨t1, t2, t3⟩ := turn st hJ
  refine t1 _ _ _ _ _ rfl ⟨m₁, news₁, F₁, N₁, f1, l1, n1⟩ fun h' tk' i' => ?_
  cases hb : B st with
  | false =>
    rw [if_neg (by decide)]
    exact (t3 hb).run _ _ i'
  | true =>
    rw [if_pos rfl]
    refine wpAny_mono ((t2 hb).run _ _ i') (fun f s₃ h₃ => ?_) fun _ _ e => e
    have fin : (∃ st' h tk, s₃ = c.st h tk ∧ In c (psf st') (Wf st') h ∧ J st' ∧ mu st' < mu st) → WhileStep2 c.h₀ c.env.locals (c.st h tk) (fun n m news => ∃ st, frep F.locals (psf st) m ∧ lrep (Wf st) news ∧ ((Wf st).map (·.1)).Nodup ∧ J st ∧ mu st = n) (fun f s' => match f with
        | .next => wpAny c.M c.A (execs rest c.env) Φ E s'
        | f => Φ f s') (mu st) .next s₃ := by
      rintro ⟨st', h', tk', e, ⟨m', news', F', N', f', l', n'⟩, hJ', hmu⟩
      exact ⟨h', tk', m', news', mu st', e, F', N', hmu, st', f', l', n', hJ', rfl⟩
    cases f with
    | next => exact fin h₃
    | cont => exact fin h₃
    | brk => exact h₃
    | ret v => exact h₃
theorem Sx.lp {σ : Type} {psf : σ → List PV} {Wf : σ → Led} {J : σ → Prop} {mu : σ → Nat} {n : Nat} (st : σ) (hp : ps = psf st) (hW : W = Wf st) (hJ : J st) (hmu : mu st < n) : Sx c ps W [] (Lp c psf Wf J mu n rest Φ E) E := by
  subst hp hW
  exact ⟨fun h tk i => wpAny_execs_nil ⟨st, h, tk, rfl, i, hJ, hmu⟩⟩
theorem Rets.lp {σ : Type} {psf : σ → List PV} {Wf : σ → Led} {J : σ → Prop} {mu : σ → Nat} {n : Nat} {R : Heap → Value → Heap → Prop} (h : Rets c R Φ) : Rets c R (Lp c psf Wf J mu n rest Φ E) := fun v h' tk' a b => h v h' tk' a b
theorem Sx.seq_lp {σ : Type} {psf : σ → List PV} {Wf : σ → Led} {J : σ → Prop} {mu : σ → Nat} {n : Nat} {r2 : List Stmt} (h : Sx c ps W r2 (Lp c psf Wf J mu n rest Φ E) E) : Sx c ps W [] (Seq c r2 (Lp c psf Wf J mu n rest Φ E) E) E := h.seq
noncomputable def El (c : Cx F N) (ps : List PV) (W : Led) (e : Option PySem.Expr) (i : Option Int) : Prop :=
  ∀ (h : Heap) (tk : Nat) (Q E : Value → Shared → Prop), In c ps W h → (∀ v h' tk', (match i with | Option.none => v = Value.none | some k => ∃ t, v = .int k t) → In c ps W h' → Q v (c.st h' tk')) → wpAny c.M c.A (evalPart e c.env) Q E (c.st h tk)
theorem El.none : El c ps W Option.none Option.none := fun _ _ _ _ i hq => evalPart_none_step (hq _ _ _ rfl i)
theorem El.some {e : PySem.Expr} {k : Int} (h : Ep c ps W e (.int k)) : El c ps W (some e) (some k) := fun _ _ _ _ i hq => evalPart_some_step (h _ _ _ _ i fun _ _ _ r i' => hq _ _ _ r i')
theorem Ep.slice {v : PySem.Expr} {lo up : Option PySem.Expr} {p pos : Pos} {x : Str} {a b : Option Int} (h1 : Ep c ps W v (.str x)) (h2 : El c ps W lo a) (h3 : El c ps W up b) (hx : x.length ≤ sizeLine)
    (hs : ∀ (t : Tok) (d : Addr), subscripted (.Slice lo up Option.none p) false (.str x t) (.ref d) = operate [.ref d, .str x t] (getItem (.str x t) (.ref d)) := by intro _ _; rfl) (ht : ∀ t r, letTemporaryGo v (.str x t) r = pure () := by intro _ _; rfl) :
    Ep c ps W (.Subscript v (.Slice lo up Option.none p) pos) (.str (Txt.slice x a b)) := by
  intro h tk Q E i hq
  refine Subscript_ (h1 _ _ _ _ i fun o h' tk' ho i1 => wpAny_Slice (h2 _ _ _ _ i1 fun l h2' tk2 hl i2 => h3 _ _ _ _ i2 fun u h3' tk3 hu i3 => evalPart_none_step ?_))
  obtain ⟨t, rfl⟩ := ho
  obtain ⟨m, news, hF, hN, hf, hlr, nd⟩ := i3
  cases a with
  | none =>
    cases b with
    | none => cases hl; cases hu; exact slice_strN_nn (hsz := hx) (s := c.st h3' tk3) hF hN (fun h' t' k F' N' => hq _ _ _ ⟨_, rfl⟩ ⟨m, news, F', N', hf, hlr, nd⟩) (hs _ _) (ht _)
    | some b => cases hl; obtain ⟨tb, rfl⟩ := hu; exact slice_strN_ns_len (hsz := hx) (s := c.st h3' tk3) hF hN (fun h' t' k F' N' _ => hq _ _ _ ⟨_, rfl⟩ ⟨m, news, F', N', hf, hlr, nd⟩) (hs _ _) (ht _)
  | some a =>
    obtain ⟨ta, rfl⟩ := hl
    cases b with
    | none => cases hu; exact slice_strN_sn_len (hsz := hx) (s := c.st h3' tk3) hF hN (fun h' t' k F' N' _ => hq _ _ _ ⟨_, rfl⟩ ⟨m, news, F', N', hf, hlr, nd⟩) (hs _ _) (ht _)
    | some b => obtain ⟨tb, rfl⟩ := hu; exact slice_strN_ss_len (hsz := hx) (s := c.st h3' tk3) hF hN (fun h' t' k F' N' _ => hq _ _ _ ⟨_, rfl⟩ ⟨m, news, F', N', hf, hlr, nd⟩) (hs _ _) (ht _)
end
end
section
open PySem PySem.W PySem.Calls PyProof.Rows
theorem reps_len : ∀ {qs : List PV} {vs : List Value}, reps qs vs → vs.length = qs.length
  | [], [], _ => rfl
  | _ :: _, _ :: _, h => congrArg (· + 1) (reps_len h.2)
  | [], _ :: _, h => h.elim
  | _ :: _, [], h => h.elim
theorem reps_get : ∀ {qs : List PV} {vs : List Value} {k : Nat} {q : PV}, reps qs vs → qs[k]? = some q → ∃ v, vs[k]? = some v ∧ q.rep v
  | _ :: _, _ :: _, 0, _, h, e => by cases e; exact ⟨_, rfl, h.1⟩
  | _ :: _, _ :: _, k + 1, _, h, e => reps_get (k := k) h.2 e
  | [], _, _, _, _, e => by cases e
  | _ :: _, [], _, _, h, _ => h.elim
theorem reps_snoc : ∀ {qs : List PV} {vs : List Value} {q : PV} {v : Value}, reps qs vs → q.rep v → reps (qs ++ [q]) (vs ++ [v])
  | [], [], _, _, _, h => ⟨h, trivial⟩
  | _ :: _, _ :: _, _, _, h, e => ⟨h.1, reps_snoc h.2 e⟩
  | [], _ :: _, _, _, h, _ => h.elim
  | _ :: _, [], _, _, h, _ => h.elim
theorem lrep_map : ∀ {W : Led} {news : List (Addr × Obj)}, lrep W news → W.map (·.1) = news.map (·.1)
  | [], [], _ => rfl
  | _ :: _, _ :: _, h => by rw [List.map_cons, List.map_cons, h.1.1, lrep_map h.2]
  | [], _ :: _, h => h.elim
  | _ :: _, [], h => h.elim
theorem lrep_get : ∀ {W : Led} {news : List (Addr × Obj)} {a : Addr} {o : AO}, lrep W news → (a, o) ∈ W → ∃ ob, (a, ob) ∈ news ∧ o.rep ob
  | b :: _, n :: _, a, o, h, hm => by
    cases hm with
    | head =>
      have e : a = n.1 := h.1.1
      exact ⟨n.2, by rw [e]; exact .head _, h.1.2⟩
    | tail _ hm =>
      obtain ⟨ob, h1, h2⟩ := lrep_get h.2 hm
      exact ⟨ob, .tail _ h1, h2⟩
  | [], _, _, _, _, hm => nomatch hm
  | _ :: _, [], _, _, h, _ => h.elim
inductive UpdL (a : Addr) (x x' : AO) : Led → Led → Prop
  | head {r} : UpdL a x x' ((a, x) :: r) ((a, x') :: r)
  | tail {q r r'} : UpdL a x x' r r' → UpdL a x x' (q :: r) (q :: r')
theorem UpdL.fst {a : Addr} {x x' : AO} {W W' : Led} (u : UpdL a x x' W W') : W'.map (·.1) = W.map (·.1) ∧ a ∈ W.map (·.1) := by
  induction u with
  | head => exact ⟨rfl, .head _⟩
  | tail _ ih => exact ⟨by rw [List.map_cons, List.map_cons, ih.1], .tail _ ih.2⟩
theorem UpdL.upd {a : Addr} {x x' : AO} {W W' : Led} (u : UpdL a x x' W W') : ∀ {news : List (Addr × Obj)}, (W.map (·.1)).Nodup → lrep W news →
    ∃ ob, x.rep ob ∧ (a, ob) ∈ news ∧ ∀ ob', x'.rep ob' → ∃ news', Upd a ob ob' news news' ∧ lrep W' news' := by
  induction u with
  | @head r =>
    intro news nd l
    cases news with
    | nil => exact l.elim
    | cons n news =>
      obtain ⟨⟨e, h1⟩, h2⟩ := l
      obtain ⟨n1, n2⟩ := n
      have e' : a = n1 := e
      subst e'
      refine ⟨n2, h1, .head _, fun ob' h' => ⟨(a, ob') :: news, .head fun p hp e => ?_, ⟨rfl, h'⟩, h2⟩⟩
      have := (List.nodup_cons.mp nd).1
      rw [lrep_map h2] at this
      exact this (e ▸ List.mem_map_of_mem hp)
  | @tail q r r' hu ih =>
    intro news nd l
    cases news with
    | nil => exact l.elim
    | cons n news =>
      obtain ⟨h1, h2⟩ := l
      have hn := List.nodup_cons.mp nd
      obtain ⟨ob, a1, a2, a3⟩ := ih hn.2 h2
      refine ⟨ob, a1, .tail _ a2, fun ob' h' => ?_⟩
      obtain ⟨news', u', l'⟩ := a3 ob' h'
      refine ⟨n :: news', .tail (fun e => hn.1 ?_) u', h1, l'⟩
      show q.1 ∈ _
      rw [h1.1, e]
      exact hu.fst.2
section
variable {F : FI} {N : Nat} {c : Cx F N} {ps : List PV} {W : Led} {Φ : Flow → Shared → Prop} {E : Value → Shared → Prop} {rest : List Stmt}
theorem In.get {a : Addr} {o : AO} {h : Heap} (i : In c ps W h) (hm : (a, o) ∈ W) : ∃ ob, h.get? a = some ob ∧ o.rep ob := by
  obtain ⟨m, news, hF, hN, hf, hl, nd⟩ := i
  obtain ⟨ob, h1, h2⟩ := lrep_get hl hm
  exact ⟨ob, (hN _ h1).1, h2⟩
noncomputable def ItemOk (o : AO) (k : Int) (q : PV) : Prop := ∀ ob, o.rep ob → ∃ vs n v, ob = PySem.W.listOf vs n ∧ q.rep v ∧ ((0 ≤ k ∧ k < 2 ^ 63 ∧ vs[k.toNat]? = some v) ∨ (k < 0 ∧ -(vs.size : Int) ≤ k ∧ -(2 ^ 63) ≤ k ∧ vs[(k + vs.size).toNat]? = some v))
theorem neg1 (n : Nat) : (-1 + (n : Int)).toNat = n - 1 := by
  rw [Int.add_comm, ← Int.sub_eq_add_neg]
  exact Int.toNat_sub n 1
theorem ItemOk.list {l : List PV} {k : Int} {q : PV} (h0 : 0 ≤ k) (h1 : k < 1000000) (hx : l[k.toNat]? = some q) : ItemOk (.list l) k q := by
  rintro ob ⟨vs, n, rfl, hr⟩
  obtain ⟨v, h2, h3⟩ := reps_get hr hx
  exact ⟨_, n, v, rfl, h3, .inl ⟨h0, by lia, by simpa using h2⟩⟩
theorem ItemOk.last {l : List PV} {q : PV} (hx : l[l.length - 1]? = some q) : ItemOk (.list l) (-1) q := by
  rintro ob ⟨vs, n, rfl, hr⟩
  obtain ⟨v, h2, h3⟩ := reps_get hr hx
  have hl := reps_len hr
  have h1 := (List.getElem?_eq_some_iff.mp h2).1
  refine ⟨_, n, v, rfl, h3, .inr ⟨by decide, by simp; lia, by decide, ?_⟩⟩
  have e : (-1 + ((vs.toArray.size : Nat) : Int)).toNat = l.length - 1 := (neg1 _).trans (congrArg (· - 1) hl)
  rw [e]
  simpa using h2
theorem ItemOk.strs {l : List Str} {k : Int} {q : Str} (h0 : 0 ≤ k) (h1 : k < 1000000) (hx : l[k.toNat]? = some q) : ItemOk (.strs l) k (.str q) := by
  rintro ob ⟨ys, n, rfl, hr⟩
  subst hr
  rw [List.getElem?_map, Option.map_eq_some_iff] at hx
  obtain ⟨z, hz, rfl⟩ := hx
  exact ⟨_, n, .str z.1 z.2, rfl, ⟨_, rfl⟩, .inl ⟨h0, by lia, by simp [strValues, hz]⟩⟩
theorem ItemOk.lastS {l : List Str} {q : Str} (hx : l[l.length - 1]? = some q) : ItemOk (.strs l) (-1) (.str q) := by
  rintro ob ⟨ys, n, rfl, hr⟩
  subst hr
  rw [List.length_map] at hx
  rw [List.getElem?_map, Option.map_eq_some_iff] at hx
  obtain ⟨z, hz, rfl⟩ := hx
  have h1 := (List.getElem?_eq_some_iff.mp hz).1
  refine ⟨_, n, .str z.1 z.2, rfl, ⟨_, rfl⟩, .inr ⟨by decide, by simp [strValues]; lia, by decide, ?_⟩⟩
  have e : (-1 + (((strValues ys).toArray.size : Nat) : Int)).toNat = ys.length - 1 := (neg1 _).trans (congrArg (· - 1) (List.length_map _))
  rw [e]
  simp [strValues, hz]
theorem Ep.item {v i : PySem.Expr} {pos : Pos} {a : Addr} {o : AO} {k : Int} {q : PV} (h1 : Ep c ps W v (.ref a)) (h2 : Ep c ps W i (.int k)) (hm : (a, o) ∈ W) (ho : ItemOk o k q)
    (hs : ∀ t, subscripted i false (.ref a) (.int k t) = operate [.ref a, .int k t] (getItem (.ref a) (.int k t)) := by intro _; rfl) :
    Ep c ps W (.Subscript v i pos) q := by
  intro h tk Q E j hq
  refine Subscript_ (h1 _ _ _ _ j fun o' h' tk' r1 i1 => h2 _ _ _ _ i1 fun k' h2' tk2 r2 i2 => ?_)
  cases r1
  obtain ⟨t, rfl⟩ := r2
  obtain ⟨ob, g1, g2⟩ := i2.get hm
  obtain ⟨vs, n, u, rfl, hu, hk⟩ := ho ob g2
  have hl : (c.st h2' tk2).heap.IsList a vs := ⟨_, g1, rfl, n, rfl⟩
  refine tail_any hl.typeIs PySem.F.slot_list_getitem.lookup ?_ (hs t)
  rcases hk with ⟨a1, a2, a3⟩ | ⟨a1, a2, a3, a4⟩
  · exact wpAny_getItem_list hl a1 a2 a3 (hq _ _ _ hu i2)
  · exact wpAny_getItem_list_neg hl a1 a2 a3 a4 (hq _ _ _ hu i2)
theorem Ep.sign {v i : PySem.Expr} {pos : Pos} {x : Str} {k : Int} (h1 : Ep c ps W v (.str x)) (h2 : Ep c ps W i (.int k)) (h3 : -(x.length : Int) ≤ k) (h4 : k < x.length) (h5 : x.length ≤ 1000000)
    (hs : ∀ t u, subscripted i false (.str x t) (.int k u) = operate [.str x t, .int k u] (getItem (.str x t) (.int k u)) := by intro _ _; rfl) (ht : ∀ t r, letTemporaryGo v (.str x t) r = pure () := by intro _ _; rfl) :
    Ep c ps W (.Subscript v i pos) (.str (Txt.item x k)) := by
  intro h tk Q E j hq
  refine Subscript_ (h1 _ _ _ _ j fun o' h' tk' r1 i1 => h2 _ _ _ _ i1 fun k' h2' tk2 r2 i2 => ?_)
  obtain ⟨t, rfl⟩ := r1
  obtain ⟨u, rfl⟩ := r2
  exact item_str (by unfold fitsSsize; simp; lia) h3 h4 (fun _ => hq _ _ _ ⟨_, rfl⟩ i2) (hs t u) (ht t)
noncomputable def AppOk (x : AO) (p : PV) (x' : AO) : Prop := ∀ ob v, x.rep ob → p.rep v → ∃ its n, ob = PySem.W.listOf its n ∧ its.size ≤ sizeLine ∧ x'.rep (PySem.W.listOf (its.push v) (n + 1))
theorem AppOk.list {l : List PV} {p : PV} (hl : l.length ≤ 1000000) : AppOk (.list l) p (.list (l ++ [p])) := by
  rintro ob v ⟨vs, n, rfl, hr⟩ hv
  have := reps_len hr
  refine ⟨_, n, rfl, by rw [List.size_toArray, sizeLine_eq]; lia, vs ++ [v], n + 1, by simp, reps_snoc hr hv⟩
theorem AppOk.strs {l : List Str} {y : Str} (hl : l.length ≤ 1000000) : AppOk (.strs l) (.str y) (.strs (l ++ [y])) := by
  rintro ob v ⟨ys, n, rfl, hr⟩ ⟨t, rfl⟩
  have := len_of_map hr
  refine ⟨_, n, rfl, by simp [strValues, sizeLine_eq]; lia, ys ++ [(y, t)], n + 1, by rw [strValues_push], by rw [List.map_append, hr]; rfl⟩
theorem In.app {x x' : AO} {a : Addr} {W' : Led} {p : PV} {v : Value} {h : Heap} {tk : Nat} {Q E : Value → Shared → Prop} (i : In c ps W h) (u : UpdL a x x' W W') (o : AppOk x p x') (hv : p.rep v) (hq : ∀ h' tk', In c ps W' h' → Q .none (c.st h' tk')) :
    wpAny c.M c.A (call (.builtin "list.append") [.ref a, v]) Q E (c.st h tk) := by
  obtain ⟨m, news, hF, hN, hf, hl, nd⟩ := i
  obtain ⟨ob, h1, h2, h3⟩ := u.upd nd hl
  obtain ⟨its, n, rfl, hs, h4⟩ := o ob v h1 hv
  obtain ⟨news', U, l'⟩ := h3 _ h4
  exact append_K (hsz := hs) hF hN U fun h' F' N' => hq _ _ ⟨m, news', F', N', hf, l', by rw [u.fst.1]; exact nd⟩
noncomputable def McOk (c : Cx F N) (o : PySem.Expr) (name : Str) (ap p2 : Pos) (args : List PySem.Expr) (pl : Sem Bool) : Prop :=
  eval (.Call (.Attribute o name ap) args [] p2) c.env = (do
    let ov ← eval o c.env
    standAt ap.atName
    let (f, first) ← holding [ov] (getMethod ov name pl)
    callWith p2 f first (backTo p2 (starEach args c.env)) [])
theorem Sx.append {pl : Sem Bool} {xe e : PySem.Expr} {ap p2 pos : Pos} {a : Addr} {x x' : AO} {p : PV} {W' : Led} (h1 : Ep c ps W xe (.ref a)) (h2 : Ep c ps W e p) (u : UpdL a x x' W W') (hx : ∃ l, x = .strs l ∨ ∃ l, x = .list l) (o : AppOk x p x') (k : Sx c ps W' rest Φ E)
    (he : McOk c xe (Str.ofString "append") ap p2 [e] pl := by exact rfl)
    (hst : starEach [e] c.env = (false, eval e c.env) :: starEach [] c.env := by rfl) (hsw : swapsWith (.Call (.Attribute xe (Str.ofString "append") ap) [e] [] p2) Option.none pos.line c.env = pure false := by rfl) (hin : interactive c.env = false := by rfl) :
    Sx c ps W (.Expr (.Call (.Attribute xe (Str.ofString "append") ap) [e] [] p2) pos :: rest) Φ E := by
  refine ⟨fun h tk i => ?_⟩
  refine wpAny_execs_cons (wpAny_Expr_any (MethodCall_ (h1 _ _ _ _ i fun ov h' tk' r1 i1 => ?_) he) hin hsw)
  cases r1
  obtain ⟨m, news, hF, hN, hf, hl, nd⟩ := id i1
  obtain ⟨ob, g1, g2, g3⟩ := u.upd nd hl
  obtain ⟨its, n, rfl⟩ : ∃ its n, ob = PySem.W.listOf its n := by
    obtain ⟨l, e | ⟨l, e⟩⟩ := hx
    · subst e; obtain ⟨ys, n, e, _⟩ := g1; exact ⟨_, n, e⟩
    · subst e; obtain ⟨ys, n, e, _⟩ := g1; exact ⟨_, n, e⟩
  refine listMethod_K hN g2 PySem.F.slot_list_append PySem.F.type_list_append (callWith_method1 (args_cons (h2 _ _ _ _ i1 fun v h2' tk2 r2 i2 => args_nil ?_) hst) hst)
  exact i2.app u o r2 fun h' tk' i' => k.run _ _ i'
end
end
section
open PySem PySem.W PySem.Calls PyProof.Rows
theorem BinOk.addi {a b : Int} : BinOk .Add (.int a) (.int b) (.int (a + b)) := by
  rintro w A s u v Q E ⟨t, rfl⟩ ⟨t', rfl⟩ hq
  exact add_int (hq _ _ ⟨_, rfl⟩)
theorem BinOk.adds {x y : Str} (h : x.length + y.length ≤ sizeLine) : BinOk .Add (.str x) (.str y) (.str (x ++ y)) := by
  rintro w A s u v Q E ⟨t, rfl⟩ ⟨t', rfl⟩ hq
  exact SBL.add (hsz := h) fun t' k _ => hq _ _ ⟨_, rfl⟩
theorem AugOk.addi {a b : Int} : AugOk .Add (.int a) (.int b) (.int (a + b)) := by
  rintro w A s u v Q E ⟨t, rfl⟩ ⟨t', rfl⟩ hq
  exact iadd_int (hq _ _ ⟨_, rfl⟩)
theorem CmpOk.eqs {x y : Str} : CmpOk .Eq (.str x) (.str y) (x == y) := by
  rintro w A s u v Q E ⟨t, rfl⟩ ⟨t', rfl⟩ hq
  exact eq_str (hq _)
theorem CmpOk.nes {x y : Str} : CmpOk .NotEq (.str x) (.str y) (x != y) := by
  rintro w A s u v Q E ⟨t, rfl⟩ ⟨t', rfl⟩ hq
  exact ne_str (hq _)
theorem CmpOk.eqi {x y : Int} : CmpOk .Eq (.int x) (.int y) (x == y) := by
  rintro w A s u v Q E ⟨t, rfl⟩ ⟨t', rfl⟩ hq
  exact eq_int (hq _)
theorem CmpOk.lti {x y : Int} : CmpOk .Lt (.int x) (.int y) (decide (x < y)) := by
  rintro w A s u v Q E ⟨t, rfl⟩ ⟨t', rfl⟩ hq
  exact lt_int (hq _)
theorem CmpOk.gei {x y : Int} : CmpOk .GtE (.int x) (.int y) (decide (y ≤ x)) := by
  rintro w A s u v Q E ⟨t, rfl⟩ ⟨t', rfl⟩ hq
  exact PyProof.Rows.ge_int (hq _)
theorem TruOk.bool {b : Bool} : TruOk (.bool b) b := by
  rintro w A s u Q E rfl hq
  exact wpAny_truthy_bool (hq _)
theorem TruOk.str {x : Str} (h : (x.length : Int) < 9223372036854775808) : TruOk (.str x) ((x.length : Int) != 0) := by
  rintro w A s u Q E ⟨t, rfl⟩ hq
  exact SBL.truthy h (hq _)
section
variable {F : FI} {N : Nat} {c : Cx F N} {ps : List PV} {W : Led} {Φ : Flow → Shared → Prop} {E : Value → Shared → Prop} {rest : List Stmt}
theorem Ep.neg {e : PySem.Expr} {pos : Pos} {a : Int} (h : Ep c ps W e (.int a)) : Ep c ps W (.UnaryOp .USub e pos) (.int (-a)) := by
  intro hh tk Q E i hq
  refine UnaryOp_ (h _ _ _ _ i fun v h' tk' r i' => ?_)
  obtain ⟨t, rfl⟩ := r
  exact neg_int (hq _ _ _ ⟨_, rfl⟩ i')
theorem Ep.notv {e : PySem.Expr} {pos : Pos} {p : PV} {b : Bool} (h : Ep c ps W e p) (t : TruOk p b) : Ep c ps W (.UnaryOp .Not e pos) (.bool !b) := by
  intro hh tk Q E i hq
  exact UnaryOp_ (h _ _ _ _ i fun v h' tk' r i' => not_of (t _ _ _ _ _ _ r fun _ => hq _ _ _ rfl i'))
structure BName (x : Str) (id : String) : Prop where
  n : ∀ q, nsIn (Mine.hd.heap_39 q) mainGlobals x = some none
  b : bootBuiltins x = some (.builtin id)
  u : x ≠ "__name__"
  d : (x == ("__debug__" : Str)) = false
noncomputable def FunOk (c : Cx F N) (ps : List PV) (W : Led) (id : String) (qs : List PV) (r : PV) : Prop :=
  ∀ (h : Heap) (tk : Nat) (vs : List Value) (Q E : Value → Shared → Prop), In c ps W h → reps qs vs → (∀ v h' tk', r.rep v → In c ps W h' → Q v (c.st h' tk')) → wpAny c.M c.A (call (.builtin id) vs) Q E (c.st h tk)
noncomputable def CallEq (c : Cx F N) (fe : PySem.Expr) (args : List PySem.Expr) (pos : Pos) : Prop :=
  eval (.Call fe args [] pos) c.env = (do callWith pos (← eval fe c.env) [] (backTo pos (starEach args c.env)) (backToKw pos (keywordEach [] c.env)))
theorem Ep.callB {x : Str} {px pos : Pos} {id : String} {e : PySem.Expr} {es : List PySem.Expr} {qs : List PV} {r : PV} (b : BName x id) (hk : F.scope.names.lookup x = some .globalImplicit) (h : Es c ps W (e :: es) qs) (f : FunOk c ps W id qs r)
    (he : CallEq c (.Name x px) (e :: es) pos := by exact rfl) (hst : starEach (e :: es) c.env = (false, eval e c.env) :: starEach es c.env := by rfl) (hpl : (backTo pos (starEach es c.env)).any (·.1) = false := by rfl) : Ep c ps W (.Call (.Name x px) (e :: es) [] pos) r := by
  intro hh tk Q E i hq
  obtain ⟨m, news, hF, hN, hf, hl, nd⟩ := _root_.id i
  refine Call_ (Cx.nmB hF (b.n _) b.b b.u ?_ hk b.d) he
  exact PyProof.Rows.callWith_builtin1 (h _ _ _ _ _ i fun vs h' tk' hr i' => f _ _ _ _ _ i' hr hq) hst hpl
noncomputable def SM (name : Str) (id : String) : Prop := ∀ (M : Model) (A : Around) (E : Value → Shared → Prop) (s : Shared) (x : Str) (t : Tok) (pl : Sem Bool) (Q : Value × List Value → Shared → Prop), Q (.builtin id, [.str x t]) s → wpAny M A (getMethod (.str x t) name pl) Q E s
theorem Ep.meth0 {pl : Sem Bool} {o : PySem.Expr} {name : Str} {id : String} {ap pos : Pos} {x : Str} {r : PV} (g : SM name id) (h : Ep c ps W o (.str x)) (f : FunOk c ps W id [.str x] r) (he : McOk c o name ap pos [] pl := by exact rfl) : Ep c ps W (.Call (.Attribute o name ap) [] [] pos) r := by
  intro hh tk Q E i hq
  refine MethodCall_ (h _ _ _ _ i fun v h' tk' hr i' => ?_) he
  obtain ⟨t, rfl⟩ := hr
  exact g _ _ _ _ _ _ _ _ (callWith_method0 (f _ _ _ _ _ i' ⟨⟨_, rfl⟩, trivial⟩ hq))
theorem Ep.meth1 {pl : Sem Bool} {o : PySem.Expr} {name : Str} {id : String} {ap pos : Pos} {x : Str} {r : PV} {e : PySem.Expr} {es : List PySem.Expr} {qs : List PV} (g : SM name id) (h : Ep c ps W o (.str x)) (ha : Es c ps W (e :: es) qs) (f : FunOk c ps W id (.str x :: qs) r) (he : McOk c o name ap pos (e :: es) pl := by exact rfl)
    (hst : starEach (e :: es) c.env = (false, eval e c.env) :: starEach es c.env := by rfl) (hpl : (backTo pos (starEach es c.env)).any (·.1) = false := by rfl) : Ep c ps W (.Call (.Attribute o name ap) (e :: es) [] pos) r := by
  intro hh tk Q E i hq
  refine MethodCall_ (h _ _ _ _ i fun v h' tk' hr i' => ?_) he
  obtain ⟨t, rfl⟩ := hr
  exact g _ _ _ _ _ _ _ _ (callWith_method1 (ha _ _ _ _ _ i' fun vs h'' tk'' hrs i'' => f _ _ _ _ _ i'' ⟨⟨_, rfl⟩, hrs⟩ hq) hst hpl)
theorem reps1 {p : PV} {vs : List Value} (h : reps [p] vs) : ∃ v, vs = [v] ∧ p.rep v := by
  cases vs with
  | nil => exact h.elim
  | cons v vs => cases vs with
    | nil => exact ⟨v, rfl, h.1⟩
    | cons _ _ => exact h.2.elim
theorem reps2 {p q : PV} {vs : List Value} (h : reps [p, q] vs) : ∃ v u, vs = [v, u] ∧ p.rep v ∧ q.rep u := by
  cases vs with
  | nil => exact h.elim
  | cons v vs =>
    obtain ⟨u, rfl, hu⟩ := reps1 h.2
    exact ⟨v, u, rfl, h.1, hu⟩
theorem reps3 {p q r : PV} {vs : List Value} (h : reps [p, q, r] vs) : ∃ v u z, vs = [v, u, z] ∧ p.rep v ∧ q.rep u ∧ r.rep z := by
  cases vs with
  | nil => exact h.elim
  | cons v vs =>
    obtain ⟨u, z, rfl, hu⟩ := reps2 h.2
    exact ⟨v, u, z, rfl, h.1, hu⟩
theorem FunOk.len {x : Str} (h : x.length ≤ 1000000) : FunOk c ps W "len" [.str x] (.int x.length) := by
  intro hh tk vs Q E i hr hq
  obtain ⟨v, rfl, t, rfl⟩ := reps1 hr
  exact P.len_str (by lia) (hq _ _ _ ⟨_, rfl⟩ i)
theorem FunOk.max {a b : Int} : FunOk c ps W "max" [.int a, .int b] (.int (if b > a then b else a)) := by
  intro hh tk vs Q E i hr hq
  obtain ⟨v, u, rfl, ⟨t, rfl⟩, t', rfl⟩ := reps2 hr
  obtain ⟨m, news, hF, hN, hf, hl, nd⟩ := i
  exact max_two_N c.hh hF hN fun h' tk F' N' => hq _ _ _ ⟨_, rfl⟩ ⟨m, news, F', N', hf, hl, nd⟩
theorem FunOk.find3 {x y : Str} {i : Int} : FunOk c ps W "str.find" [.str x, .str y, .int i] (.int (Txt.find3 x y i)) := by
  intro hh tk vs Q E j hr hq
  obtain ⟨v, u, z, rfl, ⟨t, rfl⟩, ⟨t', rfl⟩, t'', rfl⟩ := reps3 hr
  exact SC.find3 (hq _ _ _ ⟨_, rfl⟩ j)
noncomputable def En (c : Cx F N) (ps : List PV) (W : Led) (e : PySem.Expr) (K : PV → Led → Prop) : Prop :=
  ∀ (h : Heap) (tk : Nat) (Q E : Value → Shared → Prop), In c ps W h → (∀ p W' v h' tk', K p W' → p.rep v → In c ps W' h' → Q v (c.st h' tk')) → wpAny c.M c.A (eval e c.env) Q E (c.st h tk)
noncomputable def Ens (c : Cx F N) (ps : List PV) (W : Led) (es : List PySem.Expr) (K : List PV → Led → Prop) : Prop :=
  ∀ (pos : Pos) (h : Heap) (tk : Nat) (Q : List Value → Shared → Prop) (E : Value → Shared → Prop), In c ps W h → (∀ qs W' vs h' tk', K qs W' → reps qs vs → In c ps W' h' → Q vs (c.st h' tk')) → wpAny c.M c.A (spliced (backTo pos (starEach es c.env))) Q E (c.st h tk)
theorem En.of {e : PySem.Expr} {p : PV} (h : Ep c ps W e p) : En c ps W e (fun q W' => q = p ∧ W' = W) := fun _ _ _ _ i hq => h _ _ _ _ i fun _ _ _ r i' => hq _ _ _ _ _ ⟨rfl, rfl⟩ r i'
theorem Ens.nil : Ens c ps W [] (fun qs W' => qs = [] ∧ W' = W) := fun _ _ _ _ _ i hq => args_nil (hq _ _ _ _ _ ⟨rfl, rfl⟩ trivial i)
theorem Ens.cons {e : PySem.Expr} {es : List PySem.Expr} {K : PV → Led → Prop} {K2 : PV → Led → List PV → Led → Prop} (h1 : En c ps W e K) (h2 : ∀ p W', K p W' → Ens c ps W' es (K2 p W')) (hs : starEach (e :: es) c.env = (false, eval e c.env) :: starEach es c.env := by rfl) :
    Ens c ps W (e :: es) (fun qs W'' => ∃ p W' qs', K p W' ∧ K2 p W' qs' W'' ∧ qs = p :: qs') :=
  fun pos h tk Q E i hq => args_cons (h1 _ _ _ _ i fun p W' v h' tk' hk hr i' => h2 p W' hk _ _ _ _ _ i' fun qs W'' vs h'' tk'' hk2 hrs i'' => hq _ _ _ _ _ ⟨p, W', qs, hk, hk2, rfl⟩ ⟨hr, hrs⟩ i'') hs
theorem In.newL {o : AO} {vs : List Value} {h : Heap} {tk : Nat} {Q E : Value → Shared → Prop} (i : In c ps W h) (ho : o.rep (PySem.W.listOf vs.toArray 0)) (hs : vs.length ≤ 1000000) (hq : ∀ a h' tk', In c ps ((a, o) :: W) h' → Q (.ref a) (c.st h' tk')) :
    wpAny c.M c.A (newList vs) Q E (c.st h tk) := by
  obtain ⟨m, news, hF, hN, hf, hl, nd⟩ := i
  refine newList_K (hsz := by rw [sizeLine_eq]; lia) hF hN fun l h' F' N' lt => hq _ _ _ ⟨m, _, F', N', hf, ⟨⟨rfl, ho⟩, hl⟩, ?_⟩
  rw [List.map_cons, List.nodup_cons]
  refine ⟨fun hm => ?_, nd⟩
  rw [lrep_map hl] at hm
  obtain ⟨q, hq, e⟩ := List.mem_map.mp hm
  exact absurd (lt q hq) (by rw [e]; exact Nat.lt_irrefl _)
theorem En.list0 {pos : Pos} : En c ps W (.List [] pos) (fun p W' => ∃ a, p = .ref a ∧ W' = (a, .strs []) :: W) :=
  fun _ _ _ _ i hq => List_ (args_nil (i.newL (o := .strs []) ⟨[], 0, rfl, rfl⟩ (Nat.zero_le _) fun a h' tk' i' => hq _ _ _ _ _ ⟨a, rfl, rfl⟩ rfl i'))
theorem En.list {es : List PySem.Expr} {pos : Pos} {K : List PV → Led → Prop} (h : Ens c ps W es K) (hn : ∀ qs W', K qs W' → qs.length ≤ 1000000) : En c ps W (.List es pos) (fun p W' => ∃ a qs W1, K qs W1 ∧ p = .ref a ∧ W' = (a, .list qs) :: W1) :=
  fun _ _ _ _ i hq => List_ (h _ _ _ _ _ i fun qs W' vs h' tk' hk hr i' => i'.newL (o := .list qs) ⟨vs, 0, rfl, hr⟩ (by rw [reps_len hr]; exact hn _ _ hk) fun a h'' tk'' i'' => hq _ _ _ _ _ ⟨a, qs, W', hk, rfl, rfl⟩ rfl i'')
theorem Sx.assignN {x : Str} {px pos : Pos} {e : PySem.Expr} {K : PV → Led → Prop} (h : En c ps W e K) (k : ∀ p W', K p W' → ∃ ps', SetAt F.locals ps x p ps' ∧ Sx c ps' W' rest Φ E)
    (hw : swapsWith e (some (.Name x px)) pos.line c.env = pure false := by rfl) : Sx c ps W (.Assign [.Name x px] e pos :: rest) Φ E :=
  ⟨fun _ _ i => wpAny_execs_cons (wpAny_Assign_Name (h _ _ _ _ i fun p W' _ _ _ hk r i' => by
    obtain ⟨ps', hs, h2⟩ := k p W' hk
    exact i'.store hs r fun _ _ i'' => h2.run _ _ i'') hw)⟩
theorem Sx.appendN {pl : Sem Bool} {xe e : PySem.Expr} {ap p2 pos : Pos} {a : Addr} {x : AO} {K : PV → Led → Prop} (h1 : Ep c ps W xe (.ref a)) (hm : (a, x) ∈ W) (hx : ∃ l, x = .strs l ∨ ∃ l, x = .list l) (h2 : En c ps W e K)
    (k : ∀ p W1, K p W1 → ∃ x' W', AppOk x p x' ∧ UpdL a x x' W1 W' ∧ Sx c ps W' rest Φ E)
    (he : McOk c xe (Str.ofString "append") ap p2 [e] pl := by exact rfl)
    (hst : starEach [e] c.env = (false, eval e c.env) :: starEach [] c.env := by rfl) (hsw : swapsWith (.Call (.Attribute xe (Str.ofString "append") ap) [e] [] p2) Option.none pos.line c.env = pure false := by rfl) (hin : interactive c.env = false := by rfl) :
    Sx c ps W (.Expr (.Call (.Attribute xe (Str.ofString "append") ap) [e] [] p2) pos :: rest) Φ E := by
  refine ⟨fun h tk i => ?_⟩
  refine wpAny_execs_cons (wpAny_Expr_any (MethodCall_ (h1 _ _ _ _ i fun ov h' tk' r1 i1 => ?_) he) hin hsw)
  cases r1
  obtain ⟨m, news, hF, hN, hf, hl, nd⟩ := id i1
  obtain ⟨ob, g2, g1⟩ := lrep_get hl hm
  obtain ⟨its, n, rfl⟩ : ∃ its n, ob = PySem.W.listOf its n := by
    obtain ⟨l, e | ⟨l, e⟩⟩ := hx
    · subst e; obtain ⟨ys, n, e, _⟩ := g1; exact ⟨_, n, e⟩
    · subst e; obtain ⟨ys, n, e, _⟩ := g1; exact ⟨_, n, e⟩
  refine listMethod_K hN g2 PySem.F.slot_list_append PySem.F.type_list_append (callWith_method1 (args_cons (h2 _ _ _ _ i1 fun p W1 v h2' tk2 hk r2 i2 => args_nil ?_) hst) hst)
  obtain ⟨x', W', o, u, h3⟩ := k p W1 hk
  exact i2.app u o r2 fun h' tk' i' => h3.run _ _ i'
theorem Rets.retN {R : Heap → Value → Heap → Prop} {e : PySem.Expr} {pos : Pos} {K : PV → Led → Prop} (hE : Rets c R Φ) (h : En c ps W e K) (hR : ∀ p W' v h', K p W' → p.rep v → In c ps W' h' → R c.h₀ v h') : Sx c ps W (.Return (some e) pos :: rest) Φ E :=
  ⟨fun _ _ i => wpAny_execs_cons (wpAny_Return_some (h _ _ _ _ i fun p W' v h' _ hk r i' => by
    obtain ⟨_, _, hF, _⟩ := id i'
    exact hE v h' _ hF.keep (hR p W' v h' hk r i')))⟩
end
end
section
open PySem PySem.W PySem.Calls PyProof.Rows
theorem At.n0 {x0 : Str} {p0 : PV} {ks : List Str} {ps : List PV} : At (x0 :: ks) (p0 :: ps) x0 p0 := .here
theorem At.n1 {x0 x : Str} {p0 p : PV} {ks : List Str} {ps : List PV} : At (x0 :: x :: ks) (p0 :: p :: ps) x p := .there .here
theorem At.n2 {x0 x1 x : Str} {p0 p1 p : PV} {ks : List Str} {ps : List PV} : At (x0 :: x1 :: x :: ks) (p0 :: p1 :: p :: ps) x p := .there .n1
theorem At.n3 {x0 x1 x2 x : Str} {p0 p1 p2 p : PV} {ks : List Str} {ps : List PV} : At (x0 :: x1 :: x2 :: x :: ks) (p0 :: p1 :: p2 :: p :: ps) x p := .there .n2
theorem At.n4 {x0 x1 x2 x3 x : Str} {p0 p1 p2 p3 p : PV} {ks : List Str} {ps : List PV} : At (x0 :: x1 :: x2 :: x3 :: x :: ks) (p0 :: p1 :: p2 :: p3 :: p :: ps) x p := .there .n3
theorem SetAt.n0 {x : Str} {q p : PV} {ks : List Str} {ps : List PV} : SetAt (x :: ks) (q :: ps) x p (p :: ps) := .here
theorem SetAt.n1 {x0 x : Str} {p0 q p : PV} {ks : List Str} {ps : List PV} : SetAt (x0 :: x :: ks) (p0 :: q :: ps) x p (p0 :: p :: ps) := .there .here
theorem SetAt.n2 {x0 x1 x : Str} {p0 p1 q p : PV} {ks : List Str} {ps : List PV} : SetAt (x0 :: x1 :: x :: ks) (p0 :: p1 :: q :: ps) x p (p0 :: p1 :: p :: ps) := .there .n1
theorem SetAt.n3 {x0 x1 x2 x : Str} {p0 p1 p2 q p : PV} {ks : List Str} {ps : List PV} : SetAt (x0 :: x1 :: x2 :: x :: ks) (p0 :: p1 :: p2 :: q :: ps) x p (p0 :: p1 :: p2 :: p :: ps) := .there .n2
theorem SetAt.n4 {x0 x1 x2 x3 x : Str} {p0 p1 p2 p3 q p : PV} {ks : List Str} {ps : List PV} : SetAt (x0 :: x1 :: x2 :: x3 :: x :: ks) (p0 :: p1 :: p2 :: p3 :: q :: ps) x p (p0 :: p1 :: p2 :: p3 :: p :: ps) := .there .n3
theorem lrep_perm {W W' : Led} (p : W.Perm W') : ∀ {news : List (Addr × Obj)}, lrep W news → ∃ news', lrep W' news' ∧ ∀ x ∈ news', x ∈ news := by
  induction p with
  | nil => exact fun l => ⟨_, l, fun _ h => h⟩
  | cons a _ ih =>
    intro news l
    cases news with
    | nil => exact l.elim
    | cons n news =>
      obtain ⟨n', l', h'⟩ := ih l.2
      exact ⟨n :: n', ⟨l.1, l'⟩, fun x hx => by
        cases hx with
        | head => exact .head _
        | tail _ hx => exact .tail _ (h' x hx)⟩
  | swap a b r =>
    intro news l
    match news, l with
    | n1 :: n2 :: news, l =>
      exact ⟨n2 :: n1 :: news, ⟨l.2.1, l.1, l.2.2⟩, fun x hx => by
        cases hx with
        | head => exact .tail _ (.head _)
        | tail _ hx => cases hx with
          | head => exact .head _
          | tail _ hx => exact .tail _ (.tail _ hx)⟩
    | [], l => exact l.elim
    | [_], l => exact l.2.elim
  | trans _ _ i1 i2 =>
    intro news l
    obtain ⟨n1, l1, h1⟩ := i1 l
    obtain ⟨n2, l2, h2⟩ := i2 l1
    exact ⟨n2, l2, fun x hx => h1 x (h2 x hx)⟩
section
variable {F : FI} {N : Nat} {c : Cx F N} {ps : List PV} {W : Led} {Φ : Flow → Shared → Prop} {E : Value → Shared → Prop} {rest : List Stmt}
theorem In.perm {W' : Led} {h : Heap} (p : W.Perm W') (i : In c ps W h) : In c ps W' h := by
  obtain ⟨m, news, hF, hN, hf, hl, nd⟩ := i
  obtain ⟨n', l', h'⟩ := lrep_perm p hl
  exact ⟨m, n', hF, fun x hx => hN x (h' x hx), hf, l', (p.map _).nodup_iff.mp nd⟩
theorem Sx.perm {W' : Led} {body : List Stmt} (p : W.Perm W') (h : Sx c ps W' body Φ E) : Sx c ps W body Φ E := ⟨fun _ _ i => h.run _ _ (i.perm p)⟩
theorem Sx.ifte0 {e : PySem.Expr} {th el : List Stmt} {pos : Pos} {b : Bool} (h : Et c ps W e b) (h1 : b = true → Sx c ps W th Φ E) (h2 : b = false → Sx c ps W el Φ E) : Sx c ps W [.If e th el pos] Φ E := by
  refine ⟨fun hp tk i => ?_⟩
  refine wpAny_execs_cons (wpAny_If (h _ _ _ _ _ rfl i fun h' tk' i' => ?_))
  have nx : ∀ b' : List Stmt, Sx c ps W b' Φ E → wpAny c.M c.A (execs b' c.env) (fun f s' => match f with | .next => wpAny c.M c.A (execs [] c.env) Φ E s' | f => Φ f s') E (c.st h' tk') := fun b' hb => by
    refine wpAny_mono (hb.run _ _ i') (fun f s' hf => ?_) fun _ _ e => e
    cases f with
    | next => exact wpAny_execs_nil hf
    | _ => exact hf
  cases b with
  | true => rw [if_pos rfl]; exact nx _ (h1 rfl)
  | false => rw [if_neg (by decide)]; exact nx _ (h2 rfl)
theorem En.row {e : PySem.Expr} {p2 pos : Pos} {k : Str} (h : Ep c ps W e (.str k)) (hs : starEach [e, .List [] p2] c.env = (false, eval e c.env) :: starEach [.List [] p2] c.env := by rfl) :
    En c ps W (.List [e, .List [] p2] pos) (fun p W' => ∃ r s, p = .ref r ∧ W' = (r, .list [.str k, .ref s]) :: (s, .strs []) :: W) := by
  intro hh tk Q E i hq
  refine List_ (args_cons (h _ _ _ _ i fun v h' tk' r1 i1 => args_cons (e := .List [] p2) (En.list0 _ _ _ _ i1 fun p W' u h2 tk2 hk r2 i2 => args_nil ?_) rfl) hs)
  obtain ⟨s, rfl, rfl⟩ := hk
  exact i2.newL (o := .list [.str k, .ref s]) ⟨_, 0, rfl, r1, r2, trivial⟩ (by simp) fun a h3 tk3 i3 => hq _ _ _ _ _ ⟨a, s, rfl, rfl⟩ rfl i3
end
end
section
open PySem PySem.W PySem.Calls PyProof.Rows
theorem md_slot_get : Slot "method_descriptor" "__get__" "method_descriptor.__get__" :=
  .of (owner := "method_descriptor") (n := "__get__") (by rw [typeLookup_type, builtinLookup_eq_fast]; kernel_rfl) (by decide +kernel) (by decide +kernel) (by decide +kernel)
    (by first | exact .inl (by decide +kernel) | exact .inr (by decide +kernel)) (by rw [isSubtype_type]; kernel_rfl)
theorem md_no_set : typeLookup (.type "method_descriptor") "__set__" = pure none := by rw [typeLookup_type, builtinLookup_eq_fast]; kernel_rfl
theorem md_no_del : typeLookup (.type "method_descriptor") "__delete__" = pure none := by rw [typeLookup_type, builtinLookup_eq_fast]; kernel_rfl
theorem md_entry_get : entryFor table "method_descriptor.__get__" = some Builtin.«method_descriptor.__get__» := entryFor_of_tree (by kernel_rfl)
theorem md_args_get (a b c : Value) : argsOk "method_descriptor.__get__" ⟨[a, b, c], []⟩ := by unfold argsOk; kernel_rfl
theorem sub_list_list : isSubtype (.type "list") (.type "list") = pure true := by rw [isSubtype_type]; kernel_rfl
theorem lk_list_append : typeLookup (.type "list") "append" = pure (some (.builtin "list.append")) := by rw [typeLookup_type, builtinLookup_eq_fast]; kernel_rfl
theorem is_type_list : isType (.type "list") = pure true := by first | rfl | kernel_rfl | (unfold isType; rw [isSubtype_type]; kernel_rfl)
theorem sub_list_owner : isSubtype (.type "list") (.type (".".intercalate ("list.append".cutAt '.').dropLast)) = pure true := by
  have e0 : "list.append".cutAt '.' = ["list", "append"] := by first | rfl | decide +kernel
  have e1 : (".".intercalate ("list.append".cutAt '.').dropLast) = "list" := by rw [e0]; decide +kernel
  rw [e1, isSubtype_type]; kernel_rfl
noncomputable def bapp (l : Addr) : Obj := { cls := .type "builtin_function_or_method", data := .fields #[.builtin "list.append", .ref l] }
section
variable {prog : Program} {w : World} {M : Model} {A : Around} {E : Value → Shared → Prop} {s : Shared}
theorem run_md_get {l : Addr} {o : Obj} {P : Fin → Shared → Prop} (hl : s.heap.get? l = some o) (hc : o.cls = .type "list") (h : P (.done (.ret (.ref s.heap.objs.size))) { s with heap := s.heap.push (bapp l) }) :
    wpAny (model prog w) A (Builtin.«method_descriptor.__get__» ⟨[.builtin "list.append", .ref l, .type "list"], []⟩) P E s := by
  have hT : s.TypeIs (.ref l) "list" := ⟨_, hl, hc⟩
  have f1 := is_type_list
  have f2 := sub_list_list
  have f3 := sub_list_owner
  repeat (any_goals (first | assumption | wp_step))
theorem md_get {l : Addr} {o : Obj} {R : Result → Shared → Prop} (hl : s.heap.get? l = some o) (hc : o.cls = .type "list") (h : R (.ok (.ret (.ref s.heap.objs.size))) { s with heap := s.heap.push (bapp l) }) :
    codeAny (model prog w) A (.call (.builtin "method_descriptor.__get__") ⟨[.builtin "list.append", .ref l, .type "list"], []⟩) R s := by
  have hT5 : s.TypeIs (.builtin "list.append") "method_descriptor" := PySem.F.type_list_append
  exact codeAny_call_builtin md_slot_get.plain md_entry_get (md_slot_get.check _ _ _ _ _ _ _ _ hT5 (md_args_get _ _ _) (run_md_get hl hc h))
theorem ga_entry_append {l : Addr} {xs : Array Value} {n : Nat} {tk : Tok} {Q : Fin → Shared → Prop} (hx : s.heap.get? l = some { cls := .type "list", data := .seq xs n }) (hq : Q (.done (.ret (.ref s.heap.objs.size))) { s with heap := s.heap.push (bapp l) }) :
    wpAny (model prog w) A (Builtin.«object.__getattribute__» ⟨[.ref l, .str "append" tk], []⟩) Q E s := by
  have hT : s.TypeIs (.ref l) "list" := ⟨_, hx, rfl⟩
  have hT5 : s.TypeIs (.builtin "list.append") "method_descriptor" := PySem.F.type_list_append
  have f4 := lk_list_append
  have f5 := PySem.F.type_list_append
  have f6 := md_slot_get.lookup
  have f7 := md_no_set
  have f8 := md_no_del
  repeat (any_goals (first | assumption | wp_step))
  refine md_get hx rfl ?_
  repeat (any_goals (first | assumption | wp_step))
theorem ga_call_append {l : Addr} {xs : Array Value} {n : Nat} {tk : Tok} {R : Result → Shared → Prop} (hx : s.heap.get? l = some { cls := .type "list", data := .seq xs n }) (hq : R (.ok (.ret (.ref s.heap.objs.size))) { s with heap := s.heap.push (bapp l) }) :
    codeAny (model prog w) A (.call (.builtin "list.__getattribute__") ⟨[.ref l, .str "append" tk], []⟩) R s :=
  codeAny_call_builtin PySem.F.slot_list_getattribute.plain PySem.F.entry_list_ga (PySem.F.slot_list_getattribute.check _ _ _ _ _ _ _ _ (show s.TypeIs (.ref l) "list" from ⟨_, hx, rfl⟩) (PySem.F.args_list_getattribute_2 _ _) (ga_entry_append hx hq))
theorem getAttr_append {l : Addr} {xs : Array Value} {n : Nat} {b : Bool} {Q : Value → Shared → Prop} (hx : s.heap.get? l = some { cls := .type "list", data := .seq xs n }) (hq : ∀ tk, Q (.ref s.heap.objs.size) { s with heap := s.heap.push (bapp l), toks := tk }) :
    wpAny (model prog w) A (getAttr (.ref l) "append" b) Q E s := by
  have hT : s.TypeIs (.ref l) "list" := ⟨_, hx, rfl⟩
  have f2 := PySem.F.slot_list_getattribute.lookup
  have f3 := PySem.F.slot_list_getattribute.bind (.ref l)
  unfold getAttr
  repeat (any_goals (first | assumption | wp_step))
  rw [show (b && onTheHeap (.builtin "list.__getattribute__")) = false by cases b <;> rfl]
  repeat (any_goals (first | assumption | wp_step))
  refine ga_call_append hx ?_
  repeat (any_goals (first | assumption | wp_step))
  exact hq _
theorem sub_list_module : isSubtype (.type "list") (.type "module") = pure false := by rw [isSubtype_type]; kernel_rfl
theorem sub_list_type : isSubtype (.type "list") (.type "type") = pure false := by rw [isSubtype_type]; kernel_rfl
theorem entry_la : entryFor table "list.append" = some Builtin.«list.append» := PySem.F.entry_list_append
theorem check_la {l : Addr} {v : Value} {s : Shared} {Q : Unit → Shared → Prop} {xs : Array Value} {n : Nat} (hx : s.heap.get? l = some { cls := .type "list", data := .seq xs n }) (h : Q () s) : wpAny (model prog w) A (checkBoundCall "list.append" ⟨[.ref l, v], []⟩) Q E s := by
  have hT : s.TypeIs (.ref l) "list" := ⟨_, hx, rfl⟩
  have f1 := sub_list_module
  have f2 := sub_list_type
  unfold checkBoundCall
  repeat (any_goals (first | assumption | wp_step))
section
variable {h₀ : Heap} {L : Addr} {m : PySem.Str → Option Value} {news news' : List (Addr × Obj)} {b l : Addr} {its : Array Value} {n : Nat} {x : Value}
theorem getAttr_append_K {ex : Bool} {Q : Value → Shared → Prop} (F : Fr h₀ L s.heap m) (N : News h₀ L s.heap news) (hm : (l, listOf its n) ∈ news)
    (h : ∀ b h' tk, Fr h₀ L h' m → News h₀ L h' ((b, bapp l) :: news) → (∀ p ∈ news, p.1 < b) → Q (.ref b) { s with heap := h', toks := tk }) :
    wpAny (model prog w) A (getAttr (.ref l) "append" ex) Q E s :=
  getAttr_append (N _ hm).1 fun tk => h _ _ tk (F.push _) (News.push F N _) fun p hp => Heap.lt_size (N p hp).1
noncomputable def BaAt (b l : Addr) (h : Heap) : Prop := h.get? b = some (bapp l)
theorem ba_at {h : Heap} (N : News h₀ L h news) (hm : (b, bapp l) ∈ news) : BaAt b l h := (N _ hm).1
theorem callWith_ba0 {pos : Pos} {first : List Value} {args : List (Bool × Sem Value)} {Q : Value → Shared → Prop} (hplain : args.any (·.1) = false)
    (h : wpAny M A (evalArgs (.ref b) true args []) (fun x s₁ => BaAt b l s₁.heap ∧ wpAny M A (call (.ref b) (first ++ x.pos) x.kw) Q E s₁) E s) : wpAny M A (callWith pos (.ref b) first args []) Q E s := by
  unfold callWith
  refine wpAny_bind (wpAny_holding (wpAny_mono h (fun x s₁ h₁ => wpAny_bind (wpAny_standAt ?_)) fun _ _ x => x))
  obtain ⟨ho, hcall⟩ := h₁
  simp only [hplain, List.any_nil, Bool.or_false]
  refine wpAny_bind (m := keeperOf (.ref b)) ?_
  unfold keeperOf
  refine wpAny_bind (wpAny_load ho ?_)
  simp only [bapp, show (Value.type "builtin_function_or_method" != Value.type "method") = true by decide, show (Value.type "builtin_function_or_method" == Value.type "builtin_function_or_method" || Value.type "builtin_function_or_method" == Value.type "method-wrapper") = true by decide, if_true]
  refine wpAny_pure ?_
  exact wpAny_bind (wpAny_mono hcall (fun r s₂ hr => wpAny_bind (wpAny_holding (wpAny_point (wpAny_pure hr)))) fun _ _ x => x)
theorem callWith_ba {pos : Pos} {first : List Value} {env : Env} {e : PySem.Expr} {rest : List PySem.Expr} {Q : Value → Shared → Prop} (_N : News h₀ L s.heap news) (_hm : (b, bapp l) ∈ news)
    (h : wpAny M A (spliced (backTo pos (starEach (e :: rest) env))) (fun vs s₁ => BaAt b l s₁.heap ∧ wpAny M A (call (.ref b) (first ++ vs)) Q E s₁) E s)
    (he : starEach (e :: rest) env = (false, eval e env) :: starEach rest env := by rfl) (hplain : (backTo pos (starEach rest env)).any (·.1) = false := by rfl) :
    wpAny M A (callWith pos (.ref b) first (backTo pos (starEach (e :: rest) env)) []) Q E s := by
  rw [he] at h ⊢
  refine callWith_ba0 (l := l) (by show (false || (backTo pos (starEach rest env)).any (·.1)) = false; rw [hplain]; rfl) ?_
  exact evalArgs_plain h
theorem quiet_la {as : Args} : (Code.builtin "list.append" as).quiet = true := Code.quiet_builtin _ (by decide +kernel)
theorem call_ba {Q : Value → Shared → Prop} (F : Fr h₀ L s.heap m) (N : News h₀ L s.heap news) (hm : (b, bapp l) ∈ news) (U : Upd l (listOf its n) (listOf (its.push x) (n + 1)) news news')
    (h : ∀ h', Fr h₀ L h' m → News h₀ L h' news' → Q .none { s with heap := h' }) (hsz : its.size ≤ sizeLine := by size_fits) : wpAny (model prog w) A (call (.ref b) [x]) Q E s := by
  obtain ⟨pre, post, rfl, rfl, a, b'⟩ := U.split
  have z := N (l, listOf its n) (List.mem_append.mpr (.inr (.head _)))
  refine wpAny_call (codeAny_of_tree ?_)
  show wpAny _ A.in1 (callAny (.ref b) ⟨[x], []⟩) _ _ s
  simp only [callAny]
  refine wpAny_bind (wpAny_load (N _ hm).1 ?_)
  simp only [bapp, show (Value.type "builtin_function_or_method" == Value.type "method" || Value.type "builtin_function_or_method" == Value.type "builtin_function_or_method" || Value.type "builtin_function_or_method" == Value.type "method-wrapper") = true by decide, if_true]
  refine KFB.if_so (by decide) ?_
  refine wpAny_bind (check_la z.1 ?_)
  refine wpAny_bind (wpAny_pure (wpAny_pure ?_))
  refine ⟨quiet_la, codeAny_builtin entry_la ?_⟩
  show wpAny _ _ (updateSeq l (·.push x) >>= fun _ => ret .none) _ _ s
  refine wpAny_bind ?_
  have ho' : (s.heap.update l (Obj.mapSeq (·.push x))).get? l = some (listOf (its.push x) (n + 1)) := by
    rw [Heap.get?_update_self _ z.1 (by rw [mapSeq_push]; rfl), mapSeq_push]
  exact wpAny_updateSeq z.1 rfl (wpAny_pure (h _ (F.change (Heap.SameBut.update ..) z.2.1 z.2.2) (news_set N a b' (Heap.SameBut.update ..) ho')))
end
end
end
section
open PySem PySem.W PySem.Calls PyProof.Rows
theorem CmpOk.isNot_str {x : Str} {a : Addr} : CmpOk .IsNot (.str x) (.ref a) true := by
  rintro w A s u v Q E ⟨t, rfl⟩ rfl hq
  exact wpAny_isNot_other rfl (fun h => by cases h) (hq _)
theorem CmpOk.isNot_self {a : Addr} : CmpOk .IsNot (.ref a) (.ref a) false := by
  rintro w A s u v Q E rfl rfl hq
  exact wpAny_isNot_ref_self (hq _)
theorem CmpOk.is_self {a : Addr} : CmpOk .Is (.ref a) (.ref a) true := by
  rintro w A s u v Q E rfl rfl hq
  exact wpAny_is_ref_self (hq _)
theorem At.n5 {x0 x1 x2 x3 x4 x : Str} {p0 p1 p2 p3 p4 p : PV} {ks : List Str} {ps : List PV} : At (x0 :: x1 :: x2 :: x3 :: x4 :: x :: ks) (p0 :: p1 :: p2 :: p3 :: p4 :: p :: ps) x p := .there .n4
theorem At.n6 {x0 x1 x2 x3 x4 x5 x : Str} {p0 p1 p2 p3 p4 p5 p : PV} {ks : List Str} {ps : List PV} : At (x0 :: x1 :: x2 :: x3 :: x4 :: x5 :: x :: ks) (p0 :: p1 :: p2 :: p3 :: p4 :: p5 :: p :: ps) x p := .there .n5
theorem SetAt.n5 {x0 x1 x2 x3 x4 x : Str} {p0 p1 p2 p3 p4 q p : PV} {ks : List Str} {ps : List PV} : SetAt (x0 :: x1 :: x2 :: x3 :: x4 :: x :: ks) (p0 :: p1 :: p2 :: p3 :: p4 :: q :: ps) x p (p0 :: p1 :: p2 :: p3 :: p4 :: p :: ps) := .there .n4
theorem SetAt.n6 {x0 x1 x2 x3 x4 x5 x : Str} {p0 p1 p2 p3 p4 p5 q p : PV} {ks : List Str} {ps : List PV} : SetAt (x0 :: x1 :: x2 :: x3 :: x4 :: x5 :: x :: ks) (p0 :: p1 :: p2 :: p3 :: p4 :: p5 :: q :: ps) x p (p0 :: p1 :: p2 :: p3 :: p4 :: p5 :: p :: ps) := .there .n5
section
variable {F : FI} {N : Nat} {c : Cx F N} {ps : List PV} {W : Led} {Φ : Flow → Shared → Prop} {E : Value → Shared → Prop} {rest : List Stmt}
theorem In.base {l : Addr} {vs : Array Value} {h : Heap} (i : In c ps W h) (hb : c.h₀.IsList l vs) : h.IsList l vs := by
  obtain ⟨m, news, hF, hN, hf, hl, nd⟩ := i
  exact hb.at fun o e => hF.keep l o e
theorem Ep.itemB {v i : PySem.Expr} {pos : Pos} {a : Addr} {vs : List Value} {k : Int} {q : PV} {u : Value} (h1 : Ep c ps W v (.ref a)) (h2 : Ep c ps W i (.int k)) (hb : c.h₀.IsList a vs.toArray) (h0 : 0 ≤ k) (hk : k < 1000000) (hx : vs[k.toNat]? = some u) (hu : q.rep u)
    (hs : ∀ t, subscripted i false (.ref a) (.int k t) = operate [.ref a, .int k t] (getItem (.ref a) (.int k t)) := by intro _; rfl) :
    Ep c ps W (.Subscript v i pos) q := by
  intro h tk Q E j hq
  refine Subscript_ (h1 _ _ _ _ j fun o' h' tk' r1 i1 => h2 _ _ _ _ i1 fun k' h2' tk2 r2 i2 => ?_)
  cases r1
  obtain ⟨t, rfl⟩ := r2
  have hl : (c.st h2' tk2).heap.IsList a vs.toArray := i2.base hb
  exact tail_any hl.typeIs PySem.F.slot_list_getitem.lookup (wpAny_getItem_list hl h0 (by lia) (by simpa using hx) (hq _ _ _ hu i2)) (hs t)
theorem FunOk.lenB {a : Addr} {vs : List Value} (hb : c.h₀.IsList a vs.toArray) (hn : vs.length ≤ 1000000) : FunOk c ps W "len" [.ref a] (.int vs.length) := by
  intro hh tk ws Q E i hr hq
  obtain ⟨v, rfl, rfl⟩ := reps1 hr
  exact PyProof.Rows.len_list (s := c.st hh tk) (i.base hb) (by rw [List.size_toArray]; lia) (hq _ _ _ ⟨_, by rw [List.size_toArray]⟩ i)
theorem FunOk.lenS {a : Addr} {l : List Str} (hm : (a, AO.strs l) ∈ W) (hn : l.length ≤ 1000000) : FunOk c ps W "len" [.ref a] (.int l.length) := by
  intro hh tk ws Q E i hr hq
  obtain ⟨v, rfl, rfl⟩ := reps1 hr
  obtain ⟨ob, g1, ys, n, rfl, rfl⟩ := i.get hm
  rw [List.length_map] at hn
  exact PyProof.Rows.len_list (s := c.st hh tk) (items := (strValues ys).toArray) ⟨_, g1, rfl, n, rfl⟩ (by rw [List.size_toArray]; unfold strValues; rw [List.length_map]; lia) (hq _ _ _ ⟨_, congrArg (fun n : Nat => Value.int n _) (by rw [List.size_toArray]; unfold strValues; rw [List.length_map, List.length_map])⟩ i)
theorem sm_join : SM (Str.ofString "join") "str.join" := fun M A E s x t pl Q h => GM.join h
theorem FunOk.join {a : Addr} {l : List Str} {x : Str} (hm : (a, AO.strs l) ∈ W) (hl : Light l) (hx : x.length ≤ 16) : FunOk c ps W "str.join" [.str x, .ref a] (.str (Txt.join x l)) := by
  intro hh tk ws Q E i hr hq
  obtain ⟨v, u, rfl, ⟨t, rfl⟩, rfl⟩ := reps2 hr
  obtain ⟨ob, g1, ys, n, rfl, rfl⟩ := i.get hm
  exact join_strs (s := c.st hh tk) ⟨_, g1, rfl, n, rfl⟩ hl hx fun t' k => hq _ _ _ ⟨_, rfl⟩ i
theorem Sx.brk {σ : Type} {psf : σ → List PV} {Wf : σ → Led} {J : σ → Prop} {mu : σ → Nat} {n : Nat} {r2 : List Stmt} {pos : Pos} (h : Sx c ps W rest Φ E) : Sx c ps W (.Break pos :: r2) (Lp c psf Wf J mu n rest Φ E) E :=
  ⟨fun _ _ i => wpAny_execs_cons (wpAny_Break (h.run _ _ i))⟩
theorem Sx.brkS {σ : Type} {psf : σ → List PV} {Wf : σ → Led} {J : σ → Prop} {mu : σ → Nat} {n : Nat} {r2 r3 : List Stmt} {pos : Pos} (h : Sx c ps W rest Φ E) : Sx c ps W (.Break pos :: r2) (Seq c r3 (Lp c psf Wf J mu n rest Φ E) E) E :=
  ⟨fun _ _ i => wpAny_execs_cons (wpAny_Break (h.run _ _ i))⟩
theorem Sx.asrt {e : PySem.Expr} {pos : Pos} (h : Et c ps W e true) (k : Sx c ps W rest Φ E) : Sx c ps W (.Assert e Option.none pos :: rest) Φ E :=
  ⟨fun _ _ i => wpAny_execs_cons (wpAny_Assert_new c.hh (h _ _ _ _ _ rfl i fun _ _ i' => by rw [if_pos rfl]; exact k.run _ _ i'))⟩
theorem Ea.bound {x : Str} {xp pos : Pos} {a : Addr} {o : AO} (hx : At F.locals ps x (.ref a)) (hm : (a, o) ∈ W) (ho : ∃ l, o = .strs l ∨ ∃ l, o = .list l)
    (he : eval (.Attribute (.Name x xp) (Str.ofString "append") pos) c.env = (do
      let o ← eval (.Name x xp) c.env
      standAt (Pos.atName pos)
      let r ← holding [o] (getAttr o (Str.ofString "append") true)
      letTemporaryGo (.Name x xp) o r
      pure r) := by exact rfl) : Ea c ps W (.Attribute (.Name x xp) (Str.ofString "append") pos) (.obj (bapp a)) := by
  intro h tk Q E i hq
  refine Attribute_Name_ (Ep.name hx (by nofun) _ _ _ _ i fun v h' tk' r i' => ?_) he
  cases r
  obtain ⟨m, news, hF, hN, hf, hl, nd⟩ := _root_.id i'
  obtain ⟨ob, g2, g1⟩ := lrep_get hl hm
  obtain ⟨its, n, rfl⟩ : ∃ its n, ob = PySem.W.listOf its n := by
    obtain ⟨l, e | ⟨l, e⟩⟩ := ho
    · subst e; obtain ⟨ys, n, e, _⟩ := g1; exact ⟨_, n, e⟩
    · subst e; obtain ⟨ys, n, e, _⟩ := g1; exact ⟨_, n, e⟩
  refine getAttr_append_K hF hN g2 fun b h2 tk2 F' N' lt => hq _ _ _ ⟨m, _, F', N', hf, ⟨⟨rfl, rfl⟩, hl⟩, ?_⟩
  rw [List.map_cons, List.nodup_cons]
  refine ⟨fun hm => ?_, nd⟩
  rw [lrep_map hl] at hm
  obtain ⟨q, hq, e⟩ := List.mem_map.mp hm
  exact absurd (lt q hq) (by rw [e]; exact Nat.lt_irrefl _)
theorem Sx.add {y : Str} {yp pos2 pos : Pos} {e : PySem.Expr} {a b : Addr} {o o' : AO} {p : PV} {W' : Led} (hy : At F.locals ps y (.ref b)) (hb : (b, AO.obj (bapp a)) ∈ W) (h : Ep c ps W e p) (u : UpdL a o o' W W') (ao : AppOk o p o') (k : Sx c ps W' rest Φ E)
    (he : CallEq c (.Name y yp) [e] pos2 := by exact rfl) (hst : starEach [e] c.env = (false, eval e c.env) :: starEach [] c.env := by rfl) (hsw : swapsWith (.Call (.Name y yp) [e] [] pos2) Option.none pos.line c.env = pure false := by rfl) (hin : interactive c.env = false := by rfl) :
    Sx c ps W (.Expr (.Call (.Name y yp) [e] [] pos2) pos :: rest) Φ E := by
  refine ⟨fun hh tk i => ?_⟩
  refine wpAny_execs_cons (wpAny_Expr_any (Call_ (Ep.name hy (by nofun) _ _ _ _ i fun v h' tk' r i1 => ?_) he) hin hsw)
  cases r
  obtain ⟨m, news, hF, hN, hf, hl, nd⟩ := _root_.id i1
  obtain ⟨ob, g2, g1⟩ := lrep_get hl hb
  cases g1
  refine callWith_ba hN g2 (args_cons (h _ _ _ _ i1 fun v h2 tk2 r2 i2 => args_nil ⟨?_, ?_⟩) hst) hst
  · obtain ⟨ob', g3, g4⟩ := i2.get hb
    cases g4
    exact g3
  · obtain ⟨m2, news2, F2, N2, f2, l2, n2⟩ := i2
    obtain ⟨ob2, b1, b2, b3⟩ := u.upd n2 l2
    obtain ⟨its, n, rfl, hs, b4⟩ := ao ob2 v b1 r2
    obtain ⟨news', U, l'⟩ := b3 _ b4
    obtain ⟨ob3, g5, g6⟩ := lrep_get l2 hb
    cases g6
    exact call_ba (hsz := hs) F2 N2 g5 U fun h' F' N' => k.run _ _ ⟨m2, news', F', N', f2, l', by rw [u.fst.1]; exact n2⟩
theorem Sx.assign2 {x y : Str} {px py pt pv pos : Pos} {k1 k2 : Nat} {e1 e2 : PySem.Expr} {p q : PV} {ps1 ps2 : List PV} (h1 : Ep c ps W e1 p) (h2 : Ep c ps W e2 q) (s1 : SetAt F.locals ps y q ps1) (s2 : SetAt F.locals ps1 x p ps2) (k : Sx c ps2 W rest Φ E)
    (hw : swapsWithSole [.Tuple [.Name x px, .Name y py] k1 pt] (.Tuple [e1, e2] k2 pv) pos.line c.env = pure false := by rfl) (hn : swappedStores [.Tuple [.Name x px, .Name y py] k1 pt] (.Tuple [e1, e2] k2 pv) c.env = pure (some [x, y]) := by rfl)
    (hs1 : starEach [e1, e2] c.env = (false, eval e1 c.env) :: starEach [e2] c.env := by rfl) (hs2 : starEach [e2] c.env = (false, eval e2 c.env) :: starEach [] c.env := by rfl) :
    Sx c ps W (.Assign [.Tuple [.Name x px, .Name y py] k1 pt] (.Tuple [e1, e2] k2 pv) pos :: rest) Φ E := by
  refine ⟨fun hh tk i => ?_⟩
  refine wpAny_execs_cons (Assign_Tuple_swapped (Tuple_ (args_cons (h1 _ _ _ _ i fun v h' tk' r1 i1 => args_cons (h2 _ _ _ _ i1 fun u h2' tk2 r2 i2 => args_nil ?_) hs2) hs1)) hw hn)
  obtain ⟨m, news, hF, hN, hf, hl, nd⟩ := i2
  refine newTuple_N (hsz := by rw [sizeLine_eq]; exact Nat.le_of_ble_eq_true rfl) hF hN fun h3 F3 N3 => unpackItemsN_ (items := #[v, u]) F3 N3 ⟨_, (N3 _ (.head _)).1, rfl, _, rfl⟩ c.hh rfl fun h4 F4 N4 => ?_
  have i4 : In c ps W h4 := ⟨m, news, F4, fun z hz => N4 z (.tail _ hz), hf, hl, nd⟩
  exact assignInOrder_cons (bindName_ (i4.store s1 r2 fun _ _ i5 => assignInOrder_cons (bindName_ (i5.store s2 r1 fun _ _ i6 => assignInOrder_nil (k.run _ _ i6)))))
noncomputable def Ej (c : Cx F N) (ps : List PV) (W : Led) (out : Str) (es : List PySem.Expr) (x : Str) : Prop :=
  ∀ (h : Heap) (tk : Nat) (Q E : Value → Shared → Prop), In c ps W h → (∀ v h' tk', PV.rep (.str x) v → In c ps W h' → Q v (c.st h' tk')) → wpAny c.M c.A (joinParts out (evalEach es c.env)) Q E (c.st h tk)
theorem Ej.nil {out : Str} (ho : out.length ≤ sizeLine) : Ej c ps W out [] out := fun _ _ _ _ i hq => joinParts_nil (hq _ _ _ ⟨_, rfl⟩ i) ho
theorem Ej.cons {out y x : Str} {e : PySem.Expr} {es : List PySem.Expr} (h : Ep c ps W e (.str y)) (hs : (out ++ y).length ≤ sizeLine) (k : Ej c ps W (out ++ y) es x) : Ej c ps W out (e :: es) x :=
  fun _ _ _ _ i hq => joinParts_consE (joinParts_cons (h _ _ _ _ i fun v h' tk' r i' => by obtain ⟨t, rfl⟩ := r; exact ⟨hs, k _ _ _ _ i' hq⟩))
theorem Ep.fmt {e : PySem.Expr} {pos : Pos} {x : Str} (h : Ep c ps W e (.str x)) (hx : x.length ≤ sizeLine) : Ep c ps W (.FormattedValue e (-1) Option.none pos) (.str x) := by
  intro hh tk Q E i hq
  refine FormattedValue_plain (h _ _ _ _ i fun v h' tk' r i' => ?_)
  obtain ⟨t, rfl⟩ := r
  exact formatField_str (fun t' tk => hq _ _ _ ⟨_, rfl⟩ i') hx
theorem Ep.fstr {e1 e2 : PySem.Expr} {es : List PySem.Expr} {pos : Pos} {x : Str} (h : Ej c ps W Str.empty (e1 :: e2 :: es) x) : Ep c ps W (.JoinedStr (e1 :: e2 :: es) pos) (.str x) :=
  fun _ _ _ _ i hq => JoinedStr_many (h _ _ _ _ i hq)
theorem Sx.weak {x : Addr × AO} {body : List Stmt} (h : Sx c ps W body Φ E) : Sx c ps (x :: W) body Φ E := ⟨fun _ _ i => h.run _ _ i.weak⟩
theorem Et.cast {e : PySem.Expr} {b b' : Bool} (h : Et c ps W e b) (hb : b = b') : Et c ps W e b' := hb ▸ h
end
end
section
open PySem PySem.W PySem.Calls PyProof.Rows
theorem split_len (x y : Str) : (Txt.split x y).length ≤ x.length + 2 := by
  have := len_le_of_split (l := (Txt.split x y).map fun a => (a, 0)) (x := x) (y := y) (by rw [List.map_map]; exact List.map_id _)
  rwa [List.length_map] at this
section
variable {F : FI} {N : Nat} {c : Cx F N} {ps : List PV} {W : Led} {Φ : Flow → Shared → Prop} {E : Value → Shared → Prop} {rest : List Stmt}
noncomputable def Fp (c : Cx F N) {σ : Type} (psf : σ → List PV) (Wf : σ → Led) (J : σ → Prop) (own : Led) (rest : List Stmt) (Φ : Flow → Shared → Prop) (E : Value → Shared → Prop) (f : Flow) (s' : Shared) : Prop :=
  match f with
  | .next | .cont => ∃ st h tk, s' = c.st h tk ∧ In c (psf st) (own ++ Wf st) h ∧ J st
  | .brk => wpAny c.M c.A (execs rest c.env) Φ E s'
  | .ret v => Φ (.ret v) s'
theorem Sx.fp {σ : Type} {psf : σ → List PV} {Wf : σ → Led} {J : σ → Prop} {own : Led} (st : σ) (hp : ps = psf st) (hW : W = own ++ Wf st) (hJ : J st) : Sx c ps W [] (Fp c psf Wf J own rest Φ E) E := by
  subst hp hW
  exact ⟨fun h tk i => wpAny_execs_nil ⟨st, h, tk, rfl, i, hJ⟩⟩
theorem Sx.fpC {σ : Type} {psf : σ → List PV} {Wf : σ → Led} {J : σ → Prop} {own : Led} {pos : Pos} {r2 r3 : List Stmt} (st : σ) (hp : ps = psf st) (hW : W = own ++ Wf st) (hJ : J st) : Sx c ps W (.Continue pos :: r2) (Seq c r3 (Fp c psf Wf J own rest Φ E) E) E := by
  subst hp hW
  exact ⟨fun h tk i => wpAny_execs_cons (wpAny_Continue ⟨st, h, tk, rfl, i, hJ⟩)⟩
theorem Rets.fp {σ : Type} {psf : σ → List PV} {Wf : σ → Led} {J : σ → Prop} {own : Led} {R : Heap → Value → Heap → Prop} (h : Rets c R Φ) : Rets c R (Fp c psf Wf J own rest Φ E) := fun v h' tk' a b => h v h' tk' a b
noncomputable def SeqRep (a : Addr) (o : AO) (l : List Str) : Prop := ∀ ob, o.rep ob → ∃ ys : List (Str × Tok), ys.map (·.1) = l ∧ ∀ h : Heap, h.get? a = some ob → h.IsList a (strValues ys).toArray ∨ h.IsTuple a (strValues ys).toArray
theorem SeqRep.strs {a : Addr} {l : List Str} : SeqRep a (.strs l) l := by
  rintro ob ⟨ys, n, rfl, e⟩
  exact ⟨ys, e, fun h hg => .inl ⟨_, hg, rfl, n, rfl⟩⟩
theorem sm_split : SM (Str.ofString "split") "str.split" := fun M A E s x t pl Q h => GM.split h
theorem Ea.split {pl : Sem Bool} {o e : PySem.Expr} {ap pos : Pos} {x y : Str} (h1 : Ep c ps W o (.str x)) (h2 : Ep c ps W e (.str y)) (hy : (y.length == 0) = false) (hx : x.length + 2 ≤ sizeLine) (he : McOk c o (Str.ofString "split") ap pos [e] pl := by exact rfl) (hst : starEach [e] c.env = (false, eval e c.env) :: starEach [] c.env := by rfl) :
    Ea c ps W (.Call (.Attribute o (Str.ofString "split") ap) [e] [] pos) (.strs (Txt.split x y)) := by
  intro h tk Q E i hq
  refine MethodCall_ (h1 _ _ _ _ i fun v h' tk' r1 i1 => ?_) he
  obtain ⟨t, rfl⟩ := r1
  refine GM.split (callWith_method1 (args_cons (h2 _ _ _ _ i1 fun u h2' tk2 r2 i2 => args_nil ?_) hst) hst)
  obtain ⟨t2, rfl⟩ := r2
  obtain ⟨m, news, hF, hN, hf, hl, nd⟩ := i2
  refine splitN1A (s := c.st h2' tk2) (hsz := hx) hF hN hy fun l h3 k e _ _ hli F' N' => hq _ _ _ ⟨m, _, F', N', hf, ⟨⟨rfl, l, 0, rfl, e⟩, hl⟩, ?_⟩
  rw [List.map_cons, List.nodup_cons]
  refine ⟨fun hm => ?_, nd⟩
  rw [lrep_map hl] at hm
  obtain ⟨q, hq, e⟩ := List.mem_map.mp hm
  exact absurd (Heap.lt_size (hN q hq).1) (by rw [e]; exact Nat.lt_irrefl _)
theorem sm_lower : SM (Str.ofString "lower") "str.lower" := fun M A E s x t pl Q h => GM.lower h
theorem FunOk.lower {x : Str} (h : x.length ≤ 1000000) : FunOk c ps W "str.lower" [.str x] (.str (Txt.lower x)) := by
  intro hh tk vs Q E i hr hq
  obtain ⟨v, rfl, t, rfl⟩ := reps1 hr
  exact SCL.lower (by lia) fun _ => hq _ _ _ ⟨_, rfl⟩ i
theorem sm_upper : SM (Str.ofString "upper") "str.upper" := fun M A E s x t pl Q h => GM.upper h
theorem FunOk.upper {x : Str} (h : x.length ≤ 1000000) : FunOk c ps W "str.upper" [.str x] (.str (Txt.upper x)) := by
  intro hh tk vs Q E i hr hq
  obtain ⟨v, rfl, t, rfl⟩ := reps1 hr
  exact SCL.upper (by lia) fun _ => hq _ _ _ ⟨_, rfl⟩ i
theorem sm_starts : SM (Str.ofString "startswith") "str.startswith" := fun M A E s x t pl Q h => GM.startswith h
theorem FunOk.starts {x y : Str} : FunOk c ps W "str.startswith" [.str x, .str y] (.bool (Txt.startswith x y)) := by
  intro hh tk vs Q E i hr hq
  obtain ⟨v, u, rfl, ⟨t, rfl⟩, t', rfl⟩ := reps2 hr
  exact SC.startswith (hq _ _ _ rfl i)
theorem sm_ends : SM (Str.ofString "endswith") "str.endswith" := fun M A E s x t pl Q h => GM.endswith h
theorem FunOk.ends {x y : Str} : FunOk c ps W "str.endswith" [.str x, .str y] (.bool (Txt.endswith x y)) := by
  intro hh tk vs Q E i hr hq
  obtain ⟨v, u, rfl, ⟨t, rfl⟩, t', rfl⟩ := reps2 hr
  exact SC.endswith (hq _ _ _ rfl i)
theorem sm_rfind : SM (Str.ofString "rfind") "str.rfind" := fun M A E s x t pl Q h => GM.rfind h
theorem FunOk.rfind {x y : Str} : FunOk c ps W "str.rfind" [.str x, .str y] (.int (Txt.rfind x y)) := by
  intro hh tk vs Q E i hr hq
  obtain ⟨v, u, rfl, ⟨t, rfl⟩, t', rfl⟩ := reps2 hr
  exact SC.rfind (hq _ _ _ ⟨_, rfl⟩ i)
theorem FunOk.find {x y : Str} : FunOk c ps W "str.find" [.str x, .str y] (.int (Txt.find x y)) := by
  intro hh tk vs Q E i hr hq
  obtain ⟨v, u, rfl, ⟨t, rfl⟩, t', rfl⟩ := reps2 hr
  exact SC.find (hq _ _ _ ⟨_, rfl⟩ i)
end
end
section
open PySem PySem.W PySem.Calls PyProof.Rows
theorem At.n7 {x0 x1 x2 x3 x4 x5 x6 x : Str} {p0 p1 p2 p3 p4 p5 p6 p : PV} {ks : List Str} {ps : List PV} : At (x0 :: x1 :: x2 :: x3 :: x4 :: x5 :: x6 :: x :: ks) (p0 :: p1 :: p2 :: p3 :: p4 :: p5 :: p6 :: p :: ps) x p := .there .n6
theorem At.n8 {x0 x1 x2 x3 x4 x5 x6 x7 x : Str} {p0 p1 p2 p3 p4 p5 p6 p7 p : PV} {ks : List Str} {ps : List PV} : At (x0 :: x1 :: x2 :: x3 :: x4 :: x5 :: x6 :: x7 :: x :: ks) (p0 :: p1 :: p2 :: p3 :: p4 :: p5 :: p6 :: p7 :: p :: ps) x p := .there .n7
theorem SetAt.n7 {x0 x1 x2 x3 x4 x5 x6 x : Str} {p0 p1 p2 p3 p4 p5 p6 q p : PV} {ks : List Str} {ps : List PV} : SetAt (x0 :: x1 :: x2 :: x3 :: x4 :: x5 :: x6 :: x :: ks) (p0 :: p1 :: p2 :: p3 :: p4 :: p5 :: p6 :: q :: ps) x p (p0 :: p1 :: p2 :: p3 :: p4 :: p5 :: p6 :: p :: ps) := .there .n6
theorem SetAt.n8 {x0 x1 x2 x3 x4 x5 x6 x7 x : Str} {p0 p1 p2 p3 p4 p5 p6 p7 q p : PV} {ks : List Str} {ps : List PV} : SetAt (x0 :: x1 :: x2 :: x3 :: x4 :: x5 :: x6 :: x7 :: x :: ks) (p0 :: p1 :: p2 :: p3 :: p4 :: p5 :: p6 :: p7 :: q :: ps) x p (p0 :: p1 :: p2 :: p3 :: p4 :: p5 :: p6 :: p7 :: p :: ps) := .there .n7
theorem Con.imp {n : Nat} {f : Addr} {vs : List Value} {P : Heap → Prop} {R R' : Heap → Value → Heap → Prop} (C : Con n f vs P R) (h : ∀ h v h', R h v h' → R' h v h') : Con n f vs P R' :=
  fun w p loose mean mg mb A h₀ s Q E X T hs hd hu hA hP hret => C w p loose mean mg mb A h₀ s Q E X T hs hd hu hA hP fun v h' tk' st r => hret v h' tk' st (h _ _ _ r)
theorem Con.s1 {n : Nat} {f : Addr} {x : Str} {P : Heap → Prop} {R R' : Heap → Value → Heap → Prop} (C : ∀ u, Con n f [.str x u] P R) : ∀ vs, reps [.str x] vs → Con n f vs P R := fun vs h => by
  obtain ⟨v, rfl, t, rfl⟩ := reps1 h
  exact C t
structure GName (x : Str) (f : Addr) : Prop where
  n : ∀ q, nsIn (Mine.hd.heap_39 q) mainGlobals x = some (some (.ref f))
  k : ∀ q, keepIn (Mine.hd.heap_39 q) (.ref f) = true
  d : (x == ("__debug__" : Str)) = false
structure BVal (x : Str) (v : Value) : Prop where
  n : ∀ q, nsIn (Mine.hd.heap_39 q) mainGlobals x = some none
  b : bootBuiltins x = some v
  u : x ≠ "__name__"
  d : (x == ("__debug__" : Str)) = false
section
variable {F : FI} {N : Nat} {c : Cx F N} {ps : List PV} {W : Led} {Φ : Flow → Shared → Prop} {E : Value → Shared → Prop} {rest : List Stmt}
theorem Ep.bval {x : Str} {pos : Pos} {v : Value} (b : BVal x v) (hk : F.scope.names.lookup x = some .globalImplicit) : Ep c ps W (.Name x pos) (.val v) := by
  intro hh tk Q E i hq
  obtain ⟨m, news, hF, hN, hf, hl, nd⟩ := _root_.id i
  exact Cx.nmB hF (b.n _) b.b b.u (hq _ _ _ rfl i) hk b.d
theorem FunOk.isBytes {x : Str} : FunOk c ps W "isinstance" [.str x, .val (.type "bytes")] (.bool false) := by
  intro hh tk vs Q E i hr hq
  obtain ⟨v, u, rfl, ⟨t, rfl⟩, rfl⟩ := reps2 hr
  exact IsiPair.str_bytes (hq _ _ _ rfl i)
theorem In.call {n : Nat} {f : Addr} {vs : List Value} {P : Heap → Prop} {R : Heap → Value → Heap → Prop} {h : Heap} {tk : Nat} {Q E : Value → Shared → Prop} (i : In c ps W h) (C : Con n f vs P R) (hn : n ≤ N) (hP : P h)
    (hq : ∀ v h' tk', In c ps W h' → h.StaysIn h' → R h v h' → Q v (c.st h' tk')) : wpAny c.M c.A (call (.ref f) vs) Q E (c.st h tk) := by
  obtain ⟨m, news, hF, hN, hf, hl, nd⟩ := i
  exact C.use (s := c.st h tk) hF c.X hN c.T (by have := c.hd; lia) (by have := c.hu; lia) c.hh hP fun v h' tk' F' N' st r => hq v h' tk' ⟨m, news, F', N', hf, hl, nd⟩ st r
theorem Es.con {n : Nat} {f : Addr} {P : Heap → Prop} {R : Heap → Value → Heap → Prop} {x : Str} {px pos : Pos} {e : PySem.Expr} {es : List PySem.Expr} {qs : List PV} {h : Heap} {tk : Nat} {Q E : Value → Shared → Prop} (g : GName x f) (hk : F.scope.names.lookup x = some .globalImplicit) (ha : Es c ps W (e :: es) qs) (C : ∀ vs, reps qs vs → Con n f vs P R) (hn : n ≤ N)
    (hP : ∀ h, In c ps W h → P h) (i : In c ps W h) (hq : ∀ h₁ v h' tk', In c ps W h₁ → In c ps W h' → h₁.StaysIn h' → R h₁ v h' → Q v (c.st h' tk'))
    (he : CallEq c (.Name x px) (e :: es) pos) (hst : starEach (e :: es) c.env = (false, eval e c.env) :: starEach es c.env) (hpl : (backTo pos (starEach es c.env)).any (·.1) = false) : wpAny c.M c.A (eval (.Call (.Name x px) (e :: es) [] pos) c.env) Q E (c.st h tk) := by
  obtain ⟨m, news, hF, hN, hf, hl, nd⟩ := _root_.id i
  refine Call_ (Cx.nmK hF (g.n _) ?_ hk g.d) he
  refine callWith_K c.X (g.k _) (ha _ _ _ _ _ i fun vs h' tk' hr i' => ⟨?_, ?_⟩) hst hpl
  · obtain ⟨_, _, hF', _⟩ := _root_.id i'
    exact c.X.keeps hF'.keep
  · exact i'.call (C vs hr) hn (hP _ i') fun v h2 tk2 i2 st r => hq h' v h2 tk2 i' i2 st r
theorem Ep.con {n : Nat} {f : Addr} {P : Heap → Prop} {R : Heap → Value → Heap → Prop} {x : Str} {px pos : Pos} {e : PySem.Expr} {es : List PySem.Expr} {qs : List PV} {p : PV} (g : GName x f) (hk : F.scope.names.lookup x = some .globalImplicit) (ha : Es c ps W (e :: es) qs) (C : ∀ vs, reps qs vs → Con n f vs P R) (hn : n ≤ N)
    (hP : ∀ h, In c ps W h → P h) (hR : ∀ h v h', R h v h' → p.rep v)
    (he : CallEq c (.Name x px) (e :: es) pos := by exact rfl) (hst : starEach (e :: es) c.env = (false, eval e c.env) :: starEach es c.env := by rfl) (hpl : (backTo pos (starEach es c.env)).any (·.1) = false := by rfl) : Ep c ps W (.Call (.Name x px) (e :: es) [] pos) p :=
  fun _ _ _ _ i hq => Es.con g hk ha C hn hP i (fun h₁ v h' tk' _ i' _ r => hq _ _ _ (hR _ _ _ r) i') he hst hpl
theorem In.new {a : Addr} {o : Obj} {x : AO} {h h' : Heap} (i₀ : In c ps W h) (i : In c ps W h') (hn : h.get? a = Option.none) (ho : h'.get? a = some o) (hx : x.rep o) : In c ps ((a, x) :: W) h' := by
  obtain ⟨m₀, news₀, hF₀, hN₀, _, hl₀, _⟩ := i₀
  obtain ⟨m, news, hF, hN, hf, hl, nd⟩ := i
  have hne : a ≠ c.env.locals := fun e => by
    obtain ⟨oL, _, _, hL, _⟩ := hF₀.ns
    rw [e, hL] at hn
    cases hn
  have h0 : c.h₀.get? a = Option.none := by
    cases e : c.h₀.get? a with
    | none => rfl
    | some o' => have := hF₀.keep _ _ e; rw [hn] at this; cases this
  refine ⟨m, (a, o) :: news, hF, fun q hq => ?_, hf, ⟨⟨rfl, hx⟩, hl⟩, ?_⟩
  · rcases List.mem_cons.mp hq with rfl | hq
    · exact ⟨ho, hne, h0⟩
    · exact hN q hq
  · rw [List.map_cons, List.nodup_cons]
    refine ⟨fun hm => ?_, nd⟩
    rw [lrep_map hl₀] at hm
    obtain ⟨q, hq, e⟩ := List.mem_map.mp hm
    have := (hN₀ q hq).1
    rw [e, hn] at this
    cases this
theorem Ea.con {n : Nat} {f : Addr} {P : Heap → Prop} {R : Heap → Value → Heap → Prop} {x : Str} {px pos : Pos} {e : PySem.Expr} {es : List PySem.Expr} {qs : List PV} {o : AO} (g : GName x f) (hk : F.scope.names.lookup x = some .globalImplicit) (ha : Es c ps W (e :: es) qs) (C : ∀ vs, reps qs vs → Con n f vs P R) (hn : n ≤ N)
    (hP : ∀ h, In c ps W h → P h) (hR : ∀ h v h', R h v h' → ∃ a ob, v = .ref a ∧ h.get? a = Option.none ∧ h'.get? a = some ob ∧ o.rep ob)
    (he : CallEq c (.Name x px) (e :: es) pos := by exact rfl) (hst : starEach (e :: es) c.env = (false, eval e c.env) :: starEach es c.env := by rfl) (hpl : (backTo pos (starEach es c.env)).any (·.1) = false := by rfl) : Ea c ps W (.Call (.Name x px) (e :: es) [] pos) o :=
  fun _ _ _ _ i hq => Es.con g hk ha C hn hP i (fun h₁ v h' tk' i₁ i' _ r => by
    obtain ⟨a, ob, rfl, h1, h2, h3⟩ := hR _ _ _ r
    exact hq a _ _ (i₁.new i' h1 h2 h3)) he hst hpl
theorem Ep.orS {e1 e2 : PySem.Expr} {pos : Pos} {x y : Str} (h1 : Ep c ps W e1 (.str x)) (h2 : Ep c ps W e2 (.str y)) (hx : (x.length : Int) < 9223372036854775808) : Ep c ps W (.BoolOp .Or [e1, e2] pos) (.str (if x.length = 0 then y else x)) := by
  intro hh tk Q E i hq
  refine BoolOp_or (h1 _ _ _ _ i fun v h' tk' r i1 => TruOk.str hx _ _ _ _ _ _ r fun k => ?_)
  by_cases e : x.length = 0
  · rw [if_neg (by simp [e])]
    rw [if_pos e] at hq
    exact BoolOp_one (h2 _ _ _ _ i1 hq)
  · rw [if_pos (by simp; lia)]
    rw [if_neg e] at hq
    exact hq _ _ _ r i1
theorem Sx.unpack3 {x y z : Str} {px py pz pt pos : Pos} {k1 : Nat} {e : PySem.Expr} {o : AO} {p q r : PV} {ps1 ps2 ps3 : List PV} (h : Ea c ps W e o) (ho : ∀ ob, o.rep ob → ∃ u v w n, ob = { cls := .type "tuple", data := .seq #[u, v, w] n } ∧ p.rep u ∧ q.rep v ∧ r.rep w) (s1 : SetAt F.locals ps x p ps1) (s2 : SetAt F.locals ps1 y q ps2) (s3 : SetAt F.locals ps2 z r ps3) (k : Sx c ps3 W rest Φ E)
    (hw : swapsWithSole [.Tuple [.Name x px, .Name y py, .Name z pz] k1 pt] e pos.line c.env = pure false := by rfl) (hn : swappedStores [.Tuple [.Name x px, .Name y py, .Name z pz] k1 pt] e c.env = pure Option.none := by rfl)
    (ha : assignEach [.Name x px, .Name y py, .Name z pz] c.env = [(false, PySem.assign (.Name x px) c.env), (false, PySem.assign (.Name y py) c.env), (false, PySem.assign (.Name z pz) c.env)] := by rfl) :
    Sx c ps W (.Assign [.Tuple [.Name x px, .Name y py, .Name z pz] k1 pt] e pos :: rest) Φ E := by
  refine ⟨fun hh tk i => ?_⟩
  refine wpAny_execs_cons (Assign_Tuple (h _ _ _ _ i fun a h' tk' i1 => ?_) hw hn)
  obtain ⟨m, news, hF, hN, hf, hl, nd⟩ := i1
  cases news with
  | nil => exact hl.elim
  | cons b news =>
  obtain ⟨⟨ea, hr⟩, hl⟩ := hl
  obtain ⟨b1, b2⟩ := b
  have ea' : a = b1 := ea
  subst ea'
  obtain ⟨u, v, w, n, rfl, r1, r2, r3⟩ := ho b2 hr
  refine unpackN_ (items := #[u, v, w]) hF hN ⟨_, (hN _ (.head _)).1, rfl, _, rfl⟩ c.hh (by rw [ha]; rfl) (by rw [ha]; rfl) fun h4 F4 N4 => ?_
  have i4 : In c ps W h4 := ⟨m, news, F4, fun z hz => N4 z (.tail _ hz), hf, hl, (List.nodup_cons.mp nd).2⟩
  rw [ha]
  exact assignInOrder_cons (PyProof.Rows.assign_Name (i4.store s1 r1 fun _ _ i5 => assignInOrder_cons (PyProof.Rows.assign_Name (i5.store s2 r2 fun _ _ i6 => assignInOrder_cons (PyProof.Rows.assign_Name (i6.store s3 r3 fun _ _ i7 => assignInOrder_nil (k.run _ _ i7)))))))
end
end
section
open PySem PySem.W PySem.Calls PyProof.Rows
theorem At.ix : ∀ (k : Nat) {ks : List Str} {ps : List PV} {x : Str} {p : PV}, ks[k]? = some x → ps[k]? = some p → At ks ps x p
  | 0, _ :: _, _ :: _, _, _, h1, h2 => by cases h1; cases h2; exact .here
  | k + 1, _ :: ks, _ :: ps, _, _, h1, h2 => .there (At.ix k (ks := ks) (ps := ps) h1 h2)
  | _, [], _, _, _, h1, _ => by cases h1
  | _, _ :: _, [], _, _, _, h2 => by cases h2
theorem SetAt.ix : ∀ (k : Nat) {ks : List Str} {ps : List PV} {x : Str} {p q : PV}, ks[k]? = some x → ps[k]? = some q → SetAt ks ps x p (ps.set k p)
  | 0, _ :: _, _ :: _, _, _, _, h1, h2 => by cases h1; exact .here
  | k + 1, _ :: ks, _ :: ps, _, _, _, h1, h2 => .there (SetAt.ix k (ks := ks) (ps := ps) h1 h2)
  | _, [], _, _, _, _, h1, _ => by cases h1
  | _, _ :: _, [], _, _, _, _, h2 => by cases h2
theorem Con.s1' {n : Nat} {f : Addr} {x : Str} {P : Heap → Prop} {R : Heap → Value → Heap → Prop} (C : ∀ u, Con n f [.str x u] P R) : ∀ vs, reps [.str x] vs → Con n f vs P R := fun vs h => by
  obtain ⟨v, rfl, t, rfl⟩ := reps1 h
  exact C t
theorem Con.s2 {n : Nat} {f : Addr} {x y : Str} {P : Heap → Prop} {R : Heap → Value → Heap → Prop} (C : ∀ u v, Con n f [.str x u, .str y v] P R) : ∀ vs, reps [.str x, .str y] vs → Con n f vs P R := fun vs h => by
  obtain ⟨v, u, rfl, ⟨t, rfl⟩, t', rfl⟩ := reps2 h
  exact C t t'
theorem bv_str : BVal (Str.ofString "str") (.type "str") := ⟨fun q => by k_is, by boot_fast, by decide, by decide⟩
theorem bv_bytes : BVal (Str.ofString "bytes") (.type "bytes") := ⟨fun q => by k_is, by boot_fast, by decide, by decide⟩
theorem bn_isinst : BName (Str.ofString "isinstance") "isinstance" := ⟨fun q => by k_is, by boot_fast, by decide, by decide⟩
theorem bv_enum : BVal (Str.ofString "enumerate") (.type "enumerate") := ⟨fun q => by k_is, by boot_fast, by decide, by decide⟩
theorem bn_len : BName (Str.ofString "len") "len" := ⟨fun q => by k_is, by boot_fast, by decide, by decide⟩
theorem CmpOk.notInS {x y : Str} : CmpOk .NotIn (.str y) (.str x) (!Txt.contains x y) := by
  rintro w A s u v Q E ⟨t, rfl⟩ ⟨t', rfl⟩ hq
  exact PyProof.Rows.notIn_str (hq s.toks)
theorem sm_find : SM (Str.ofString "find") "str.find" := fun M A E s x t pl Q h => GM.find h
section
variable {F : FI} {N : Nat} {c : Cx F N} {ps : List PV} {W : Led} {Φ : Flow → Shared → Prop} {E : Value → Shared → Prop} {rest : List Stmt}
theorem In.fresh {a : Addr} {o : AO} {ob : Obj} {h : Heap} {m : Str → Option Value} {news : List (Addr × Obj)} {ps : List PV} (hF : Fr c.h₀ c.env.locals h m) (hN : News c.h₀ c.env.locals h ((a, ob) :: news)) (hf : frep F.locals ps m) (hl : lrep W news) (nd : (W.map (·.1)).Nodup) (ho : o.rep ob) (hne : ∀ q ∈ news, q.1 ≠ a) : In c ps ((a, o) :: W) h := by
  refine ⟨m, _, hF, hN, hf, ⟨⟨rfl, ho⟩, hl⟩, List.nodup_cons.mpr ⟨fun hm => ?_, nd⟩⟩
  rw [lrep_map hl] at hm
  obtain ⟨q, hq, e⟩ := List.mem_map.mp hm
  exact hne q hq e
theorem In.drop : ∀ {W1 : Led} {h : Heap}, In c ps (W1 ++ W) h → In c ps W h
  | [], _, i => i
  | _ :: W1, _, i => In.drop (W1 := W1) i.weak
theorem En.ofA {e : PySem.Expr} {o : AO} (h : Ea c ps W e o) : En c ps W e (fun p W' => ∃ a, p = .ref a ∧ W' = (a, o) :: W) := fun _ _ _ _ i hq => h _ _ _ _ i fun a _ _ i' => hq _ _ _ _ _ ⟨a, rfl, rfl⟩ rfl i'
noncomputable def Eb (c : Cx F N) (ps : List PV) (W : Led) (op : PySem.BoolOp) (es : List PySem.Expr) (b : Bool) : Prop := ∀ pos, Ep c ps W (.BoolOp op es pos) (.bool b)
theorem Eb.one {op : PySem.BoolOp} {e : PySem.Expr} {b : Bool} (h : Ep c ps W e (.bool b)) : Eb c ps W op [e] b := fun _ _ _ _ _ i hq => BoolOp_one (h _ _ _ _ i hq)
theorem Eb.and {e e2 : PySem.Expr} {es : List PySem.Expr} {a b : Bool} (h1 : Ep c ps W e (.bool a)) (h2 : a = true → Eb c ps W .And (e2 :: es) b) : Eb c ps W .And (e :: e2 :: es) (a && b) := by
  intro pos hh tk Q E i hq
  refine BoolOp_and (h1 _ _ _ _ i fun v h' tk' r i1 => TruOk.bool _ _ _ _ _ _ r fun k => ?_)
  cases a with
  | true => rw [if_pos rfl]; exact h2 rfl _ _ _ _ _ i1 hq
  | false => rw [if_neg (by decide)]; exact hq _ _ _ r i1
theorem Eb.or {e e2 : PySem.Expr} {es : List PySem.Expr} {a b : Bool} (h1 : Ep c ps W e (.bool a)) (h2 : a = false → Eb c ps W .Or (e2 :: es) b) : Eb c ps W .Or (e :: e2 :: es) (a || b) := by
  intro pos hh tk Q E i hq
  refine BoolOp_or (h1 _ _ _ _ i fun v h' tk' r i1 => TruOk.bool _ _ _ _ _ _ r fun k => ?_)
  cases a with
  | true => rw [if_pos rfl]; exact hq _ _ _ r i1
  | false => rw [if_neg (by decide)]; exact h2 rfl _ _ _ _ _ i1 hq
theorem Ep.bo {op : PySem.BoolOp} {es : List PySem.Expr} {pos : Pos} {b : Bool} (h : Eb c ps W op es b) : Ep c ps W (.BoolOp op es pos) (.bool b) := h pos
theorem Et.b {e : PySem.Expr} {b : Bool} (h : Ep c ps W e (.bool b)) (hp : ∀ whole, whole = eval e c.env → PySem.isTrue e c.env whole = (do let v ← whole; standAt (PySem.Expr.pos e); holding [v] (truthy v)) := by intro _ _; rfl) : Et c ps W e b := .val h .bool hp
end
end
section
open PySem PySem.W PySem.Calls PyProof.Rows
theorem reps_strs : ∀ {l : List Str} {vs : List Value}, reps (l.map .str) vs → ∃ ys : List (Str × Tok), vs = strValues ys ∧ ys.map (·.1) = l
  | [], [], _ => ⟨[], rfl, rfl⟩
  | x :: l, v :: vs, h => by
    obtain ⟨⟨t, rfl⟩, h2⟩ := h
    obtain ⟨ys, rfl, rfl⟩ := reps_strs h2
    exact ⟨(x, t) :: ys, rfl, rfl⟩
  | [], _ :: _, h => h.elim
  | _ :: _, [], h => h.elim
noncomputable def objL (l : List (Addr × Obj)) : Led := l.map fun q => (q.1, .obj q.2)
theorem lrep_obj : ∀ {l : List (Addr × Obj)} {W : Led} {news : List (Addr × Obj)}, lrep (objL l ++ W) news → ∃ nw, news = l ++ nw ∧ lrep W nw
  | [], _, news, h => ⟨news, rfl, h⟩
  | q :: l, W, n :: news, h => by
    obtain ⟨⟨e1, e2⟩, h2⟩ := h
    obtain ⟨nw, e, h3⟩ := lrep_obj (l := l) h2
    have e1' : q.1 = n.1 := e1
    have e2' : n.2 = q.2 := e2
    exact ⟨nw, by rw [e, List.cons_append, show n = q from Prod.ext e1'.symm e2'], h3⟩
  | _ :: _, _, [], h => h.elim
theorem lrep_objR : ∀ {l : List (Addr × Obj)} {W : Led} {nw : List (Addr × Obj)}, lrep W nw → lrep (objL l ++ W) (l ++ nw)
  | [], _, _, h => h
  | _ :: l, _, _, h => ⟨⟨rfl, rfl⟩, lrep_objR (l := l) h⟩
theorem lrep_split : ∀ {W₀ W : Led} {news : List (Addr × Obj)}, lrep (W₀ ++ W) news → ∃ l nw, news = l ++ nw ∧ lrep W₀ l ∧ lrep W nw
  | [], _, news, h => ⟨[], news, rfl, trivial, h⟩
  | _ :: W₀, _, n :: _, h => by
    obtain ⟨l, nw, rfl, a, b⟩ := lrep_split (W₀ := W₀) h.2
    exact ⟨n :: l, nw, rfl, ⟨h.1, a⟩, b⟩
  | _ :: _, _, [], h => h.elim
theorem lrep_app : ∀ {W1 W : Led} {n1 n : List (Addr × Obj)}, lrep W1 n1 → lrep W n → lrep (W1 ++ W) (n1 ++ n)
  | [], _, [], _, _, h => h
  | _ :: _, _, _ :: _, _, h1, h => ⟨h1.1, lrep_app h1.2 h⟩
  | [], _, _ :: _, _, h1, _ => h1.elim
  | _ :: _, _, [], _, h1, _ => h1.elim
theorem objL_fst (l : List (Addr × Obj)) (W : Led) : (objL l ++ W).map (·.1) = l.map (·.1) ++ W.map (·.1) := by
  unfold objL; rw [List.map_append, List.map_map]; rfl
theorem own_cons {own : List (Addr × Obj)} {I : Addr} {r : List Addr} (h : own.map (·.1) = I :: r) : ∃ o own', own = (I, o) :: own' ∧ own'.map (·.1) = r := by
  cases own with
  | nil => cases h
  | cons p q => exact ⟨p.2, q, by rw [← (List.cons.inj h).1], (List.cons.inj h).2⟩
theorem own1 {own : List (Addr × Obj)} {I : Addr} (h : own.map (·.1) = [I]) : ∃ o, own = [(I, o)] := by
  obtain ⟨o, q, rfl, g⟩ := own_cons h
  exact ⟨o, by rw [List.map_eq_nil_iff.mp g]⟩
structure Src (prog : Program) (w : World) (A : Around) (target : PySem.Expr) (I : Addr) (fp wr : List Addr) (n : Nat) (P : Nat → Value → Heap → Prop) (St : Nat → Heap → Prop) : Prop where
  frame : ∀ i h h', St i h → (∀ b ∈ fp, ∀ o, h.get? b = some o → h'.get? b = some o) → St i h'
  item : ∀ i (s : Shared) (Q : Value → Shared → Prop) (E : Value → Shared → Prop), i < n → St i s.heap →
    (∀ v h' tk, P i v h' → St (i + 1) h' → (∀ b o, b ∉ wr → s.heap.get? b = some o → h'.get? b = some o) → Q v { s with heap := h', toks := tk }) →
    wpAny (model prog w) A (pyNext (.ref I)) (fun r s₁ => match r with | none => False | some v => wpAny (model prog w) A (letOwnedTupleGo target (.ref I) v) (fun _ s₂ => Q v s₂) E s₁) E s
  done : ∀ (s : Shared) (Q : Option Value → Shared → Prop) (E : Value → Shared → Prop), St n s.heap →
    (∀ h' tk, (∀ b o, b ∉ wr → s.heap.get? b = some o → h'.get? b = some o) → Q none { s with heap := h', toks := tk }) → wpAny (model prog w) A (pyNext (.ref I)) Q E s
theorem Src.ofU {prog : Program} {w : World} {A : Around} {elts : List PySem.Expr} {k : Nat} {pos : Pos} {I : Addr} {fp wr : List Addr} {n : Nat} {Pt : Nat → Array Value → Prop} {St : Nat → Heap → Prop} {Mid : Nat → Addr → Heap → Prop}
    (W : WalksT prog w A I fp wr n Pt St Mid) : Src prog w A (.Tuple elts k pos) I fp wr n (fun i v h => ∃ T vals, v = .ref T ∧ Pt i vals ∧ h.IsTuple T vals) St where
  frame := W.toU.frame
  item := fun i s Q E hi hst hQ => W.toU.item i s _ E hi hst fun T vals h' tk hP hT hm hk => W.toU.go elts k pos i T _ _ E hm fun h'' hst' hk' =>
    hQ (.ref T) h'' tk ⟨T, vals, rfl, hP, hT.at fun o e => hk' T o (W.toU.apart i T h' hm) e⟩ hst' fun b o hb e => hk' b o hb (hk b o hb e)
  done := W.toU.done
theorem Src.ofW {prog : Program} {w : World} {A : Around} {x : Str} {px : Pos} {I : Addr} {fp wr : List Addr} {n : Nat} {P : Nat → Value → Prop} {St : Nat → Heap → Prop}
    (W : Walks prog w A I fp wr n P St) : Src prog w A (.Name x px) I fp wr n (fun i v _ => P i v) St where
  frame := W.frame
  item := fun i s Q E hi hst hQ => W.item i s _ E hi hst fun v h' tk hP hs hk => wpAny_pure (hQ v h' tk hP hs hk)
  done := W.done
theorem Src.ofList {prog : Program} {w : World} {A : Around} {elts : List PySem.Expr} {k : Nat} {pos : Pos} (hh : A.handled = none) (I ax : Addr) (hne : ax ≠ I) (rs : List Addr) :
    Src prog w A (.Tuple elts k pos) I [I, ax] [I] (rs.map Value.ref).toArray.size (fun i v _ => ∃ r, rs[i]? = some r ∧ v = .ref r) (fun i h => h.IsListIter I ax i ∧ h.IsList ax (rs.map Value.ref).toArray) where
  frame := (Walks.list (prog := prog) (w := w) hh I ax hne (rs.map Value.ref).toArray).frame
  item := fun i s Q E hi st hQ => by
    obtain ⟨r, hr⟩ : ∃ r, rs[i]? = some r := ⟨_, List.getElem?_eq_getElem (show i < rs.length by rwa [List.size_toArray, List.length_map] at hi)⟩
    exact wpAny_pyNext_list_item st.1 st.2 (x := .ref r) (by rw [List.getElem?_toArray, List.getElem?_map, hr]; rfl) fun h' hit' hs' => wpAny_letOwnedTupleGo_listiter hit'
      (hQ _ h' s.toks ⟨_, hr, rfl⟩ ⟨hit', st.2.extBut hs'.extBut hne⟩ fun b o hb e => hs'.extBut b o (fun h => hb (h ▸ .head _)) e)
  done := (Walks.list (prog := prog) (w := w) hh I ax hne (rs.map Value.ref).toArray).done
section
variable {F : FI} {N : Nat} {c : Cx F N} {ps : List PV} {W : Led} {Φ : Flow → Shared → Prop} {E : Value → Shared → Prop} {rest : List Stmt}
noncomputable abbrev restQ (c : Cx F N) (rest : List Stmt) (Φ : Flow → Shared → Prop) (E : Value → Shared → Prop) : Flow → Shared → Prop := fun f s' => match f with
  | .next => wpAny c.M c.A (execs rest c.env) Φ E s'
  | f => Φ f s'
noncomputable def ForQ (c : Cx F N) (target : PySem.Expr) (body rest : List Stmt) (Φ : Flow → Shared → Prop) (E : Value → Shared → Prop) (it : Value) (s : Shared) : Prop :=
  codeAny c.M c.A (.forLoop target it body [] c.env) (fun r s' => match r with | .ok f => restQ c rest Φ E f s' | .error e => cameBackBy c.M c.A c.env E e s') s
noncomputable def IterQ (c : Cx F N) (target : PySem.Expr) (body rest : List Stmt) (Φ : Flow → Shared → Prop) (E : Value → Shared → Prop) (x : Value) (s : Shared) : Prop := wpAny c.M c.A (pyIter x) (ForQ c target body rest Φ E) E s
theorem Sx.fors {target iter : PySem.Expr} {body : List Stmt} {pos : Pos} (h : ∀ h tk, In c ps W h → wpAny c.M c.A (eval iter c.env) (IterQ c target body rest Φ E) E (c.st h tk)) (hs : ∀ v, foldedSetIterable iter c.env v = pure v := by intro _; rfl) : Sx c ps W (.For target iter body [] pos :: rest) Φ E :=
  ⟨fun _ _ i => wpAny_execs_cons (wpAny_For (h _ _ i) hs)⟩
theorem In.stays {h h' : Heap} (i : In c ps W h) (st : h.StaysIn h') : In c ps W h' := by
  obtain ⟨m, news, hF, hN, hf, hl, nd⟩ := i
  exact ⟨m, news, ⟨hF.ns.keeps st, fun b o e => st b o (hF.keep b o e), hF.above⟩, fun q hq => ⟨st _ _ (hN q hq).1, (hN q hq).2⟩, hf, hl, nd⟩
theorem In.off {wr : List Addr} {h h' : Heap} (i : In c ps W h) (hk : ∀ b o, b ∉ wr → h.get? b = some o → h'.get? b = some o) (hw : ∀ b ∈ wr, (c.h₀.get? b = none ∧ b ≠ c.env.locals) ∧ b ∉ W.map (·.1)) : In c ps W h' := by
  obtain ⟨m, news, hF, hN, hf, hl, nd⟩ := i
  exact ⟨m, news, ⟨hF.ns.at' fun o e => hk _ o (fun hb => (hw _ hb).1.2 rfl) e, fun b o e => hk b o (fun hb => nomatch (hw b hb).1.1.symm.trans e) (hF.keep b o e), hF.above⟩,
    fun q hq => ⟨hk _ _ (fun hb => (hw _ hb).2 (lrep_map hl ▸ List.mem_map.mpr ⟨q, hq, rfl⟩)) (hN q hq).1, (hN q hq).2⟩, hf, hl, nd⟩
theorem In.high {h : Heap} {b : Addr} (i : In c ps W h) (hb : @LE.le Nat _ h.objs.size b) : (c.h₀.get? b = none ∧ b ≠ c.env.locals) ∧ b ∉ W.map (·.1) := by
  obtain ⟨m, news, hF, hN, hf, hl, nd⟩ := i
  refine ⟨⟨Heap.get?_none_of_le (Nat.le_trans hF.above (Nat.le_trans (Nat.le_of_lt hF.ns.lt) hb)), fun e => Nat.lt_irrefl _ (Nat.lt_of_lt_of_le (e ▸ hF.ns.lt) hb)⟩, fun hm => ?_⟩
  rw [lrep_map hl] at hm
  obtain ⟨q, hq, e⟩ := List.mem_map.mp hm
  exact Nat.lt_irrefl _ (Nat.lt_of_lt_of_le (Heap.lt_size (hN q hq).1) (e ▸ hb))
theorem In.own {l : List (Addr × Obj)} {h : Heap} (i : In c ps W h) (hl : ∀ q ∈ l, h.get? q.1 = some q.2 ∧ q.1 ≠ c.env.locals ∧ c.h₀.get? q.1 = none) (nd : (l.map (·.1) ++ W.map (·.1)).Nodup) : In c ps (objL l ++ W) h := by
  obtain ⟨m, news, hF, hN, hf, hlr, _⟩ := i
  exact ⟨m, l ++ news, hF, fun q hq => (List.mem_append.mp hq).elim (hl q) (hN q), hf, lrep_objR hlr, by rw [objL_fst]; exact nd⟩
theorem In.sameO {l : List (Addr × Obj)} {q : Addr × Obj} {h : Heap} (i : In c ps (objL l ++ W) h) (hq : q ∈ l) : h.get? q.1 = some q.2 := by
  obtain ⟨ob, e, r⟩ := i.get (a := q.1) (o := .obj q.2) (List.mem_append_left _ (List.mem_map.mpr ⟨q, hq, rfl⟩))
  exact e.trans (congrArg some r)
theorem In.pins {W₀ : Led} {h : Heap} (i : In c ps (W₀ ++ W) h) : ∃ l, lrep W₀ l ∧ In c ps (objL l ++ W) h := by
  obtain ⟨m, news, hF, hN, hf, hl, nd⟩ := i
  obtain ⟨l, nw, rfl, a, b⟩ := lrep_split hl
  exact ⟨l, a, m, _, hF, hN, hf, lrep_objR b, by rw [objL_fst, ← lrep_map a, ← List.map_append]; exact nd⟩
theorem In.unpins {W₀ : Led} {l : List (Addr × Obj)} {h : Heap} (i : In c ps (objL l ++ W) h) (r : lrep W₀ l) : In c ps (W₀ ++ W) h := by
  obtain ⟨m, news, hF, hN, hf, hl, nd⟩ := i
  obtain ⟨nw, rfl, b⟩ := lrep_obj hl
  exact ⟨m, _, hF, hN, hf, lrep_app r b, by rw [List.map_append, lrep_map r, ← objL_fst]; exact nd⟩
theorem In.pin {a : Addr} {o : AO} {h : Heap} (i : In c ps ((a, o) :: W) h) : ∃ lo, o.rep lo ∧ In c ps (objL [(a, lo)] ++ W) h := by
  obtain ⟨l, r, i⟩ := i.pins (W₀ := [(a, o)])
  obtain ⟨lo, g⟩ := own1 (lrep_map r).symm
  subst g
  exact ⟨lo, r.1.2, i⟩
theorem In.unpin {a : Addr} {lo : Obj} {o : AO} {h : Heap} (i : In c ps (objL [(a, lo)] ++ W) h) (r : o.rep lo) : In c ps ((a, o) :: W) h := i.unpins (W₀ := [(a, o)]) ⟨⟨rfl, r⟩, trivial⟩
theorem Src.keep {w : World} {A : Around} {target : PySem.Expr} {I : Addr} {fp wr : List Addr} {n j : Nat} {P : Nat → Value → Heap → Prop} {St : Nat → Heap → Prop} {l : List (Addr × Obj)} {ps' : List PV} {W' : Led} {h₁ h₂ : Heap} (S : Src PySem.Challenge.pw_in0083_01 w A target I fp wr n P St)
    (hfp : ∀ b ∈ fp, b ∈ l.map (·.1) ∨ ∃ o, c.h₀.get? b = some o) (a₁ : In c ps (objL l ++ W) h₁) (a₂ : In c ps' (objL l ++ W') h₂) (hst : St j h₁) : St j h₂ := by
  refine S.frame _ _ _ hst fun b hb o e => ?_
  rcases hfp b hb with hb | ⟨o', ho⟩
  · obtain ⟨q, hq, rfl⟩ := List.mem_map.mp hb
    exact (a₂.sameO hq).trans ((a₁.sameO hq).symm.trans e)
  · obtain ⟨_, _, F₁, _⟩ := a₁
    obtain ⟨_, _, F₂, _⟩ := a₂
    exact (F₂.keep b o' ho).trans ((F₁.keep b o' ho).symm.trans e)
inductive ForIn (c : Cx F N) {σ : Type} (psf : σ → List PV) (Wf : σ → Led) (J : Nat → σ → Prop) (St : Nat → Heap → Prop) (n k : Nat) : Shared → Prop
  | mk (i : Nat) (st : σ) (h : Heap) (tk : Nat) (hs : St i h) (a : In c (psf st) (Wf st) h) (j : J i st) (le : i ≤ n) (e : i + k = n + 1) : ForIn c psf Wf J St n k (c.st h tk)
theorem In.forG {σ : Type} {psf : σ → List PV} {Wf : σ → Led} {J : Nat → σ → Prop} {st₀ : σ} {target : PySem.Expr} {body : List Stmt} {I : Addr} {fp wr : List Addr} {n : Nat} {P : Nat → Value → Heap → Prop} {St : Nat → Heap → Prop} {h₁ h : Heap} {tk : Nat} (fpo : List Addr) (base : List (Addr × Obj))
    (S : Src PySem.Challenge.pw_in0083_01 c.w c.A target I fp wr n P St) (hst : St 0 h) (hE : PassesOwn c.M c.A c.env E) (i : In c (psf st₀) (objL base ++ Wf st₀) h₁) (hg : h₁.StaysIn h)
    (hlive : ∀ i h, St i h → ∀ b ∈ fpo, ∃ o, h.get? b = some o) (hwr : ∀ b ∈ wr, b ∈ fpo) (hfp : ∀ b ∈ fp, b ∈ fpo ++ base.map (·.1) ∨ ∃ o, c.h₀.get? b = some o) (hhi : ∀ b ∈ fpo, @LE.le Nat _ h₁.objs.size b) (hnd : fpo.Nodup)
    (hadr : ∀ st, (Wf st).map (·.1) = (Wf st₀).map (·.1)) (hj : J 0 st₀)
    (turn : ∀ i st v own h tk, i < n → P i v h → J i st → own.map (·.1) = fpo → In c (psf st) (objL (own ++ base) ++ Wf st) h →
      wpAny c.M c.A (PySem.assign target c.env v) (fun _ s₂ => wpAny c.M c.A (execs body c.env) (Fp c psf Wf (J (i + 1)) (objL (own ++ base)) rest Φ E) E s₂) E (c.st h tk))
    (done : ∀ st h tk, J n st → In c (psf st) (objL base ++ Wf st) h → wpAny c.M c.A (execs rest c.env) Φ E (c.st h tk)) :
    ForQ c target body rest Φ E (.ref I) (c.st h tk) := by
  have hW : ∀ st, (objL base ++ Wf st).map (·.1) = (objL base ++ Wf st₀).map (·.1) := fun st => by rw [objL_fst, objL_fst, hadr]
  have off : ∀ st, ∀ b ∈ fpo, (c.h₀.get? b = none ∧ b ≠ c.env.locals) ∧ b ∉ (objL base ++ Wf st).map (·.1) := fun st b hb => hW st ▸ i.high (hhi b hb)
  refine codeAny_forLoop_any (R := fun r s' => match r with | .ok f => restQ c rest Φ E f s' | .error e => cameBackBy c.M c.A c.env E e s') (ForIn c psf (fun st => objL base ++ Wf st) J St n) ?_ (n + 1) ⟨0, st₀, h, tk, hst, i.stays hg, hj, Nat.zero_le _, Nat.zero_add _⟩
  rintro k _ ⟨i, st, h, tk, hst, a, hJ, hi, hk⟩
  rcases Nat.lt_or_ge i n with hlt | hge
  · refine wpAny_mono (S.item i _ (fun v s₂ => wpAny c.M c.A (PySem.assign target c.env v) (fun _ s₂ => wpAny c.M c.A (execs body c.env) (fun f s₃ => match f with
            | .next | .cont => ∃ m, m < k ∧ ForIn c psf (fun st => objL base ++ Wf st) J St n m s₃
            | .brk => restQ c rest Φ E .next s₃
            | .ret v => restQ c rest Φ E (.ret v) s₃) (notedBy c.M c.A c.env (cameBackBy c.M c.A c.env E)) s₂) (notedBy c.M c.A c.env (cameBackBy c.M c.A c.env E)) s₂) _ hlt hst fun v h₁ tk₁ hP hst₁ hk₁ => ?_) (fun r s₁ q => ?_) fun _ _ e => e
    · have a₁ := a.off hk₁ fun b hb => off st b (hwr b hb)
      have hown : (fpo.map fun b => (b, (h₁.get? b).getD default)).map (·.1) = fpo := by rw [List.map_map]; exact List.map_id' fpo
      have a₂ : In c (psf st) (objL ((fpo.map fun b => (b, (h₁.get? b).getD default)) ++ base) ++ Wf st) h₁ := by
        rw [objL, List.map_append, List.append_assoc]
        refine a₁.own (fun q hq => ?_) ?_
        · obtain ⟨b, hb, rfl⟩ := List.mem_map.mp hq
          obtain ⟨o, ho⟩ := hlive _ _ hst₁ b hb
          exact ⟨by rw [ho]; rfl, (off st b hb).1.2, (off st b hb).1.1⟩
        · rw [hown]
          exact List.nodup_append.mpr ⟨hnd, by obtain ⟨_, _, _, _, _, _, nd⟩ := a; exact nd, fun b hb b' hb' e => (off st b hb).2 (e ▸ hb')⟩
      generalize (fpo.map fun b => (b, (h₁.get? b).getD default)) = own at hown a₂
      have fin : ∀ s₃, (∃ st h tk, s₃ = c.st h tk ∧ In c (psf st) (objL (own ++ base) ++ Wf st) h ∧ J (i + 1) st) → ∃ m, m < k ∧ ForIn c psf (fun st => objL base ++ Wf st) J St n m s₃ := by
        rintro _ ⟨st', h', tk', rfl, i', j'⟩
        cases k with
        | zero => exact absurd (show i = n + 1 from hk) (Nat.ne_of_lt (Nat.lt_succ_of_lt hlt))
        | succ k =>
          refine ⟨k, Nat.lt_succ_self k, i + 1, st', h', tk', S.keep (by rw [List.map_append, hown]; exact hfp) a₂ i' hst₁, ?_, j', hlt, (Nat.succ_add i k).trans hk⟩
          rw [objL, List.map_append, List.append_assoc] at i'
          exact i'.drop
      refine wpAny_mono (turn i st v own h₁ tk₁ hlt hP hJ hown a₂) (fun _ s₂ q => wpAny_mono q (fun f s₃ q => ?_) hE) hE
      cases f with
      | next => exact fin s₃ q
      | cont => exact fin s₃ q
      | brk => exact q
      | ret v => exact q
    · cases r with
      | none => exact q.elim
      | some v => exact q
  · cases Nat.le_antisymm hi hge
    exact S.done _ _ _ hst fun h₁ tk₁ hk₁ => wpAny_execs_nil (done st h₁ tk₁ hJ (a.off hk₁ fun b hb => off st b (hwr b hb)))
theorem range_size (n : Nat) : Builtin.Range.rangeSize 0 n 1 = n := by
  unfold Builtin.Range.rangeSize
  simp
  lia
theorem nodup1 (I : Addr) : [I].Nodup := List.nodup_cons.mpr ⟨nofun, .nil⟩
theorem all5 {p : Addr → Prop} {a b c d e : Addr} (h1 : p a) (h2 : p b) (h3 : p c) (h4 : p d) (h5 : p e) : ∀ x ∈ [a, b, c, d, e], p x :=
  List.forall_mem_cons.mpr ⟨h1, List.forall_mem_cons.mpr ⟨h2, List.forall_mem_cons.mpr ⟨h3, List.forall_mem_cons.mpr ⟨h4, List.forall_mem_cons.mpr ⟨h5, nofun⟩⟩⟩⟩⟩
theorem seq_src {a : Addr} {vs : List Value} {x : Str} {px : Pos} {h : Heap} {tk : Nat} {Q E : Value → Shared → Prop} (hl : h.IsList a vs.toArray ∨ h.IsTuple a vs.toArray)
    (k : ∀ ob St, Src PySem.Challenge.pw_in0083_01 c.w c.A (.Name x px) h.objs.size [h.objs.size, a] [h.objs.size] vs.length (fun i v _ => vs.toArray[i]? = some v) St → St 0 (h.push ob) → (∀ i h', St i h' → ∃ o, h'.get? h.objs.size = some o) → Q (.ref h.objs.size) (c.st (h.push ob) tk)) :
    wpAny c.M c.A (pyIter (.ref a)) Q E (c.st h tk) := by
  rcases hl with hl | hl
  · have ne : a ≠ h.objs.size := Nat.ne_of_lt (Heap.lt_size hl.choose_spec.1)
    exact wpAny_pyIter_list (s := c.st h tk) hl (k _ _ (.ofW (Walks.list c.hh _ _ ne vs.toArray)) ⟨⟨_, Heap.get?_push_size _ rfl, rfl, rfl⟩, hl.at fun o e => Heap.get?_push_of_some _ e⟩ fun i h hs => ⟨_, hs.1.choose_spec.1⟩)
  · have ne : a ≠ h.objs.size := Nat.ne_of_lt (Heap.lt_size hl.choose_spec.1)
    exact wpAny_pyIter_tuple (s := c.st h tk) hl (k _ _ (.ofW (Walks.tuple c.hh _ _ ne vs.toArray)) ⟨⟨_, Heap.get?_push_size _ rfl, rfl, rfl⟩, hl.at fun o e => Heap.get?_push_of_some _ e⟩ fun i h hs => ⟨_, hs.1.choose_spec.1⟩)
theorem In.forS {σ : Type} (psf : σ → List PV) (psx : σ → Str → List PV) (Wf : σ → Led) (J : Nat → σ → Prop) (st₀ : σ) {l : List Str} {a : Addr} {o₀ : AO} (ho : SeqRep a o₀ l) {x : Str} {px : Pos} {body : List Stmt} {h : Heap} {tk : Nat} (hE : PassesOwn c.M c.A c.env E) (hset : ∀ st v, SetAt F.locals (psf st) x (.str v) (psx st v))
    (hadr : ∀ st, (Wf st).map (·.1) = (Wf st₀).map (·.1)) (hj : J 0 st₀) (i : In c (psf st₀) ((a, o₀) :: Wf st₀) h)
    (turn : ∀ i v st I o lo, l[i]? = some v → J i st → Sx c (psx st v) ([(I, .obj o), (a, .obj lo)] ++ Wf st) body (Fp c psf Wf (J (i + 1)) [(I, .obj o), (a, .obj lo)] rest Φ E) E)
    (done : ∀ st, J l.length st → Sx c (psf st) (Wf st) rest Φ E) :
    IterQ c (.Name x px) body rest Φ E (.ref a) (c.st h tk) := by
  obtain ⟨lo, rlo, i'⟩ := i.pin
  obtain ⟨ys, rfl, hsq⟩ := ho lo rlo
  refine seq_src (hsq h (i'.sameO (.head _))) fun ob St S s0 hl => In.forG [h.objs.size] [(a, lo)] S s0 hE i' (fun _ _ e => Heap.get?_push_of_some _ e) (fun i h hs b hb => List.mem_singleton.mp hb ▸ hl i h hs) (fun _ hb => hb) (fun b hb => .inl hb) (fun b hb => List.mem_singleton.mp hb ▸ Nat.le_refl _) (nodup1 _) hadr hj ?_ fun st h tk hJ i => (done st ?_).run _ _ (i.drop (W1 := objL [(a, lo)]))
  · intro i st v own h tk hi hP hJ hown a'
    obtain ⟨o, rfl⟩ := own1 hown
    obtain ⟨q, hq, rfl⟩ := strs_at (List.getElem?_toArray ▸ hP)
    exact PyProof.Rows.assign_Name (a'.store (hset st q.1) ⟨_, rfl⟩ fun _ _ i2 => (turn i q.1 st _ o lo (map_at rfl hq) hJ).run _ _ i2)
  · rw [strValues, List.length_map] at hJ
    rw [List.length_map]
    exact hJ
theorem Sx.forA {σ : Type} (psf : σ → List PV) (psx : σ → Str → List PV) (Wf : σ → Led) (J : Nat → σ → Prop) (st₀ : σ) {l : List Str} {x : Str} {px pos : Pos} {iter : PySem.Expr} {body : List Stmt} (hE : PassesOwn c.M c.A c.env E) (hi : Ea c (psf st₀) (Wf st₀) iter (.strs l)) (hset : ∀ st v, SetAt F.locals (psf st) x (.str v) (psx st v))
    (hadr : ∀ st, (Wf st).map (·.1) = (Wf st₀).map (·.1)) (hj : J 0 st₀)
    (turn : ∀ i v st I o a lo, l[i]? = some v → J i st → Sx c (psx st v) ([(I, .obj o), (a, .obj lo)] ++ Wf st) body (Fp c psf Wf (J (i + 1)) [(I, .obj o), (a, .obj lo)] rest Φ E) E)
    (done : ∀ st, J l.length st → Sx c (psf st) (Wf st) rest Φ E)
    (hfs : ∀ v, foldedSetIterable iter c.env v = pure v := by intro _; rfl) : Sx c (psf st₀) (Wf st₀) (.For (.Name x px) iter body [] pos :: rest) Φ E :=
  Sx.fors (fun h tk i => hi _ _ _ _ i fun a h' tk' i' => i'.forS psf psx Wf J st₀ .strs hE hset hadr hj (fun i v st I o lo => turn i v st I o a lo) done) hfs
theorem Sx.forN {σ : Type} (psf : σ → List PV) (psx : σ → Str → List PV) (Wf : σ → Led) (J : Nat → σ → Prop) (st₀ : σ) {l : List Str} {a : Addr} {o₀ : AO} {x : Str} {px pos : Pos} {iter : PySem.Expr} {body : List Stmt} (hE : PassesOwn c.M c.A c.env E) (hi : Ep c (psf st₀) ((a, o₀) :: Wf st₀) iter (.ref a)) (hset : ∀ st v, SetAt F.locals (psf st) x (.str v) (psx st v))
    (hadr : ∀ st, (Wf st).map (·.1) = (Wf st₀).map (·.1)) (hj : J 0 st₀)
    (turn : ∀ i v st I o lo, l[i]? = some v → J i st → Sx c (psx st v) ([(I, .obj o), (a, .obj lo)] ++ Wf st) body (Fp c psf Wf (J (i + 1)) [(I, .obj o), (a, .obj lo)] rest Φ E) E)
    (done : ∀ st, J l.length st → Sx c (psf st) (Wf st) rest Φ E)
    (hfs : ∀ v, foldedSetIterable iter c.env v = pure v := by intro _; rfl) (ho : SeqRep a o₀ l := by exact .strs) : Sx c (psf st₀) ((a, o₀) :: Wf st₀) (.For (.Name x px) iter body [] pos :: rest) Φ E :=
  Sx.fors (fun h tk i => hi _ _ _ _ i fun v h' tk' hv i' => by cases hv; exact i'.forS psf psx Wf J st₀ ho hE hset hadr hj turn done) hfs
theorem In.unpack2 {x y : Str} {px py pos : Pos} {k : Nat} {T : Addr} {u v : Value} {pu pv : PV} {ps1 ps2 : List PV} {h : Heap} {tk : Nat} {Q : Unit → Shared → Prop} (i : In c ps W h) (s1 : SetAt F.locals ps x pu ps1) (s2 : SetAt F.locals ps1 y pv ps2) (hT : IsTup h T #[u, v] ∨ h.IsList T #[u, v]) (ru : pu.rep u) (rv : pv.rep v)
    (hq : ∀ h' tk', In c ps2 W h' → Q () (c.st h' tk')) : wpAny c.M c.A (PySem.assign (.Tuple [.Name x px, .Name y py] k pos) c.env (.ref T)) Q E (c.st h tk) := by
  obtain ⟨m, news, hF, hN, hf, hl, nd⟩ := i
  have fin : ∀ h', Fr c.h₀ c.env.locals h' m → News c.h₀ c.env.locals h' news → wpAny c.M c.A (assignInOrder ((assignEach [.Name x px, .Name y py] c.env).map (·.2)) [u, v]) Q E (c.st h' tk) := fun h' F' N' =>
    assignInOrder_cons (PyProof.Rows.assign_Name (In.store s1 ru ⟨m, news, F', N', hf, hl, nd⟩ fun _ _ i5 => assignInOrder_cons (PyProof.Rows.assign_Name (i5.store s2 rv fun _ _ i6 => assignInOrder_nil (hq _ _ i6)))))
  rcases hT with hT | hT
  · exact unpackN_ (s := c.st h tk) hF hN hT c.hh rfl rfl fin
  · exact kun_list (s := c.st h tk) hF hN hT c.hh rfl rfl fin
theorem Sx.forRefs {σ : Type} (psf : σ → List PV) (psx : σ → PV → PV → List PV) (Wf : σ → Led) (J : Nat → σ → Prop) (st₀ : σ) {rs : List Addr} {l : Addr} (P : Nat → PV × PV) {x y z : Str} {px py pz p1 pos : Pos} {k : Nat} {body : List Stmt} (hE : PassesOwn c.M c.A c.env E)
    (hi : At F.locals (psf st₀) z (.ref l)) (hl : c.h₀.IsList l (rs.map Value.ref).toArray) (hr : ∀ i r, rs[i]? = some r → ∃ u v, c.h₀.IsList r #[u, v] ∧ (P i).1.rep u ∧ (P i).2.rep v)
    (hset : ∀ st p q, ∃ ps1, SetAt F.locals (psf st) x p ps1 ∧ SetAt F.locals ps1 y q (psx st p q)) (hadr : ∀ st, (Wf st).map (·.1) = (Wf st₀).map (·.1)) (hj : J 0 st₀)
    (turn : ∀ i st I o, i < rs.length → J i st → Sx c (psx st (P i).1 (P i).2) ([(I, .obj o)] ++ Wf st) body (Fp c psf Wf (J (i + 1)) [(I, .obj o)] rest Φ E) E)
    (done : ∀ st, J rs.length st → Sx c (psf st) (Wf st) rest Φ E) : Sx c (psf st₀) (Wf st₀) (.For (.Tuple [.Name x px, .Name y py] k p1) (.Name z pz) body [] pos :: rest) Φ E := by
  refine Sx.fors (fun h tk i => Ep.name hi (by nofun) _ _ _ _ i fun v h' tk' hv i' => ?_)
  cases hv
  have hL := i'.base hl
  refine wpAny_pyIter_list (s := c.st h' tk') hL (In.forG [h'.objs.size] [] (Src.ofList c.hh _ l (Nat.ne_of_lt (Heap.lt_size hL.choose_spec.1)) rs) ⟨⟨_, Heap.get?_push_size _ rfl, rfl, rfl⟩, hL.at fun o e => Heap.get?_push_of_some _ e⟩ hE i' (fun _ _ e => Heap.get?_push_of_some _ e) (fun i h hs b hb => List.mem_singleton.mp hb ▸ ⟨_, hs.1.choose_spec.1⟩) (fun _ hb => hb) (fun b hb => ?_) (fun b hb => List.mem_singleton.mp hb ▸ Nat.le_refl _) (nodup1 _) hadr hj ?_ fun st h tk hJ i => (done st ?_).run _ _ i)
  · rcases List.mem_cons.mp hb with e | hb
    · exact .inl (e ▸ .head _)
    · exact .inr (List.mem_singleton.mp hb ▸ ⟨_, hl.choose_spec.1⟩)
  · rintro i st v own h tk hi ⟨r, hir, rfl⟩ hJ hown a'
    obtain ⟨o, rfl⟩ := own1 hown
    obtain ⟨u, v, hrl, r1, r2⟩ := hr i r hir
    obtain ⟨ps1, s1, s2⟩ := hset st (P i).1 (P i).2
    exact a'.unpack2 s1 s2 (.inr (a'.base hrl)) r1 r2 fun _ _ i6 => (turn i st _ o (List.getElem?_eq_some_iff.mp hir).1 hJ).run _ _ i6
  · rwa [List.size_toArray, List.length_map] at hJ
theorem call1T {T : String} {x : Str} {pz p2 : Pos} {e : PySem.Expr} {K : PV → Led → Prop} {h : Heap} {tk : Nat} {Q E : Value → Shared → Prop} (b : BVal x (.type T)) (hk : F.scope.names.lookup x = some .globalImplicit) (hi : En c ps W e K) (he : CallEq c (.Name x pz) [e] p2) (hst : starEach [e] c.env = (false, eval e c.env) :: starEach [] c.env) (i : In c ps W h)
    (hq : ∀ p W' v h' tk', K p W' → p.rep v → In c ps W' h' → wpAny c.M c.A (PySem.call (.type T) [v]) Q E (c.st h' tk')) : wpAny c.M c.A (eval (.Call (.Name x pz) [e] [] p2) c.env) Q E (c.st h tk) := by
  obtain ⟨m, news, hF, _⟩ := _root_.id i
  exact Call_ (Cx.nmB hF (b.n _) b.b b.u (callWith_type1 (args_cons (hi _ _ _ _ i fun p W' v h' tk' hk hr i' => args_nil (hq p W' v h' tk' hk hr i')) hst) hst) hk b.d) he
theorem In.forEnum {σ : Type} {psf : σ → List PV} {psx : σ → PV → PV → List PV} {Wf : σ → Led} {J : Nat → σ → Prop} {st₀ : σ} {l : List PV} {vs : List Value} {a : Addr} {lo : Obj} {x y : Str} {px py p1 : Pos} {k : Nat} {body : List Stmt} {h : Heap} {tk : Nat} (hE : PassesOwn c.M c.A c.env E)
    (i : In c (psf st₀) (objL [(a, lo)] ++ Wf st₀) h) (hL : h.IsList a vs.toArray) (hvs : reps l vs) (hset : ∀ st p q, ∃ ps1, SetAt F.locals (psf st) x p ps1 ∧ SetAt F.locals ps1 y q (psx st p q)) (hadr : ∀ st, (Wf st).map (·.1) = (Wf st₀).map (·.1)) (hj : J 0 st₀)
    (turn : ∀ i st v I1 o1 I2 o2, l[i]? = some v → J i st → Sx c (psx st (.int i) v) ([(I1, .obj o1), (I2, .obj o2), (a, .obj lo)] ++ Wf st) body (Fp c psf Wf (J (i + 1)) [(I1, .obj o1), (I2, .obj o2), (a, .obj lo)] rest Φ E) E)
    (done : ∀ st, J l.length st → Sx c (psf st) (objL [(a, lo)] ++ Wf st) rest Φ E) : wpAny c.M c.A (PySem.call (.type "enumerate") [.ref a]) (IterQ c (.Tuple [.Name x px, .Name y py] k p1) body rest Φ E) E (c.st h tk) := by
  have hlt : @LT.lt Nat _ a h.objs.size := Heap.lt_size hL.choose_spec.1
  refine call_enumerate_list (s := c.st h tk) hL fun h₁ hen hit _ hkp => wpAny_pyIter_enum hen (In.forG [h.objs.size + 1, h.objs.size] [(a, lo)]
    (Src.ofU (WalksT.enumerate c.hh _ _ a (Nat.succ_ne_self _) (Nat.ne_of_lt (Nat.lt_succ_of_lt hlt)) (Nat.ne_of_lt hlt) vs.toArray)) ⟨⟨_, hen⟩, hit, hL.at fun o e => hkp _ _ e⟩ hE i hkp (fun i h hs => ?_) (fun _ hb => hb) (fun b hb => .inl hb)
    (List.forall_mem_cons.mpr ⟨Nat.le_succ _, List.forall_mem_cons.mpr ⟨Nat.le_refl _, nofun⟩⟩) (List.nodup_cons.mpr ⟨fun hm => Nat.succ_ne_self _ (List.mem_singleton.mp hm), nodup1 _⟩) hadr hj (fun i st v own h tk hi hP hJ hown a' => ?_) fun st h tk hJ i => (done st (reps_len hvs ▸ hJ)).run _ _ i)
  · exact List.forall_mem_cons.mpr ⟨hs.1.elim fun _ e => ⟨_, e⟩, List.forall_mem_cons.mpr ⟨⟨_, hs.2.1.choose_spec.1⟩, nofun⟩⟩
  · obtain ⟨T, vals, rfl, ⟨t, x, hx, rfl⟩, hT⟩ := hP
    obtain ⟨o1, q, rfl, g⟩ := own_cons hown
    obtain ⟨o2, rfl⟩ := own1 g
    have hlt : i < l.length := reps_len hvs ▸ hi
    obtain ⟨v', hv', hr⟩ := reps_get (q := l[i]) hvs (List.getElem?_eq_getElem hlt)
    obtain ⟨ps1, s1, s2⟩ := hset st (.int i) l[i]
    cases (List.getElem?_toArray ▸ hx).symm.trans hv'
    exact a'.unpack2 s1 s2 (.inl hT) ⟨_, rfl⟩ hr fun _ _ i6 => (turn i st l[i] _ o1 _ o2 (List.getElem?_eq_getElem hlt) hJ).run _ _ i6
theorem Sx.forEnum {σ : Type} (psf : σ → List PV) (psx : σ → PV → PV → List PV) (Wf : σ → Led) (J : Nat → σ → Prop) (st₀ : σ) {l : List PV} {o₀ : AO} {W₀ : Led} {K : PV → Led → Prop} {x y : Str} {px py pz p1 p2 pos : Pos} {k : Nat} {e : PySem.Expr} {body : List Stmt} (hE : PassesOwn c.M c.A c.env E)
    (b : BVal (Str.ofString "enumerate") (.type "enumerate")) (hk : F.scope.names.lookup (Str.ofString "enumerate") = some .globalImplicit) (hi : En c (psf st₀) W₀ e K) (hK : ∀ p W', K p W' → ∃ a, p = .ref a ∧ W' = (a, o₀) :: Wf st₀) (ho : ∀ ob, o₀.rep ob → ∃ vs n, ob.cls = .type "list" ∧ ob.data = .seq (List.toArray vs) n ∧ reps l vs)
    (hset : ∀ st p q, ∃ ps1, SetAt F.locals (psf st) x p ps1 ∧ SetAt F.locals ps1 y q (psx st p q)) (hadr : ∀ st, (Wf st).map (·.1) = (Wf st₀).map (·.1)) (hj : J 0 st₀)
    (turn : ∀ i st v I1 o1 I2 o2 a ao, K (.ref a) ((a, o₀) :: Wf st₀) → o₀.rep ao → l[i]? = some v → J i st → Sx c (psx st (.int i) v) ([(I1, .obj o1), (I2, .obj o2), (a, .obj ao)] ++ Wf st) body (Fp c psf Wf (J (i + 1)) [(I1, .obj o1), (I2, .obj o2), (a, .obj ao)] rest Φ E) E)
    (done : ∀ st a, K (.ref a) ((a, o₀) :: Wf st₀) → J l.length st → Sx c (psf st) ((a, o₀) :: Wf st) rest Φ E)
    (he : CallEq c (.Name (Str.ofString "enumerate") pz) [e] p2 := by exact rfl) (hst : starEach [e] c.env = (false, eval e c.env) :: starEach [] c.env := by rfl) : Sx c (psf st₀) W₀ (.For (.Tuple [.Name x px, .Name y py] k p1) (.Call (.Name (Str.ofString "enumerate") pz) [e] [] p2) body [] pos :: rest) Φ E := by
  refine Sx.fors fun h tk i => call1T b hk hi he hst i fun p W' v h' tk' hk hr i' => ?_
  obtain ⟨a, rfl, rfl⟩ := hK p W' hk
  cases hr
  obtain ⟨lo, rlo, i'⟩ := i'.pin
  obtain ⟨vs, nn, hcl, hda, hvs⟩ := ho _ rlo
  exact i'.forEnum hE ⟨_, i'.sameO (.head _), hcl, nn, hda⟩ hvs hset hadr hj (fun i st v I1 o1 I2 o2 hv hJ => turn i st v I1 o1 I2 o2 a lo hk rlo hv hJ) fun st hJ => ⟨fun h tk i => (done st a hk hJ).run h tk (i.unpin rlo)⟩
theorem In.forRng {σ : Type} {psf : σ → List PV} {psx : σ → Int → List PV} {Wf : σ → Led} {J : Nat → σ → Prop} {st₀ : σ} {n R : Nat} {x : Str} {px : Pos} {body : List Stmt} {t u v : Tok} {h : Heap} {tk : Nat} (hE : PassesOwn c.M c.A c.env E) (hn : n < 100000)
    (hr : h.get? R = some ({ cls := .type "range", dict := none, data := .fields #[.int 0 t, .int n u, .int 1 v], slots := #[] } : Obj)) (hset : ∀ st v, SetAt F.locals (psf st) x (.int v) (psx st v)) (hadr : ∀ st, (Wf st).map (·.1) = (Wf st₀).map (·.1)) (hj : J 0 st₀) (i : In c (psf st₀) (objL [] ++ Wf st₀) h)
    (turn : ∀ i st I o, i < n → J i st → Sx c (psx st i) ([(I, .obj o)] ++ Wf st) body (Fp c psf Wf (J (i + 1)) [(I, .obj o)] rest Φ E) E)
    (done : ∀ st, J n st → Sx c (psf st) (Wf st) rest Φ E) : IterQ c (.Name x px) body rest Φ E (.ref R) (c.st h tk) := by
  refine wpAny_pyIter_range (s := c.st h tk) (a := 0) (b := n) (c := 1) hr (small_one (by decide) (by decide) (Int.le_trans (by decide) (Int.natCast_nonneg n)) (Int.lt_trans (Int.ofNat_lt.mpr hn) (by decide))) ?_
  refine In.forG [h.objs.size] [] (.ofW (Walks.range c.hh _ 0 1 n)) ?_ hE i (fun _ _ e => Heap.get?_push_of_some _ e) (fun i h hs b hb => List.mem_singleton.mp hb ▸ ⟨_, hs⟩) (fun _ hb => hb) (fun b hb => .inl hb) (fun b hb => List.mem_singleton.mp hb ▸ Nat.le_refl _) (nodup1 _) hadr hj ?_ fun st h tk hJ i => (done st hJ).run _ _ i
  · show _ = _
    rw [range_size]
    exact Heap.get?_push_size h rfl
  · rintro i st v own h tk hi ⟨t, rfl⟩ hJ hown a'
    obtain ⟨o, rfl⟩ := own1 hown
    rw [Int.zero_add, Int.mul_one]
    exact PyProof.Rows.assign_Name (a'.store (hset st i) ⟨_, rfl⟩ fun _ _ i2 => (turn i st _ o hi hJ).run _ _ i2)
theorem Sx.forRng {σ : Type} (psf : σ → List PV) (psx : σ → Int → List PV) (Wf : σ → Led) (J : Nat → σ → Prop) (st₀ : σ) {n : Nat} {x : Str} {px pz p2 pos : Pos} {e : PySem.Expr} {body : List Stmt} (hE : PassesOwn c.M c.A c.env E)
    (b : BVal (Str.ofString "range") (.type "range")) (hk : F.scope.names.lookup (Str.ofString "range") = some .globalImplicit) (hi : Ep c (psf st₀) (Wf st₀) e (.int n)) (hn : n < 100000) (hset : ∀ st v, SetAt F.locals (psf st) x (.int v) (psx st v))
    (hadr : ∀ st, (Wf st).map (·.1) = (Wf st₀).map (·.1)) (hj : J 0 st₀)
    (turn : ∀ i st I o, i < n → J i st → Sx c (psx st i) ([(I, .obj o)] ++ Wf st) body (Fp c psf Wf (J (i + 1)) [(I, .obj o)] rest Φ E) E)
    (done : ∀ st, J n st → Sx c (psf st) (Wf st) rest Φ E)
    (he : CallEq c (.Name (Str.ofString "range") pz) [e] p2 := by exact rfl) (hst : starEach [e] c.env = (false, eval e c.env) :: starEach [] c.env := by rfl) : Sx c (psf st₀) (Wf st₀) (.For (.Name x px) (.Call (.Name (Str.ofString "range") pz) [e] [] p2) body [] pos :: rest) Φ E := by
  refine Sx.fors fun h tk i => call1T (K := fun p W' => p = .int n ∧ W' = Wf st₀) b hk (fun _ _ _ _ i hq => hi _ _ _ _ i fun v _ _ r i => hq _ _ v _ _ ⟨rfl, rfl⟩ r i) he hst i ?_
  rintro _ _ v h' tk' ⟨rfl, rfl⟩ ⟨t, rfl⟩ i'
  exact call_range_1 (s := c.st h' tk') (In.forRng hE hn (Heap.get?_push_size h' rfl) hset hadr hj (i'.stays fun _ _ e => Heap.get?_push_of_some _ e) turn done)
theorem In.forZip {σ : Type} {psf : σ → List PV} {psx : σ → PV → PV → List PV} {Wf : σ → Led} {J : Nat → σ → Prop} {st₀ : σ} {l : List (Addr × Obj)} {ys zs : List (Str × Tok)} {a b : Addr} {x y : Str} {px py p1 : Pos} {k : Nat} {body : List Stmt} {h : Heap} {tk : Nat} (hE : PassesOwn c.M c.A c.env E)
    (i : In c (psf st₀) (objL l ++ Wf st₀) h) (hx : h.IsList a (strValues ys).toArray) (hy : h.IsList b (strValues zs).toArray) (hfst : [a, b] = l.map (·.1)) (hl : ys.length = zs.length)
    (hset : ∀ st p q, ∃ ps1, SetAt F.locals (psf st) x p ps1 ∧ SetAt F.locals ps1 y q (psx st p q)) (hadr : ∀ st, (Wf st).map (·.1) = (Wf st₀).map (·.1)) (hj : J 0 st₀)
    (turn : ∀ i st u v own, (ys.map (·.1))[i]? = some u → (zs.map (·.1))[i]? = some v → J i st → Sx c (psx st (.str u) (.str v)) (own ++ Wf st) body (Fp c psf Wf (J (i + 1)) own rest Φ E) E)
    (done : ∀ st, J ys.length st → Sx c (psf st) (objL l ++ Wf st) rest Φ E) : wpAny c.M c.A (PySem.call (.type "zip") [.ref a, .ref b]) (IterQ c (.Tuple [.Name x px, .Name y py] k p1) body rest Φ E) E (c.st h tk) := by
  refine call_zip_2 (s := c.st h tk) hx hy fun h₁ hz hTI hTO hit1 hit2 _ hkp => wpAny_pyIter_zip hz (In.forG [h.objs.size + 4, h.objs.size + 2, h.objs.size + 3, h.objs.size, h.objs.size + 1] l
    (Src.ofU (WalksT.zip2 c.hh _ _ _ _ _ _ _ (zipApart_new (Heap.lt_size hx.choose_spec.1) (Heap.lt_size hy.choose_spec.1)) (strValues ys).toArray (strValues zs).toArray)) ⟨hz, hTI, ⟨_, _, hTO⟩, hit1, hit2, hx.at fun o e => hkp _ _ e, hy.at fun o e => hkp _ _ e⟩ hE i hkp (fun i h hs => ?_)
    (List.forall_mem_cons.mpr ⟨.head _, List.forall_mem_cons.mpr ⟨.tail _ (.tail _ (.head _)), fun b hb => .tail _ (.tail _ (.tail _ hb))⟩⟩) (hfst ▸ fun b hb => .inl hb)
    (all5 (Nat.le_add_right _ 4) (Nat.le_add_right _ 2) (Nat.le_add_right _ 3) (Nat.le_refl _) (Nat.le_add_right _ 1)) ?_ hadr hj (fun i st v own h tk hi hP hJ hown a' => ?_) fun st h tk hJ i => (done st ?_).run _ _ i)
  · exact all5 ⟨_, hs.1⟩ ⟨_, hs.2.1⟩ (hs.2.2.1.elim fun _ e => e.elim fun _ e => ⟨_, e⟩) ⟨_, hs.2.2.2.1.choose_spec.1⟩ ⟨_, hs.2.2.2.2.1.choose_spec.1⟩
  · exact (List.pairwise_map.mpr ((show [4, 2, 3, 0, 1].Pairwise (fun a b : Nat => a ≠ b) by decide).imp fun ne e => ne (Nat.add_left_cancel e)) : ([4, 2, 3, 0, 1].map (h.objs.size + ·)).Nodup)
  · obtain ⟨T, vals, rfl, ⟨x, y, hx, hy, rfl⟩, hT⟩ := hP
    obtain ⟨q1, hq1, rfl⟩ := strs_at (List.getElem?_toArray ▸ hx)
    obtain ⟨q2, hq2, rfl⟩ := strs_at (List.getElem?_toArray ▸ hy)
    obtain ⟨ps1, s1, s2⟩ := hset st (.str q1.1) (.str q2.1)
    exact a'.unpack2 s1 s2 (.inl hT) ⟨_, rfl⟩ ⟨_, rfl⟩ fun _ _ i6 => (turn i st q1.1 q2.1 (objL (own ++ l)) (map_at rfl hq1) (map_at rfl hq2) hJ).run _ _ i6
  · rw [List.size_toArray, List.size_toArray, strValues, strValues, List.length_map, List.length_map, ← hl, Nat.min_self] at hJ
    exact hJ
theorem Sx.forZip {σ : Type} (psf : σ → List PV) (psx : σ → PV → PV → List PV) (Wf : σ → Led) (J : Nat → σ → Prop) (st₀ : σ) {la lb : List Str} {a b : Addr} {x y z1 z2 : Str} {px py pz q1 q2 p1 p2 pos : Pos} {k : Nat} {body : List Stmt} (hE : PassesOwn c.M c.A c.env E)
    (bz : BVal (Str.ofString "zip") (.type "zip")) (hk : F.scope.names.lookup (Str.ofString "zip") = some .globalImplicit) (h1 : At F.locals (psf st₀) z1 (.ref a)) (h2 : At F.locals (psf st₀) z2 (.ref b)) (hl : la.length = lb.length)
    (hset : ∀ st p q, ∃ ps1, SetAt F.locals (psf st) x p ps1 ∧ SetAt F.locals ps1 y q (psx st p q)) (hadr : ∀ st, (Wf st).map (·.1) = (Wf st₀).map (·.1)) (hj : J 0 st₀)
    (turn : ∀ i st u v own, la[i]? = some u → lb[i]? = some v → J i st → Sx c (psx st (.str u) (.str v)) (own ++ Wf st) body (Fp c psf Wf (J (i + 1)) own rest Φ E) E)
    (done : ∀ st, J la.length st → Sx c (psf st) ((a, .strs la) :: (b, .strs lb) :: Wf st) rest Φ E)
    (he : CallEq c (.Name (Str.ofString "zip") pz) [.Name z1 q1, .Name z2 q2] p2 := by exact rfl) (hst : starEach [.Name z1 q1, .Name z2 q2] c.env = (false, eval (.Name z1 q1) c.env) :: starEach [.Name z2 q2] c.env := by rfl) (hst2 : starEach [.Name z2 q2] c.env = (false, eval (.Name z2 q2) c.env) :: starEach [] c.env := by rfl) :
    Sx c (psf st₀) ((a, .strs la) :: (b, .strs lb) :: Wf st₀) (.For (.Tuple [.Name x px, .Name y py] k p1) (.Call (.Name (Str.ofString "zip") pz) [.Name z1 q1, .Name z2 q2] [] p2) body [] pos :: rest) Φ E := by
  refine Sx.fors fun h tk i => ?_
  obtain ⟨m, news, hF, _⟩ := _root_.id i
  refine Call_ (Cx.nmB hF (bz.n _) bz.b bz.u (callWith_type1 (args_cons (Ep.name h1 (by nofun) _ _ _ _ i fun v h' tk' r1 i1 => args_cons (Ep.name h2 (by nofun) _ _ _ _ i1 fun v2 h' tk' r2 i' => args_nil ?_) hst2) hst) hst) hk bz.d) he
  cases r1
  cases r2
  obtain ⟨_, g1, ys, n1, rfl, rfl⟩ := i'.get (.head _)
  obtain ⟨_, g2, zs, n2, rfl, rfl⟩ := i'.get (.tail _ (.head _))
  obtain ⟨l, r, i'⟩ := i'.pins (W₀ := [(a, .strs _), (b, .strs _)])
  rw [List.length_map, List.length_map] at hl
  exact i'.forZip hE ⟨_, g1, rfl, n1, rfl⟩ ⟨_, g2, rfl, n2, rfl⟩ (lrep_map r) hl hset hadr hj turn fun st hJ => ⟨fun h tk i => (done st (by rw [List.length_map]; exact hJ)).run h tk (i.unpins r)⟩
end
noncomputable def RLed (L : PV → Led → Prop) (h : Heap) (v : Value) (h' : Heap) : Prop := ∃ p W news, L p W ∧ p.rep v ∧ lrep W news ∧ (W.map (·.1)).Nodup ∧ ∀ q ∈ news, h.get? q.1 = none ∧ h'.get? q.1 = some q.2
theorem RLed.of {F : FI} {N : Nat} {c : Cx F N} {ps : List PV} {W : Led} {p : PV} {v : Value} {h : Heap} {L : PV → Led → Prop} (i : In c ps W h) (hL : L p W) (hv : p.rep v) : RLed L c.h₀ v h := by
  obtain ⟨m, news, hF, hN, hf, hl, nd⟩ := i
  exact ⟨p, W, news, hL, hv, hl, nd, fun q hq => ⟨(hN q hq).2.2, (hN q hq).1⟩⟩
end
section
open PySem PySem.W PySem.Calls PyProof.Rows
theorem fm_congr {α β : Type} {f : α → Option β} {g : α → β} : ∀ (l : List α), (∀ k ∈ l, f k = some (g k)) → l.filterMap f = l.map g
  | [], _ => rfl
  | a :: l, h => by rw [List.filterMap_cons, h a (.head _), List.map_cons, fm_congr l fun k hk => h k (.tail _ hk)]
theorem slicePick_rev (items : Array Value) : slicePick items none none (some (-1)) = items.toList.reverse.toArray := by
  have e : sliceRange (sliceBounds none none (some (-1)) items.size).1 (sliceBounds none none (some (-1)) items.size).2.1 (sliceBounds none none (some (-1)) items.size).2.2 = (List.range items.size).map fun k => items.size - 1 - k := by
    have h1 : sliceBounds none none (some (-1)) items.size = ((items.size : Int) - 1, -1, -1) := rfl
    rw [h1]
    unfold sliceRange
    dsimp only
    have h0 : ¬ ((-1 : Int) > 0) := by decide
    rw [if_neg h0]
    have hc : (if (items.size : Int) - 1 > -1 then ((items.size : Int) - 1 - -1 - -1 - 1) / (- -1) else 0).toNat = items.size := by
      by_cases hn : (items.size : Int) - 1 > -1
      · rw [if_pos hn]
        have e : (- -1 : Int) = 1 := by decide
        rw [e, Int.ediv_one]; lia
      · rw [if_neg hn]; lia
    rw [hc]
    apply List.map_congr_left
    intro k hk
    rw [Int.neg_one_mul, ← Int.sub_eq_add_neg, Int.sub_sub]
    exact (Int.toNat_sub items.size (1 + k)).trans (Nat.sub_sub items.size 1 k).symm
  unfold slicePick
  rw [e, List.filterMap_map]
  have e2 : (List.range items.size).filterMap ((fun x => items[x]?) ∘ fun k => items.size - 1 - k) = (List.range items.size).map fun k => (items.toList.reverse[k]?).getD default := by
    apply fm_congr
    intro k hk
    have hk' : k < items.size := List.mem_range.mp hk
    have : items.size - 1 - k < items.size := by lia
    simp [this, hk', List.getElem_reverse]
  rw [e2]
  congr 1
  apply List.ext_getElem
  · simp
  · intro i h1 h2
    simp at h1
    simp [h1]
noncomputable def lawNames (t : Str) : List Str := ((Txt.split (Txt.lower t) (Str.ofString ".")).reverse).filter (fun a => !(a == Str.ofString ""))
noncomputable def isS (q : Str → Bool) (v : Value) : Bool := match v with | .str a _ => q a | _ => false
theorem strs_filter (q : Str → Bool) (l : List (Str × Tok)) : (strValues l).filter (isS q) = strValues (l.filter fun p => q p.1) := by
  unfold strValues
  rw [List.filter_map]
  rfl
theorem map_filter_fst (q : Str → Bool) (l : List (Str × Tok)) : (l.filter fun p => q p.1).map (·.1) = (l.map (·.1)).filter q := by
  rw [List.filter_map]; rfl
theorem strValues_reverse (l : List (Str × Tok)) : (strValues l).reverse = strValues l.reverse := by
  unfold strValues; rw [List.map_reverse]
theorem RList.intro {D : Addr} {n : Nat} {ys : List (Str × Tok)} {h h' : Heap} {ss : List Str} (hD : h.get? D = none) (ho : h'.get? D = some { cls := .type "list", data := .seq (strValues ys).toArray n }) (e : ys.map (·.1) = ss) : RList ss h (.ref D) h' := ⟨D, n, ys, rfl, hD, ho, e⟩
theorem isList_of {h : Heap} {D : Addr} {ys : Array Value} {n : Nat} (ho : h.get? D = some { cls := .type "list", data := .seq ys n }) : h.IsList D ys := ⟨_, ho, rfl, n, rfl⟩
end
section
open PySem PySem.W PySem.Calls PyProof.Rows
noncomputable def poolS : List Str := [Str.ofString "a", Str.ofString "B", Str.ofString "7", Str.ofString "ab", Str.ofString "local", Str.ofString "", Str.ofString "Local", Str.ofString "com", Str.ofString "a7", Str.ofString "co"]
noncomputable def labS : List Str := Str.ofString "b" :: Str.ofString "Com" :: poolS
section
variable {prog : Program} {w : World} {A : Around} {E : Value → Shared → Prop} {s : Shared} {h₀ : Heap} {L D : Addr} {m : PySem.Str → Option Value} {news news' : List (Addr × Obj)} {n : Nat}
theorem pop0_strs {q : Str × Tok} {r : List (Str × Tok)} {u : Tok} {Q : Value → Shared → Prop} (F : Fr h₀ L s.heap m) (N : News h₀ L s.heap news) (U : Upd D (listOf (strValues (q :: r)).toArray n) (listOf (strValues r).toArray (n + 1)) news news') (hz : r.length ≤ 100)
    (h : ∀ h', Fr h₀ L h' m → News h₀ L h' news' → Q (.str q.1 q.2) { s with heap := h' }) : wpAny (model prog w) A (call (.builtin "list.pop") [.ref D, .int 0 u]) Q E s := by
  refine kl_popAt (k := 0) (p := []) (q := strValues r) (y := .str q.1 q.2) F N rfl ?_ rfl U ?_ h
  · simp [seqIndex?, strValues]
  · rw [sizeLine_eq]; simp [strValues]; lia
theorem ins0_strs {q : Str × Tok} {r : List (Str × Tok)} {u : Tok} {Q : Value → Shared → Prop} (F : Fr h₀ L s.heap m) (N : News h₀ L s.heap news) (U : Upd D (listOf (strValues r).toArray n) (listOf (strValues (q :: r)).toArray (n + 1)) news news') (hz : r.length ≤ 100)
    (h : ∀ h', Fr h₀ L h' m → News h₀ L h' news' → Q .none { s with heap := h' }) : wpAny (model prog w) A (call (.builtin "list.insert") [.ref D, .int 0 u, .str q.1 q.2]) Q E s := by
  refine kl_insert (l := strValues (q :: r)) F N rfl ?_ U ?_ h
  · show kl_ins (strValues r) 0 (.str q.1 q.2) = _
    rfl
  · rw [sizeLine_eq]; simp [strValues]; lia
end
end
section
open PySem PySem.W PySem.Calls PyProof.Rows
theorem BinOk.mod {a b : Int} (hb : b ≠ 0) : BinOk .Mod (.int a) (.int b) (.int (a.fmod b)) := by
  rintro w A s u v Q E ⟨t, rfl⟩ ⟨t', rfl⟩ hq
  exact PyProof.Rows.mod_int' hb (hq _ _ ⟨_, rfl⟩)
theorem BinOk.pow {a b : Int} (h0 : 0 ≤ b) (h1 : b ≤ 1000000) (ha : a.natAbs < 2 ^ 64) : BinOk .Pow (.int a) (.int b) (.int (a ^ b.toNat)) := by
  rintro w A s u v Q E ⟨t, rfl⟩ ⟨t', rfl⟩ hq
  exact PyProof.Rows.pow_int_small h0 h1 ha (hq _ _ ⟨_, rfl⟩)
theorem BinOk.fdiv {a b : Int} (hb : b ≠ 0) (h : b.natAbs < 1073741824) : BinOk .FloorDiv (.int a) (.int b) (.int (a.fdiv b)) := by
  rintro w A s u v Q E ⟨t, rfl⟩ ⟨t', rfl⟩ hq
  exact PyProof.Rows.floordiv_int hb (hq _ _ ⟨_, rfl⟩) (.inl (PyProof.noPylong_small h))
theorem reps_ints {vs : List Value} {ns : List Int} (h : IntsAre vs ns) : reps (ns.map .int) vs := by
  induction h with
  | nil => trivial
  | cons n t _ ih => exact ⟨⟨t, rfl⟩, ih⟩
theorem UpdL.mem {a : Addr} {x x' : AO} {W W' : Led} (u : UpdL a x x' W W') : (a, x) ∈ W := by
  induction u with
  | head => exact .head _
  | tail _ ih => exact .tail _ ih
noncomputable def MutOk (id : String) (qs : List PV) (x x' : AO) : Prop := ∀ (ob : Obj) (vs : List Value), x.rep ob → reps qs vs → ∃ its n ob', ob = PySem.W.listOf its n ∧ x'.rep ob' ∧
  ∀ (w : World) (A : Around) (s : Shared) (h₀ : Heap) (L : Addr) (m : Str → Option Value) (news news' : List (Addr × Obj)) (D : Addr) (Q E : Value → Shared → Prop), Fr h₀ L s.heap m → News h₀ L s.heap news → Upd D ob ob' news news' → (∀ v h', Fr h₀ L h' m → News h₀ L h' news' → Q v { s with heap := h' }) →
    wpAny (model PySem.Challenge.pw_in0083_01 w) A (call (.builtin id) (.ref D :: vs)) Q E s
theorem MutOk.pop0 {x : Str} {l : List Str} (hl : l.length ≤ 100) : MutOk "list.pop" [.int 0] (.strs (x :: l)) (.strs l) := by
  rintro ob vs ⟨ys, n, rfl, hy⟩ hv
  obtain ⟨v, rfl, t, rfl⟩ := reps1 hv
  cases ys with
  | nil => cases hy
  | cons q r =>
    have hr : r.map (·.1) = l := (List.cons.inj hy).2
    refine ⟨_, n, _, rfl, ⟨r, n + 1, rfl, hr⟩, fun w A s h₀ L m news news' D Q E hF hN U hq => pop0_strs hF hN U ?_ fun h' F' N' => hq _ _ F' N'⟩
    rw [← hr, List.length_map] at hl; exact hl
theorem MutOk.ins0 {x : Str} {l : List Str} (hl : l.length ≤ 100) : MutOk "list.insert" [.int 0, .str x] (.strs l) (.strs (x :: l)) := by
  rintro ob vs ⟨r, n, rfl, hr⟩ hv
  obtain ⟨v, u, rfl, ⟨t, rfl⟩, t', rfl⟩ := reps2 hv
  refine ⟨_, n, _, rfl, ⟨(x, t') :: r, n + 1, rfl, by rw [List.map_cons, hr]⟩, fun w A s h₀ L m news news' D Q E hF hN U hq => ins0_strs (q := (x, t')) hF hN U ?_ fun h' F' N' => hq _ _ F' N'⟩
  rw [← hr, List.length_map] at hl; exact hl
section
variable {F : FI} {N : Nat} {c : Cx F N} {ps : List PV} {W : Led} {Φ : Flow → Shared → Prop} {E : Value → Shared → Prop} {rest : List Stmt}
theorem Sx.mut {pl : Sem Bool} {xe e : PySem.Expr} {es : List PySem.Expr} {name : Str} {id : String} {ap p2 pos : Pos} {a : Addr} {x x' : AO} {qs : List PV} {W' : Led} (slot : Slot "list" name id) (hty : typeOf (.builtin id) = pure (.type "method_descriptor")) (h1 : Ep c ps W xe (.ref a)) (ha : Es c ps W (e :: es) qs) (u : UpdL a x x' W W') (o : MutOk id qs x x') (hx : ∃ l, x = .strs l ∨ ∃ l, x = .list l) (k : Sx c ps W' rest Φ E)
    (he : McOk c xe name ap p2 (e :: es) pl := by exact rfl) (hst : starEach (e :: es) c.env = (false, eval e c.env) :: starEach es c.env := by rfl) (hpl : (backTo p2 (starEach es c.env)).any (·.1) = false := by rfl) (hsw : swapsWith (.Call (.Attribute xe name ap) (e :: es) [] p2) Option.none pos.line c.env = pure false := by rfl) (hin : interactive c.env = false := by rfl) :
    Sx c ps W (.Expr (.Call (.Attribute xe name ap) (e :: es) [] p2) pos :: rest) Φ E := by
  refine ⟨fun h tk i => ?_⟩
  refine wpAny_execs_cons (wpAny_Expr_any (MethodCall_ (h1 _ _ _ _ i fun ov h' tk' r1 i1 => ?_) he) hin hsw)
  cases r1
  obtain ⟨m, news, hF, hN, hf, hl, nd⟩ := _root_.id i1
  obtain ⟨ob, g1, g2, g3⟩ := u.upd nd hl
  obtain ⟨its, n, rfl⟩ : ∃ its n, ob = PySem.W.listOf its n := by
    obtain ⟨l, e | ⟨l, e⟩⟩ := hx
    · subst e; obtain ⟨ys, n, e, _⟩ := g1; exact ⟨_, n, e⟩
    · subst e; obtain ⟨ys, n, e, _⟩ := g1; exact ⟨_, n, e⟩
  refine listMethod_K hN g2 slot hty (callWith_method1 (ha _ _ _ _ _ i1 fun vs h2' tk2 r2 i2 => ?_) hst hpl)
  obtain ⟨m2, news2, F2, N2, f2, l2, n2⟩ := i2
  obtain ⟨ob2, b1, b2, b3⟩ := u.upd n2 l2
  obtain ⟨_, _, ob', _, b4, run⟩ := o ob2 vs b1 r2
  obtain ⟨news', U, l'⟩ := b3 _ b4
  exact run _ _ (c.st h2' tk2) _ _ _ _ _ _ _ _ F2 N2 U fun v h' F' N' => k.run _ _ ⟨m2, news', F', N', f2, l', by rw [u.fst.1]; exact n2⟩
theorem Es.s {x : Str} {k : Nat} {pos : Pos} {es : List PySem.Expr} {qs : List PV} (h : Es c ps W es qs) : Es c ps W (.Constant (.str x) k pos :: es) (.str x :: qs) := .cons .str h
theorem En.strs {es : List PySem.Expr} {pos : Pos} {l : List Str} (h : Es c ps W es (l.map .str)) (hl : l.length ≤ 1000000) : En c ps W (.List es pos) (fun p W' => ∃ a, p = .ref a ∧ W' = (a, .strs l) :: W) := by
  intro hh tk Q E i hq
  refine List_ (h _ _ _ _ _ i fun vs h' tk' hr i' => ?_)
  obtain ⟨ys, rfl, rfl⟩ := reps_strs hr
  refine i'.newL (o := .strs (ys.map (·.1))) ⟨ys, 0, rfl, rfl⟩ ?_ fun a h'' tk'' i'' => hq _ _ _ _ _ ⟨a, rfl, rfl⟩ rfl i''
  rw [List.length_map] at hl
  unfold strValues
  rw [List.length_map]; exact hl
theorem Ea.upto {v : PySem.Expr} {k : Nat} {p p2 pos : Pos} {a : Addr} {y : Int} {vs : List Value} {ns : List Int} (h1 : Ep c ps W v (.ref a)) (hb : c.h₀.IsList a vs.toArray) (hv : IntsAre vs ns) (hy : 0 ≤ y) (hn : ns.length ≤ 1000000)
    (hs : ∀ d, subscripted (.Slice Option.none (some (.Constant (.int y) k p2)) Option.none p) false (.ref a) (.ref d) = operate [.ref d, .ref a] (getItem (.ref a) (.ref d)) := by intro _; rfl) (ht : ∀ r, letTemporaryGo v (.ref a) r = pure () := by intro _; rfl) :
    Ea c ps W (.Subscript v (.Slice Option.none (some (.Constant (.int y) k p2)) Option.none p) pos) (.list ((ns.take y.toNat).map .int)) := by
  intro h tk Q E i hq
  refine Subscript_ (h1 _ _ _ _ i fun o h' tk' ho i1 => wpAny_Slice (evalPart_none_step (evalPart_some_step (wpAny_Constant_int (evalPart_none_step ?_)))))
  cases ho
  have hb' := i1.base hb
  obtain ⟨m, news, hF, hN, hf, hl, nd⟩ := i1
  have hm := kmk_upto hv hy
  refine kmk_slice (s := { c.st h' tk' with toks := _ }) hF hN hb' .none (.int _ _) (fun D h3 F' N' lt => hq _ _ _ ⟨m, _, F', N', hf, ⟨⟨rfl, _, 0, by rw [Array.toArray_toList], reps_ints hm⟩, hl⟩, ?_⟩) (hs _) ht (by rw [List.size_toArray, hv.length, sizeLine_eq]; lia)
  rw [List.map_cons, List.nodup_cons]
  refine ⟨fun hm => ?_, nd⟩
  rw [lrep_map hl] at hm
  obtain ⟨q, hq, e⟩ := List.mem_map.mp hm
  exact absurd (lt q hq) (by rw [e]; exact Nat.lt_irrefl _)
end
structure GoodS (l : List Str) : Prop where
  lo : 1 ≤ l.length
  hi : l.length ≤ 4
  lab : ∀ q ∈ l, q ∈ labS
theorem GoodS.snoc {l : List Str} {x : Str} (h1 : l.length ≤ 3) (h2 : ∀ q ∈ l, q ∈ labS) (hx : x ∈ labS) : GoodS (l ++ [x]) :=
  ⟨by rw [List.length_append]; exact Nat.le_add_left _ _, by rw [List.length_append]; exact Nat.succ_le_succ h1, fun q hq => (List.mem_append.mp hq).elim (h2 q) fun h => by rw [List.mem_singleton.mp h]; exact hx⟩
theorem GoodS.cons {l : List Str} {x : Str} (h1 : l.length ≤ 3) (h2 : ∀ q ∈ l, q ∈ labS) (hx : x ∈ labS) : GoodS (x :: l) :=
  ⟨Nat.succ_le_succ (Nat.zero_le _), Nat.succ_le_succ h1, fun q hq => (List.mem_cons.mp hq).elim (fun h => by rw [h]; exact hx) (h2 q)⟩
noncomputable abbrev T3 := List Str × List Str × List Str
structure S3r where
  t : T3
  place : PV
  x : PV
  v : PV
  row : PV
noncomputable def W3r (rows a b c pool : Addr) (t : T3) : Led := [(rows, .list [.ref a, .ref b, .ref c]), (c, .strs t.2.2), (b, .strs t.2.1), (a, .strs t.1), (pool, .strs poolS)]
def F243 : FI where
  qual := Str.ofString "_law_rows"
  scope := { kind := .function, names := [(Str.ofString "script", .local), (Str.ofString "pool", .local), (Str.ofString "rows", .local), (Str.ofString "place", .local), (Str.ofString "x", .local), (Str.ofString "v", .local), (Str.ofString "row", .local), (Str.ofString "enumerate", .globalImplicit), (Str.ofString "len", .globalImplicit)], isGenerator := false, isCoroutine := false }
  f := 243
  cd := .ref 242
  locals := [Str.ofString "script", Str.ofString "pool", Str.ofString "rows", Str.ofString "place", Str.ofString "x", Str.ofString "v", Str.ofString "row"]
noncomputable def L243 (p : PV) (W : Led) : Prop := ∃ rows a b c A B C, p = .ref rows ∧ W = [(rows, .list [.ref a, .ref b, .ref c]), (c, .strs C), (b, .strs B), (a, .strs A)] ∧ GoodS A ∧ GoodS B ∧ GoodS C
theorem t243 (l : Addr) (ns : List Int) (vs : List Value) (hn : ns.length ≤ 63) (hv : IntsAre vs ns) : Con 6 243 [.ref l] (fun h => h.IsList l vs.toArray) (RLed L243) := by
  refine Con.of (F := F243) (N := 5) (ps := [.ref l, .unset, .unset, .unset, .unset, .unset, .unset]) (binds := [(Str.ofString "script", .ref l)]) (fun q => by k_is) (fun q => by k_is) (fun s => BindsTo.of_eq (by kernel_rfl)) (locs rfl) rfl rfl (by decide) ⟨⟨_, rfl, rfl⟩, rfl, rfl, rfl, rfl, rfl, rfl, trivial⟩ fun c Φ E hE hP hls => ?_
  refine .assignN (.strs (l := poolS) (.s (.s (.s (.s (.s (.s (.s (.s (.s (.s .nil)))))))))) (show (10 : Nat) ≤ 1000000 by decide)) fun p W' hk => ?_
  obtain ⟨pool, rfl, rfl⟩ := hk
  refine ⟨_, .n1, .assignN (.list (.cons (.strs (l := [Str.ofString "com"]) (.s .nil) (show (1 : Nat) ≤ 1000000 by decide)) fun p1 W1 _ => .cons (.strs (l := [Str.ofString "a", Str.ofString "com"]) (.s (.s .nil)) (show (2 : Nat) ≤ 1000000 by decide)) fun p2 W2 _ => .cons (.strs (l := [Str.ofString "b", Str.ofString "a", Str.ofString "Com"]) (.s (.s (.s .nil))) (show (3 : Nat) ≤ 1000000 by decide)) fun p3 W3 _ => .nil) (fun qs W' hk => ?_)) fun p W' hk => ?_⟩
  · obtain ⟨p1, W1, q1, _, ⟨p2, W2, q2, _, ⟨p3, W3, q3, _, ⟨rfl, _⟩, rfl⟩, rfl⟩, rfl⟩ := hk
    exact show (3 : Nat) ≤ 1000000 by decide
  obtain ⟨rows, qs, W9, ⟨p1, W1, q1, ⟨a, rfl, rfl⟩, ⟨p2, W2, q2, ⟨b, rfl, rfl⟩, ⟨p3, W3, q3, ⟨d, rfl, rfl⟩, ⟨rfl, rfl⟩, rfl⟩, rfl⟩, rfl⟩, rfl, rfl⟩ := hk
  refine ⟨_, .n2, ?_⟩
  have hm : ∀ x ∈ [Str.ofString "b", Str.ofString "a", Str.ofString "Com", Str.ofString "com"], x ∈ labS := by decide +kernel
  refine Sx.forEnum (fun st : S3r => [.ref l, .ref pool, .ref rows, st.place, st.x, st.v, st.row]) (fun st p q => [.ref l, .ref pool, .ref rows, p, q, st.v, st.row]) (fun st => W3r rows a b d pool st.t) (fun i st => GoodS st.t.1 ∧ GoodS st.t.2.1 ∧ GoodS st.t.2.2) ⟨([Str.ofString "com"], [Str.ofString "a", Str.ofString "com"], [Str.ofString "b", Str.ofString "a", Str.ofString "Com"]), .unset, .unset, .unset, .unset⟩ hP bv_enum rfl (.ofA (.upto (.name .n0) hls hv (by decide) (by lia))) (fun p W' hk => hk) (fun ob ⟨vs, n, e, h⟩ => ⟨vs, n, by rw [e], by rw [e], h⟩) (fun st p q => ⟨_, .n3, .n4⟩) (fun _ => rfl)
    ⟨⟨by decide, by decide, by decide +kernel⟩, ⟨by decide, by decide, by decide +kernel⟩, ⟨by decide, by decide, by decide +kernel⟩⟩ (fun i st v I1 o1 I2 o2 D oD hk1 hk2 hiv hJ => ?_) (fun st _ _ hJ => .weak ?_)
  · clear hk1 hk2
    rw [List.getElem?_map, Option.map_eq_some_iff] at hiv
    obtain ⟨xi, _, rfl⟩ := hiv
    obtain ⟨t, pl, xo, vo, ro⟩ := st
    dsimp only at hJ ⊢
    have hf0 : 0 ≤ (i : Int).fmod 3 ∧ (i : Int).fmod 3 < 3 := by rw [Int.fmod_eq_emod_of_nonneg _ (by decide)]; lia
    obtain ⟨r, lst, g, hx, hg, rfl, hu, hgood⟩ : ∃ (r : Addr) (lst : List Str) (g : List Str → T3), [PV.ref a, .ref b, .ref d][((i : Int).fmod 3).toNat]? = some (.ref r) ∧ GoodS lst ∧ g lst = t ∧ (∀ l1 l2, UpdL r (.strs l1) (.strs l2) (W3r rows a b d pool (g l1)) (W3r rows a b d pool (g l2))) ∧ ∀ l1, GoodS l1 → GoodS (g l1).1 ∧ GoodS (g l1).2.1 ∧ GoodS (g l1).2.2 := by
      obtain ⟨A, B, C⟩ := t
      have hm3 : (i : Int).fmod 3 = 0 ∨ (i : Int).fmod 3 = 1 ∨ (i : Int).fmod 3 = 2 := by lia
      rcases hm3 with e | e | e <;> rw [e]
      · exact ⟨a, A, fun l => (l, B, C), rfl, hJ.1, rfl, fun _ _ => .tail (.tail (.tail .head)), fun _ h => ⟨h, hJ.2⟩⟩
      · exact ⟨b, B, fun l => (A, l, C), rfl, hJ.2.1, rfl, fun _ _ => .tail (.tail .head), fun _ h => ⟨hJ.1, h, hJ.2.2⟩⟩
      · exact ⟨d, C, fun l => (A, B, l), rfl, hJ.2.2, rfl, fun _ _ => .tail .head, fun _ h => ⟨hJ.1, hJ.2.1, h⟩⟩
    have hu' : ∀ l1 l2, UpdL r (.strs l1) (.strs l2) ([(I1, .obj o1), (I2, .obj o2), (D, .obj oD)] ++ W3r rows a b d pool (g l1)) ([(I1, .obj o1), (I2, .obj o2), (D, .obj oD)] ++ W3r rows a b d pool (g l2)) := fun l1 l2 => .tail (.tail (.tail (hu l1 l2)))
    have hmem : ∀ l1, (r, AO.strs l1) ∈ ([(I1, .obj o1), (I2, .obj o2), (D, .obj oD)] ++ W3r rows a b d pool (g l1)) := fun l1 => (hu' l1 l1).mem
    have hpm : ∀ t : T3, (pool, AO.strs poolS) ∈ ([(I1, .obj o1), (I2, .obj o2), (D, .obj oD)] ++ W3r rows a b d pool t) := fun t => .tail _ (.tail _ (.tail _ (.tail _ (.tail _ (.tail _ (.tail _ (.head _)))))))
    refine .assign (.bin (.name .n4) (.bin .int .int (.pow (by decide) (by decide) (by decide))) (.mod (by decide))) .n5 (.assign (.item (.name .n2) (.bin (.name .n3) .int (.mod (by decide))) (.tail _ (.tail _ (.tail _ (.head _)))) (.list hf0.1 (Int.lt_trans hf0.2 (by decide)) hx)) .n6 ?_)
    generalize xi.fmod (10 ^ Int.toNat 6) = v
    have hv10 : 0 ≤ v.fmod 10 ∧ v.fmod 10 < 10 := by rw [Int.fmod_eq_emod_of_nonneg _ (by decide)]; lia
    obtain ⟨z, hz⟩ : ∃ z, poolS[(v.fmod 10).toNat]? = some z := ⟨_, List.getElem?_eq_getElem (show (v.fmod 10).toNat < 10 from (Int.toNat_lt hv10.1).mpr hv10.2)⟩
    have hzl : z ∈ labS := .tail _ (.tail _ (List.mem_of_getElem? hz))
    have hgh := hg.hi
    refine .ifte (.cmp (.callB bn_len rfl (.cons (.name .n6) .nil) (.lenS (hmem lst) (Nat.le_trans hgh (by decide)))) .int .eqi) (fun h4 => ?_) (fun h4 => .seq ?_)
    · cases lst with
      | nil => exact absurd hg.lo (by decide)
      | cons q0 lr =>
      have hl3 : lr.length ≤ 3 := Nat.le_of_succ_le_succ hgh
      have hlab : ∀ q ∈ lr, q ∈ labS := fun q hq => hg.lab q (.tail _ hq)
      refine .mut PySem.F.slot_list_pop PySem.F.type_list_pop (.name .n6) (.cons .int .nil) (hu' _ lr) (.pop0 (Nat.le_trans hl3 (by decide))) ⟨_, .inl rfl⟩ (.seq ?_)
      refine .ifte0 (.cmp (.bin (.bin (.name .n5) .int (.fdiv (by decide) (by decide))) .int (.mod (by decide))) .int .eqi) (fun _ => ?_) (fun _ => ?_)
      · exact .append (.name .n6) (.item (.name .n1) (.bin (.name .n5) .int (.mod (by decide))) (hpm _) (.strs hv10.1 (Int.lt_trans hv10.2 (by decide)) hz)) (hu' _ _) ⟨_, .inl rfl⟩ (.strs (Nat.le_trans hl3 (by decide))) (.fp ⟨g (lr ++ [z]), .int i, .int xi, .int v, .ref r⟩ rfl rfl (hgood _ (.snoc hl3 hlab hzl)))
      · exact .mut PySem.F.slot_list_insert PySem.F.type_list_insert (.name .n6) (.cons .int (.cons (.item (.name .n1) (.bin (.name .n5) .int (.mod (by decide))) (hpm _) (.strs hv10.1 (Int.lt_trans hv10.2 (by decide)) hz)) .nil)) (hu' _ _) (.ins0 (Nat.le_trans hl3 (by decide))) ⟨_, .inl rfl⟩ (.fp ⟨g (z :: lr), .int i, .int xi, .int v, .ref r⟩ rfl rfl (hgood _ (.cons hl3 hlab hzl)))
    · have hl3 : lst.length ≤ 3 := by
        have : ¬ lst.length = 4 := fun e => nomatch (show true = false from (beq_iff_eq.mpr (congrArg Nat.cast e : (lst.length : Int) = 4)).symm.trans h4)
        exact Nat.le_of_lt_succ (Nat.lt_of_le_of_ne hgh this)
      refine .ifte0 (.cmp (.bin (.bin (.name .n5) .int (.fdiv (by decide) (by decide))) .int (.mod (by decide))) .int .eqi) (fun _ => ?_) (fun _ => ?_)
      · exact .append (.name .n6) (.item (.name .n1) (.bin (.name .n5) .int (.mod (by decide))) (hpm _) (.strs hv10.1 (Int.lt_trans hv10.2 (by decide)) hz)) (hu' _ _) ⟨_, .inl rfl⟩ (.strs (Nat.le_trans hl3 (by decide))) (.fp ⟨g (lst ++ [z]), .int i, .int xi, .int v, .ref r⟩ rfl rfl (hgood _ (.snoc hl3 hg.lab hzl)))
      · exact .mut PySem.F.slot_list_insert PySem.F.type_list_insert (.name .n6) (.cons .int (.cons (.item (.name .n1) (.bin (.name .n5) .int (.mod (by decide))) (hpm _) (.strs hv10.1 (Int.lt_trans hv10.2 (by decide)) hz)) .nil)) (hu' _ _) (.ins0 (Nat.le_trans hl3 (by decide))) ⟨_, .inl rfl⟩ (.fp ⟨g (z :: lst), .int i, .int xi, .int v, .ref r⟩ rfl rfl (hgood _ (.cons hl3 hg.lab hzl)))
  · obtain ⟨⟨A, B, C⟩, pl, xo, vo, ro⟩ := st
    dsimp only at hJ ⊢
    refine .perm (W' := (pool, .strs poolS) :: [(rows, .list [.ref a, .ref b, .ref d]), (d, .strs C), (b, .strs B), (a, .strs A)]) ?_ (.weak (.ret hE (.name .n2) fun v h' hv hi => .of hi ⟨rows, a, b, d, A, B, C, rfl, rfl, hJ⟩ hv))
    exact (List.perm_append_comm (l₁ := [(rows, AO.list [.ref a, .ref b, .ref d]), (d, .strs C), (b, .strs B), (a, .strs A)]) (l₂ := [(pool, .strs poolS)]))
end
section
open PySem PySem.W PySem.Calls PyProof.Rows
theorem sub_ke_le : isSubtype (.type "KeyError") (.type "LookupError") = pure true := by rw [isSubtype_type]; kernel_rfl
section
variable {prog : Program} {w : World} {A : Around} {E : Value → Shared → Prop} {s : Shared}
variable {h₀ : Heap} {L : Addr} {m : PySem.Str → Option Value} {news : List (Addr × Obj)}
theorem tl_keep {d : Addr} {f : Int → Option Value} {c : Nat} {Q : Builtin.Str.Mapped → Shared → Prop} (hm : s.heap.MapOf (intKind prog w) d f) (hd : (d == sysModules) = false) (hh : A.handled = none) (hf : f c = none)
    (h : ∀ h' tk, s.heap.StaysIn h' → Q .keep { s with heap := h', toks := tk }) :
    wpAny (model prog w) A (Builtin.Str.tableLookup (.ref d) c) Q E s := by
  unfold Builtin.Str.tableLookup
  refine wpAny_bind (wpAny_attempt ?_)
  refine wpAny_bind (wpAny_mkInt ?_)
  refine wpAny_getItem_missing_of (intKind_is prog w c s.toks) hd hh hm hf ?_
  intro h' e he
  obtain ⟨k1, k2, o, v, ho, hc, hdt⟩ := he
  have hT : Shared.TypeIs { s with heap := h', toks := s.toks + 1 + 1 } (.ref e) "KeyError" := ⟨_, ho, hc⟩
  have f1 := sub_ke_le
  repeat (any_goals (first | assumption | wp_step))
  exact h _ _ k1
theorem tl_text {d : Addr} {f : Int → Option Value} {c : Nat} {x : Str} {tk : Tok} {Q : Builtin.Str.Mapped → Shared → Prop} (hm : s.heap.MapOf (intKind prog w) d f) (hf : f c = some (.str x tk))
    (h : ∀ tk, Q (.text x) { s with toks := tk }) :
    wpAny (model prog w) A (Builtin.Str.tableLookup (.ref d) c) Q E s := by
  unfold Builtin.Str.tableLookup
  refine wpAny_bind (wpAny_attempt ?_)
  refine wpAny_bind (wpAny_mkInt ?_)
  refine wpAny_getItem_of (intKind_is prog w c s.toks) hm hf ?_
  repeat (any_goals (first | assumption | wp_step))
  exact h _
theorem tr_keep {d : Addr} {f : Int → Option Value} {c : Nat} {u : Tok} {Q : Value → Shared → Prop} (hm : s.heap.MapOf (intKind prog w) d f) (hd : (d == sysModules) = false) (hh : A.handled = none) (hc : c < 128) (hf : f c = none)
    (h : ∀ h' tk tk', s.heap.StaysIn h' → Q (.str ⟨#[c]⟩ tk) { s with heap := h', toks := tk' }) :
    wpAny (model prog w) A (call (.builtin "str.translate") [.str ⟨#[c]⟩ u, .ref d]) Q E s := by
  refine wpAny_call_entry PySem.F.slot_str_translate rfl PySem.F.entry_str_translate ?_ (PySem.F.args_str_translate_2 _ _)
  have e1 : (#[c] : Array Nat).all (fun x => decide (x < 128)) = true := by simp [hc]
  unfold Builtin.«str.translate»
  repeat (any_goals (first | assumption | ((with_reducible show wpAny _ _ (Builtin.Str.tableLookup _ _) _ _ _); refine tl_keep hm hd hh hf ?_; intro h' tk hst) | wp_step))
  exact ⟨_, rfl, h _ _ _ hst⟩
theorem tr_text {d : Addr} {f : Int → Option Value} {c : Nat} {u : Tok} {x : Str} {tk0 : Tok} {Q : Value → Shared → Prop} (hm : s.heap.MapOf (intKind prog w) d f) (hc : c < 128) (hf : f c = some (.str x tk0)) (hx : (x.length == 1) = false) (hx2 : x.length = 2)
    (h : ∀ tk tk', Q (.str x tk) { s with toks := tk' }) :
    wpAny (model prog w) A (call (.builtin "str.translate") [.str ⟨#[c]⟩ u, .ref d]) Q E s := by
  refine wpAny_call_entry PySem.F.slot_str_translate rfl PySem.F.entry_str_translate ?_ (PySem.F.args_str_translate_2 _ _)
  have e1 : (#[c] : Array Nat).all (fun x => decide (x < 128)) = true := by simp [hc]
  unfold Builtin.«str.translate»
  repeat (any_goals (first | assumption | ((with_reducible show wpAny _ _ (Builtin.Str.tableLookup _ _) _ _ _); refine tl_text hm hf ?_; intro tk) | wp_step))
  dsimp only
  rw [hx, Bool.false_and]
  simp only [Bool.false_eq_true, if_false]
  repeat (any_goals (first | assumption | ((with_reducible show wpAny _ _ (Builtin.Str.tableLookup _ _) _ _ _); refine tl_text hm hf ?_; intro tk) | wp_step))
  dsimp only
  rw [hx2, if_neg (by decide)]
  have e3 : (List.foldl (fun (acc : Array Nat) (p : Str) => acc ++ p.cps) #[] [x].reverse) = x.cps := by simp
  rw [e3]
  refine wpAny_bind (wpAny_mkStr ?_ ?_)
  · exact wpAny_pure ⟨_, rfl, h _ _⟩
  · rw [sizeLine_eq]
    show x.length ≤ _
    lia
end
end
section
open PySem PySem.W PySem.Calls PyProof.Rows
noncomputable def safeC (c : Nat) : Bool := c == 46 || (48 ≤ c && c ≤ 57) || (97 ≤ c && c ≤ 122)
noncomputable def escC (c : Nat) : Str := if c = 46 then Str.ofString "\\." else ⟨#[c]⟩
noncomputable def IntLit : List DictEntry → Prop
  | [] => True
  | e :: r => (∃ k t, e.key = .int k t ∧ e.hash = hashInt k) ∧ IntLit r
theorem IntLit.all {l : List DictEntry} (h : IntLit l) : ∀ e ∈ l, ∃ k t, e.key = .int k t ∧ e.hash = hashInt k := by
  induction l with
  | nil => exact fun e he => absurd he List.not_mem_nil
  | cons a r ih =>
    intro e he
    rcases List.mem_cons.mp he with rfl | he
    · exact h.1
    · exact ih h.2 e he
theorem intMap_K {prog : Program} {w : World} {K : Frag} {h : Heap} {a : Addr} {es : Array DictEntry} {n : Nat} (X : K.In h) (hl : K.lookup a = some ⟨.type "dict", none, .dict es n, #[]⟩) (hk : IntLit es.toList) : h.MapOf (intKind prog w) a (fun k => findBy Value.isInt es k) :=
  ⟨_, es, n, X _ _ hl, ⟨rfl, rfl, rfl⟩, rfl, fun e he => by
    obtain ⟨k, t, e1, e2⟩ := hk.all e (Array.mem_toList_iff.mpr he)
    exact ⟨k, by rw [e1]; exact intKind_is prog w k t, e2⟩, fun _ => rfl⟩
theorem esc_go {w : World} {A : Around} {E : Value → Shared → Prop} {s : Shared} {h₀ : Heap} {L : Addr} {m : PySem.Str → Option Value} {news : List (Addr × Obj)} {K : Frag} {es : Array DictEntry} {n c : Nat} {u : Tok} {Q : Value → Shared → Prop}
    (F : Fr h₀ L s.heap m) (N : News h₀ L s.heap news) (X : K.In h₀) (hh : A.handled = none)
    (hl : K.lookup 92 = some ⟨.type "dict", none, .dict es n, #[]⟩) (hk : IntLit es.toList)
    (hf : ∀ c < 128, safeC c = true → c ≠ 46 → (findBy Value.isInt es (c : Int)).isNone = true) (hd : ∃ tk, findBy Value.isInt es 46 = some (.str (Str.ofString "\\.") tk)) (hc : safeC c = true)
    (h : ∀ h' tk tk', Fr h₀ L h' m → News h₀ L h' news → s.heap.StaysIn h' → Q (.str (escC c) tk) { s with heap := h', toks := tk' }) :
    wpAny (model PySem.Challenge.pw_in0083_01 w) A (call (.builtin "str.translate") [.str ⟨#[c]⟩ u, .ref 92]) Q E s := by
  have hm := intMap_K (prog := PySem.Challenge.pw_in0083_01) (w := w) (X.keeps F.keep) hl hk
  have h128 : c < 128 := by
    unfold safeC at hc
    simp at hc
    lia
  by_cases e : c = 46
  · subst e
    obtain ⟨tk0, hd⟩ := hd
    refine tr_text hm (by decide) (c := 46) (x := Str.ofString "\\.") (tk0 := tk0) hd (by decide +kernel) (by decide +kernel) fun tk tk' => ?_
    exact h s.heap tk tk' F N (fun _ _ e => e)
  · refine tr_keep hm (by decide) hh h128 ?_ fun h' tk tk' st => ?_
    · have := hf c h128 hc e
      simpa using this
    · have := h h' tk tk' ⟨F.ns.keeps st, fun b o e => st b o (F.keep b o e), F.above⟩ (fun q hq => ⟨st _ _ (N q hq).1, (N q hq).2⟩) st
      unfold escC at this
      rwa [if_neg e] at this
theorem sm_translate : SM (Str.ofString "translate") "str.translate" := fun M A E s x t pl Q h => getMethod_builtin (T := "str") rfl PySem.F.plainAttrs_str PySem.F.slot_str_translate PySem.F.type_str_translate (fun a e => nomatch e) h
theorem nm92 : ∀ q, nsIn (Mine.hd.heap_39 q) mainGlobals (Str.ofString "_special_chars_map") = some (some (.ref 92)) := fun q => by k_is
theorem Ep.gref {F : FI} {N : Nat} {c : Cx F N} {ps : List PV} {W : Led} {x : Str} {a : Addr} {pos : Pos} (n : ∀ q, nsIn (Mine.hd.heap_39 q) mainGlobals x = some (some (.ref a))) (d : (x == ("__debug__" : Str)) = false) (hk : F.scope.names.lookup x = some .globalImplicit) : Ep c ps W (.Name x pos) (.ref a) := by
  intro h tk Q E i hq
  obtain ⟨m, news, hF, hN, hf, hl, nd⟩ := _root_.id i
  exact Cx.nmK hF (n _) (hq _ _ _ rfl i) hk d
theorem FunOk.isStr {F : FI} {N : Nat} {c : Cx F N} {ps : List PV} {W : Led} {x : Str} : FunOk c ps W "isinstance" [.str x, .val (.type "str")] (.bool true) := by
  intro hh tk vs Q E i hr hq
  obtain ⟨v, u, rfl, ⟨t, rfl⟩, rfl⟩ := reps2 hr
  exact IsiPair.str_str (hq _ _ _ rfl i)
theorem FunOk.esc {F : FI} {N : Nat} {c : Cx F N} {ps : List PV} {W : Led} {k : Nat} (hc : safeC k = true) : FunOk c ps W "str.translate" [.str ⟨#[k]⟩, .ref 92] (.str (escC k)) := by
  intro hh tk vs Q E i hr hq
  obtain ⟨v, u, rfl, ⟨t, rfl⟩, rfl⟩ := reps2 hr
  obtain ⟨m, news, hF, hN, hf, hl, nd⟩ := i
  refine' esc_go (s := c.st hh tk) hF hN c.X c.hh ?k1 ?k2 ?k3 ?k4 hc ?_
  case k1 => k_is
  case k2 => (repeat (first | exact True.intro | refine And.intro ⟨_, _, rfl, rfl⟩ ?_))
  case k3 => decide +kernel
  case k4 => exact ⟨_, rfl⟩
  intro h' tk tk' F' N' st
  exact hq _ _ _ ⟨_, rfl⟩ ⟨m, news, F', N', hf, hl, nd⟩
def F102 : FI where
  qual := Str.ofString "escape"
  scope := { kind := .function, names := [(Str.ofString "pattern", .local), (Str.ofString "isinstance", .globalImplicit), (Str.ofString "str", .globalImplicit), (Str.ofString "_special_chars_map", .globalImplicit)], isGenerator := false, isCoroutine := false }
  f := 102
  cd := .ref 101
  locals := [Str.ofString "pattern"]
theorem t102 (c : Nat) (u0 : Tok) (hc : safeC c = true) : Con 4 102 [.str ⟨#[c]⟩ u0] (fun _ => True) (fun h v h' => ∃ tk, v = .str (escC c) tk) := by
  refine Con.of (F := F102) (N := 3) (ps := [.str ⟨#[c]⟩]) (binds := [(Str.ofString "pattern", .str ⟨#[c]⟩ u0)]) (fun q => by k_is) (fun q => by k_is) (fun s => BindsTo.of_eq (by kernel_rfl)) (locs rfl) rfl rfl (by decide) ⟨⟨_, rfl, _, rfl⟩, trivial⟩ fun c Φ E hE hP _ => ?_
  exact .ifte0 (.val (.callB bn_isinst rfl (.cons (.name .here) (.cons (.bval bv_str rfl) .nil)) .isStr) .bool) (fun _ => .ret hE (.meth1 sm_translate (.name .here) (.cons (.gref nm92 (by decide) rfl) .nil) (.esc hc)) fun v h' hv _ => hv) (fun h => nomatch h)
end
section
open PySem hiding Frame run
open PySem.Sre
noncomputable def ipc : Array Nat := #[14, 8, 1, 2, 4294967295, 1, 1, 46, 0, 16, 46, 24, 9, 1, 4294967295, 13, 4, 8, 0, 0, 1, 6, 5, 1]
noncomputable abbrev mk (x : Array Nat) (st pc pos hd : Nat) (ob : Bool) (fr : List Frame) (wt : Nat) (an : Option Bool) (sn : Seen) : M :=
  { code := ipc, text := x, lim := x.size, start := st, lastStart := x.size, pc := pc, pos := pos, handed := hd, outermost := ob, marks := #[], frames := fr, weight := wt, answer := an, seen := sn }
abbrev F0 (s : Nat) (ob : Bool) : Frame := { wait := .nextStart, pc := 9, pos := s, outermost := ob }
abbrev F1 (c : Int) (p : Nat) (ob : Bool) : Frame := { wait := .giveBack, pc := 11, pos := p, outermost := ob, count := c }
noncomputable def Ends (m : M) (o : Bool) : Prop := match m.outcome with | some .matched => o = true | some .failed => o = false | _ => False
noncomputable def R (n : Nat) (m : M) (o : Bool) : Prop := ∃ k, k ≤ n ∧ Ends (M.runFor k m) o
theorem R.step {n : Nat} {m : M} {o : Bool} (h0 : m.outcome = none) (h : R n m.step o) : R (n + 1) m o := by
  obtain ⟨k, hk, ho⟩ := h
  refine ⟨k + 1, by lia, ?_⟩
  unfold M.runFor
  rw [h0]
  exact ho
theorem R.step' {n : Nat} {m m' : M} {o : Bool} (h0 : m.outcome = none) (e : m.step = m') (h : R n m' o) : R (n + 1) m o := R.step h0 (e ▸ h)
theorem R.mono {n k : Nat} {m : M} {o : Bool} (h : R n m o) (hk : n ≤ k) : R k m o := let ⟨j, hj, r⟩ := h; ⟨j, Nat.le_trans hj hk, r⟩
section
variable (x : Array Nat) (st pc pos hd wt : Nat) (ob : Bool) (fr : List Frame) (sn : Seen)
theorem step_lit : (mk x st 9 pos hd ob fr wt none sn).step = ite (x.size ≤ pos) (mk x st 9 pos hd ob fr wt (some false) (sn.add 16)) (Bool.rec (mk x st 9 pos hd ob fr wt (some false) (sn.add 16)) (mk x st 11 (pos + 1) hd ob fr wt none (sn.add 16)) (x.getD pos 0 == 46)) := by kernel_rfl
theorem step_lit_no (h : x.size ≤ pos ∨ (x.getD pos 0 == 46) = false) : (mk x st 9 pos hd ob fr wt none sn).step = mk x st 9 pos hd ob fr wt (some false) (sn.add 16) := by
  rw [step_lit]
  rcases h with h | h
  · exact if_pos h
  · rw [h]; exact ite_self _
theorem step_lit_yes (h : pos < x.size) (h2 : (x.getD pos 0 == 46) = true) : (mk x st 9 pos hd ob fr wt none sn).step = mk x st 11 (pos + 1) hd ob fr wt none (sn.add 16) := by
  rw [step_lit, h2]
  exact if_neg (Nat.not_le.mpr h)
theorem acc_eq (c : Nat) : accepts ipc 15 c sn = ite ((Sre.isDigit c != false) = true) (.ok (true, (sn.add 8).add 55)) (.ok (false, ((sn.add 8).add 55).add 0)) := by kernel_rfl
theorem acc_dig (c : Nat) : ∃ sn', accepts ipc 15 c sn = .ok (Sre.isDigit c, sn') := by
  rw [acc_eq]
  cases Sre.isDigit c <;> exact ⟨_, rfl⟩
noncomputable def cntD (x : Array Nat) : Nat → Nat → Nat
  | 0, _ => 0
  | k + 1, p => if Sre.isDigit (x.getD p 0) then cntD x k (p + 1) + 1 else 0
theorem run_eq : ∀ (k p f : Nat) (sn : Seen), ∃ sn', run ipc x 15 k p f sn = .ok (f + cntD x k p, sn')
  | 0, p, f, sn => ⟨sn, rfl⟩
  | k + 1, p, f, sn => by
    obtain ⟨s1, e1⟩ := acc_dig sn (x.getD p 0)
    rw [show run ipc x 15 (k + 1) p f sn = (accepts ipc 15 (x.getD p 0) sn >>= fun r => if r.1 = true then run ipc x 15 k (p + 1) (f + 1) r.2 else pure (f, r.2)) from rfl, e1]
    show ∃ sn', (if Sre.isDigit (x.getD p 0) = true then run ipc x 15 k (p + 1) (f + 1) s1 else pure (f, s1)) = .ok (f + (if Sre.isDigit (x.getD p 0) = true then cntD x k (p + 1) + 1 else 0), sn')
    cases Sre.isDigit (x.getD p 0)
    · exact ⟨s1, rfl⟩
    · obtain ⟨s2, e2⟩ := run_eq k (p + 1) (f + 1) s1
      rw [Nat.add_right_comm] at e2
      exact ⟨s2, e2⟩
theorem cnt_le : ∀ (k p : Nat), cntD x k p ≤ k
  | 0, _ => Nat.le_refl _
  | k + 1, p => by
    show (if Sre.isDigit (x.getD p 0) = true then cntD x k (p + 1) + 1 else 0) ≤ k + 1
    cases Sre.isDigit (x.getD p 0)
    · exact Nat.zero_le _
    · exact Nat.succ_le_succ (cnt_le k (p + 1))
theorem step_rep : (mk x st 11 pos hd ob fr wt none sn).step = ite (((1 : Nat) : Int) > (x.size : Int) - (pos : Int)) (mk x st 11 pos hd ob fr wt (some false) (sn.add 24)) (Except.rec (fun why => (mk x st 11 pos hd ob fr wt none (sn.add 24)).stick why) (fun p => ite (p.1 < 1) (mk x st 11 pos hd ob fr wt (some false) p.2) (ite (wt + 1 > 16777216) ((mk x st 11 (pos + p.1) hd ob fr wt none p.2).stick "frames:memory") (mk x st 21 (pos + p.1) (pos + p.1) ob (F1 (p.1 : Nat) (pos + p.1) ob :: fr) (wt + 1) none p.2))) (run ipc x 15 (min 4294967295 ((x.size : Int) - (pos : Int)).toNat) pos 0 ((sn.add 24).add 13))) := by kernel_rfl
theorem rep_min (hs : x.size < 1000) : min 4294967295 ((x.size : Int) - (pos : Int)).toNat = x.size - pos := by 
  rw [Int.toNat_sub]
  exact Nat.min_eq_right (Nat.le_trans (Nat.sub_le _ _) (Nat.le_of_lt (Nat.lt_trans hs (by decide))))
theorem step_rep_no (h : x.size ≤ pos ∨ cntD x (x.size - pos) pos = 0) (hs : x.size < 1000) : ∃ sn', (mk x st 11 pos hd ob fr wt none sn).step = mk x st 11 pos hd ob fr wt (some false) sn' := by
  rw [step_rep, rep_min x pos hs]
  by_cases hp : x.size ≤ pos
  · exact ⟨_, if_pos (by lia)⟩
  · obtain ⟨s2, e2⟩ := run_eq x (x.size - pos) pos 0 ((sn.add 24).add 13)
    rw [if_neg (by lia), e2]
    exact ⟨_, if_pos (by show 0 + _ < 1; lia)⟩
theorem step_rep_yes (h : pos < x.size) (h2 : 1 ≤ cntD x (x.size - pos) pos) (hs : x.size < 1000) (hw : wt < 10) : ∃ sn', (mk x st 11 pos hd ob fr wt none sn).step = mk x st 21 (pos + cntD x (x.size - pos) pos) (pos + cntD x (x.size - pos) pos) ob (F1 (cntD x (x.size - pos) pos : Nat) (pos + cntD x (x.size - pos) pos) ob :: fr) (wt + 1) none sn' := by
  obtain ⟨s2, e2⟩ := run_eq x (x.size - pos) pos 0 ((sn.add 24).add 13)
  rw [Nat.zero_add] at e2
  rw [step_rep, rep_min x pos hs, if_neg (by lia), e2]
  exact ⟨s2, (if_neg (Nat.not_lt.mpr h2)).trans (if_neg (by lia))⟩
theorem step_at : (mk x st 21 pos hd ob fr wt none sn).step = ite ((pos == x.size || (pos + 1 == x.size && x.getD pos 0 == 10)) = true) (mk x st 23 pos hd ob fr wt none ((sn.add 6).add 48)) (mk x st 21 pos hd ob fr wt (some false) ((sn.add 6).add 48)) := by kernel_rfl
theorem step_at_yes (h : pos = x.size) : (mk x st 21 pos hd ob fr wt none sn).step = mk x st 23 pos hd ob fr wt none ((sn.add 6).add 48) := by
  rw [step_at]
  exact if_pos (by rw [h, beq_self_eq_true]; rfl)
theorem step_at_no (h : pos ≠ x.size) (h2 : x.getD pos 0 ≠ 10) : (mk x st 21 pos hd ob fr wt none sn).step = mk x st 21 pos hd ob fr wt (some false) ((sn.add 6).add 48) := by
  rw [step_at, beq_false_of_ne h, beq_false_of_ne h2, Bool.and_false]
  rfl
theorem step_succ : (mk x st 23 pos hd ob fr wt none sn).step = mk x st 23 pos pos ob fr wt (some true) (sn.add 1) := by
  cases ob <;> kernel_rfl
theorem step_out (a : Bool) : Ends (mk x st pc pos hd ob [] wt (some a) sn).step a := by
  cases a <;> exact rfl
theorem step_f0_yes (s : Nat) (o2 : Bool) : (mk x st pc pos hd ob (F0 s o2 :: fr) wt (some true) sn).step = mk x st 9 s hd o2 fr (wt - 1) (some true) sn := by kernel_rfl
theorem step_f0 (s : Nat) (o2 : Bool) : (mk x st pc pos hd ob (F0 s o2 :: fr) wt (some false) sn).step = ite (s < x.size) (ite (wt - 1 + 1 > 16777216) ((mk x (s + 1) 9 (s + 1) hd o2 fr (wt - 1) none sn).stick "frames:memory") (mk x (s + 1) 9 (s + 1) (s + 1) false (F0 (s + 1) false :: fr) (wt - 1 + 1) none sn)) (mk x st 9 s hd o2 fr (wt - 1) (some false) sn) := by kernel_rfl
theorem step_f0_end (s : Nat) (o2 : Bool) (h : x.size ≤ s) : (mk x st pc pos hd ob (F0 s o2 :: fr) wt (some false) sn).step = mk x st 9 s hd o2 fr (wt - 1) (some false) sn :=
  (step_f0 x st pc pos hd wt ob fr sn s o2).trans (if_neg (Nat.not_lt.mpr h))
theorem step_f0_next (s : Nat) (o2 : Bool) (h : s < x.size) (hw : wt < 10) : (mk x st pc pos hd ob (F0 s o2 :: fr) wt (some false) sn).step = mk x (s + 1) 9 (s + 1) (s + 1) false (F0 (s + 1) false :: fr) (wt - 1 + 1) none sn :=
  (step_f0 x st pc pos hd wt ob fr sn s o2).trans ((if_pos h).trans (if_neg (by lia)))
theorem step_f1_yes (c : Int) (p : Nat) (o2 : Bool) : (mk x st pc pos hd ob (F1 c p o2 :: fr) wt (some true) sn).step = mk x st 11 p hd o2 fr (wt - 1) (some true) sn := by kernel_rfl
theorem step_f1 (c : Int) (p : Nat) (o2 : Bool) : (mk x st pc pos hd ob (F1 c p o2 :: fr) wt (some false) sn).step = ite (c - 1 < ((1 : Nat) : Int)) (mk x st 11 p hd o2 fr (wt - 1) (some false) sn) (ite (wt - 1 + 1 > 16777216) ((mk x st 11 (p - 1) hd o2 fr (wt - 1) none sn).stick "frames:memory") (mk x st 21 (p - 1) (p - 1) o2 (F1 (c - 1) (p - 1) o2 :: fr) (wt - 1 + 1) none sn)) := by kernel_rfl
theorem step_f1_last (c : Int) (p : Nat) (o2 : Bool) (h : c ≤ 1) : (mk x st pc pos hd ob (F1 c p o2 :: fr) wt (some false) sn).step = mk x st 11 p hd o2 fr (wt - 1) (some false) sn :=
  (step_f1 x st pc pos hd wt ob fr sn c p o2).trans (if_pos (by lia))
theorem step_f1_back (c : Int) (p : Nat) (o2 : Bool) (h : 1 < c) (hw : wt < 10) : (mk x st pc pos hd ob (F1 c p o2 :: fr) wt (some false) sn).step = mk x st 21 (p - 1) (p - 1) o2 (F1 (c - 1) (p - 1) o2 :: fr) (wt - 1 + 1) none sn :=
  (step_f1 x st pc pos hd wt ob fr sn c p o2).trans ((if_neg (by lia)).trans (if_neg (by lia)))
end
section
variable (x : Array Nat)
noncomputable def found (x : Array Nat) : Nat → Nat → Bool
  | 0, _ => false
  | d + 1, s => ((x.getD s 0 == 46) && decide (1 ≤ cntD x (x.size - (s + 1)) (s + 1)) && decide (s + 1 + cntD x (x.size - (s + 1)) (s + 1) = x.size)) || found x d (s + 1)
theorem back {x : Array Nat} (hnl : ∀ i, x.getD i 0 ≠ 10) {st s K : Nat} {o2 o : Bool} (H : ∀ pc pos hd ob sn, R K (mk x st pc pos hd ob [F0 s o2] 1 (some false) sn) o) :
    ∀ (c : Nat) (p pc pos hd : Nat) (ob o3 : Bool) (sn : Seen), 1 ≤ c → c ≤ p → p ≤ x.size → R (2 * c + K) (mk x st pc pos hd ob [F1 (c : Nat) p o3, F0 s o2] 2 (some false) sn) o
  | 0, _, _, _, _, _, _, _, h, _, _ => absurd h (by lia)
  | 1, p, pc, pos, hd, ob, o3, sn, _, _, _ => by
    refine (R.step' rfl (step_f1_last x st pc pos hd 2 ob [F0 s o2] sn (1 : Nat) p o3 (by lia)) (H _ _ _ _ _)).mono (by lia)
  | c + 2, p, pc, pos, hd, ob, o3, sn, _, h2, h3 => by
    refine (R.step' rfl (step_f1_back x st pc pos hd 2 ob [F0 s o2] sn ((c + 2 : Nat) : Int) p o3 (by lia) (by lia)) ?_ : R (2 * (c + 1) + K + 1 + 1) _ _).mono (by lia)
    have e : (((c + 2 : Nat) : Int) - 1) = ((c + 1 : Nat) : Int) := by lia
    rw [e]
    refine R.step' rfl (step_at_no x st (p - 1) (p - 1) (2 - 1 + 1) o3 _ sn (by lia) (hnl _)) ?_
    exact back hnl H (c + 1) (p - 1) _ _ _ _ _ _ (by lia) (by lia) (by lia)
theorem run_from {x : Array Nat} (hnl : ∀ i, x.getD i 0 ≠ 10) (hs : x.size < 1000) : ∀ (d s hd : Nat) (ob : Bool) (sn : Seen), s + d = x.size → R ((d + 1) * (2 * x.size + 20)) (mk x s 9 s hd ob [F0 s ob] 1 none sn) (found x d s)
  | 0, s, hd, ob, sn, hd0 => by
    have hsz : s = x.size := by lia
    refine (R.step' rfl (step_lit_no x s s hd 1 ob _ sn (.inl (by lia))) ?_ : R 3 _ _).mono (by lia)
    refine R.step' rfl (step_f0_end x s 9 s hd 1 ob [] _ s ob (by lia)) ?_
    exact ⟨1, Nat.le_refl _, by
      show Ends (M.runFor 1 _) false
      rw [M.runFor]
      exact step_out x s 9 s hd 0 ob _ false⟩
  | d + 1, s, hd, ob, sn, hd0 => by
    have hlt : s < x.size := by lia
    have next : ∀ o, o = found x d (s + 1) → ∀ pc pos hd ob' sn, R ((d + 1) * (2 * x.size + 20) + 1) (mk x s pc pos hd ob' [F0 s ob] 1 (some false) sn) o := fun o e pc pos hd ob' sn => by
      subst e
      exact R.step' rfl (step_f0_next x s pc pos hd 1 ob' [] sn s ob hlt (by lia)) (run_from hnl hs d (s + 1) _ _ _ (by lia))
    have e2 : (d + 1 + 1) * (2 * x.size + 20) = (d + 1) * (2 * x.size + 20) + (2 * x.size + 20) := by rw [Nat.add_mul (d + 1) 1, Nat.one_mul]
    rw [e2]
    cases hl : (x.getD s 0 == 46) with
    | false =>
      refine (R.step' rfl (step_lit_no x s s hd 1 ob _ sn (.inr hl)) (next _ ?_ _ _ _ _ _)).mono (by lia)
      rw [found, hl]
      simp
    | true =>
      refine (R.step' rfl (step_lit_yes x s s hd 1 ob _ sn hlt hl) ?_ : R ((d + 1) * (2 * x.size + 20) + (2 * x.size + 19) + 1) _ _).mono (by lia)
      by_cases hc : x.size ≤ s + 1 ∨ cntD x (x.size - (s + 1)) (s + 1) = 0
      · obtain ⟨sn', e⟩ := step_rep_no x s (s + 1) hd 1 ob [F0 s ob] (sn.add 16) hc hs
        refine (R.step' rfl e (next _ ?_ _ _ _ _ _)).mono (by lia)
        have : cntD x (x.size - (s + 1)) (s + 1) = 0 := by
          rcases hc with hc | hc
          · have : x.size - (s + 1) = 0 := by lia
            rw [this]; rfl
          · exact hc
        simp [found, this]
      · have hc1 : s + 1 < x.size := by lia
        have hc2 : 1 ≤ cntD x (x.size - (s + 1)) (s + 1) := by lia
        obtain ⟨sn', e⟩ := step_rep_yes x s (s + 1) hd 1 ob [F0 s ob] (sn.add 16) hc1 hc2 hs (by lia)
        have hle := cnt_le x (x.size - (s + 1)) (s + 1)
        refine (R.step' rfl e ?_ : R ((d + 1) * (2 * x.size + 20) + (2 * x.size + 18) + 1) _ _).mono (by lia)
        by_cases hp : s + 1 + cntD x (x.size - (s + 1)) (s + 1) = x.size
        · have hf : found x (d + 1) s = true := by rw [found, hl]; simp [hc2, hp]
          rw [hf]
          refine (R.step' rfl (step_at_yes x s _ _ (1 + 1) ob _ sn' hp) ?_ : R (5 + 1) _ _).mono (by lia)
          refine R.step' rfl (step_succ x s _ _ _ ob _ _) ?_
          refine R.step' rfl (step_f1_yes x s _ _ _ _ ob _ _ _ _ _) ?_
          refine R.step' rfl (step_f0_yes x s _ _ _ _ _ _ _ _ _) ?_
          exact ⟨1, by lia, by
            show Ends (M.runFor 1 _) true
            rw [M.runFor]
            exact step_out x s _ _ _ _ _ _ true⟩
        · refine (R.step' rfl (step_at_no x s _ _ (1 + 1) ob _ sn' hp (hnl _)) ?_ : R ((d + 1) * (2 * x.size + 20) + (2 * x.size + 17) + 1) _ _).mono (by lia)
          refine (back hnl (next _ ?_) _ _ _ _ _ _ _ _ hc2 (by lia) (by lia)).mono (by lia)
          simp [found, hp]
end
theorem R.out {x : Array Nat} {st pc pos hd wt : Nat} {ob : Bool} {sn : Seen} {a : Bool} : R 1 (mk x st pc pos hd ob [] wt (some a) sn) a :=
  ⟨1, Nat.le_refl _, by
    show Ends (M.runFor 1 _) a
    rw [M.runFor]
    exact step_out x st pc pos hd wt ob sn a⟩
theorem forSearch_R {x : Array Nat} (hnl : ∀ i, x.getD i 0 ≠ 10) (hs : x.size < 1000) : R ((x.size + 1) * (2 * x.size + 20)) (forSearch ipc x 0 0 x.size false) (decide (2 ≤ x.size) && found x x.size 0) := by
  by_cases h2 : 2 ≤ x.size
  · have e : forSearch ipc x 0 0 x.size false = mk x 0 9 0 0 true [F0 0 true] 1 none (({} : Seen).add 14) := by
      have h3 : (decide (0 > x.size) || decide (x.size - 0 < 2)) = false := by simp; lia
      have e0 : forSearch ipc x 0 0 x.size false = if (decide (0 > x.size) || decide (x.size - 0 < 2)) = true then _ else _ := rfl
      rw [e0, h3]
      rfl
    rw [e, decide_eq_true h2, Bool.true_and]
    exact run_from hnl hs x.size 0 0 true _ (by lia)
  · have e : ∃ sn ls, forSearch ipc x 0 0 x.size false = ({ code := ipc, text := x, lim := x.size, start := 0, lastStart := ls, pc := 9, pos := 0, handed := 0, marks := #[], answer := some false, seen := sn } : M) := by
      have h3 : (decide (0 > x.size) || decide (x.size - 0 < 2)) = true := by simp; lia
      have e0 : forSearch ipc x 0 0 x.size false = if (decide (0 > x.size) || decide (x.size - 0 < 2)) = true then _ else _ := rfl
      refine ⟨({} : Seen).add 14, 0, ?_⟩
      rw [e0, h3]
      rfl
    obtain ⟨sn, ls, e⟩ := e
    rw [e, decide_eq_false h2, Bool.false_and]
    refine R.mono (n := 1) ?_ (by have : 1 ≤ (x.size + 1) * (2 * x.size + 20) := Nat.mul_pos (by lia) (by lia); exact this)
    refine ⟨1, Nat.le_refl _, ?_⟩
    show Ends (M.runFor 1 _) false
    exact rfl
end
section
open PySem PySem.W PySem.Calls PyProof.Rows
noncomputable def ip4 (t : Str) : Bool := decide (2 ≤ t.cps.size) && found t.cps t.cps.size 0
structure Ok (t : Str) : Prop where
  len : t.length < 100
  asc : ∀ c ∈ t.cps.toList, c < 128 ∧ c ≠ 10
theorem slot_search : Slot "re.Pattern" "search" "re.Pattern.search" :=
  .of (owner := "re.Pattern") (n := "search") (by rw [typeLookup_type, builtinLookup_eq_fast]; kernel_rfl) (by decide +kernel) (by decide +kernel) (by decide +kernel)
    (by first | exact .inl (by decide +kernel) | exact .inr (by decide +kernel)) (by rw [isSubtype_type]; kernel_rfl)
theorem entry_search : entryFor table "re.Pattern.search" = some Builtin.«re.Pattern.search» := entryFor_of_tree (by kernel_rfl)
theorem type_search : typeOf (.builtin "re.Pattern.search") = pure (.type "method_descriptor") := by show builtinType _ = _; rw [builtinType_eq_fast]; kernel_rfl
theorem args_search (a b : Value) : argsOk "re.Pattern.search" ⟨[a, b], []⟩ := by
  unfold argsOk; kernel_rfl
theorem plain_pat : PlainAttrs "re.Pattern" :=
  ⟨⟨"object.__getattribute__", by rw [typeLookup_type, builtinLookup_eq_fast]; kernel_rfl, by decide +kernel⟩, by rw [typeLookup_type, builtinLookup_eq_fast]; kernel_rfl⟩
theorem slot_sub : Slot "re.Pattern" "sub" "re.Pattern.sub" :=
  .of (owner := "re.Pattern") (n := "sub") (by rw [typeLookup_type, builtinLookup_eq_fast]; kernel_rfl) (by decide +kernel) (by decide +kernel) (by decide +kernel)
    (by first | exact .inl (by decide +kernel) | exact .inr (by decide +kernel)) (by rw [isSubtype_type]; kernel_rfl)
theorem entry_sub : entryFor table "re.Pattern.sub" = some Builtin.«re.Pattern.sub» := entryFor_of_tree (by kernel_rfl)
theorem type_sub : typeOf (.builtin "re.Pattern.sub") = pure (.type "method_descriptor") := by show builtinType _ = _; rw [builtinType_eq_fast]; kernel_rfl
theorem args_sub (a b c : Value) : argsOk "re.Pattern.sub" ⟨[a, b, c], []⟩ := by
  unfold argsOk; kernel_rfl
structure IsMatch (h : Heap) (a : Addr) : Prop where
  is : ∃ o, h.get? a = some o ∧ o.cls = .type "re.Match" ∧ o.dict = none
section
variable {prog : Program} {w : World} {A : Around} {E : Value → Shared → Prop} {s : Shared} {K : Frag} {C L : Addr} {h₀ : Heap} {m mg mb : Str → Option Value} {news : List (Addr × Obj)} {p : Program} {loose : List Str} {mean : ExcName → Option Value} {Q : Value → Shared → Prop}
theorem getMethod_search {pl : Sem Bool} {Q : Value × List Value → Shared → Prop} {a : Addr} {o : Obj} (F : Fr h₀ L s.heap m) (X : K.In h₀) (ho : K.lookup a = some o) (hc : o.cls = .type "re.Pattern") (hd : o.dict = none)
    (h : Q (.builtin "re.Pattern.search", [.ref a]) s) : wpAny (model prog w) A (getMethod (.ref a) "search" pl) Q E s := by
  have hg := F.keep _ _ (X _ _ ho)
  refine getMethod_builtin (T := "re.Pattern") ⟨o, hg, hc⟩ plain_pat slot_search type_search (fun a e => ?_) h
  cases e
  exact ⟨o, hg, hd⟩
theorem getMethod_sub {pl : Sem Bool} {Q : Value × List Value → Shared → Prop} {a : Addr} {o : Obj} (F : Fr h₀ L s.heap m) (X : K.In h₀) (ho : K.lookup a = some o) (hc : o.cls = .type "re.Pattern") (hd : o.dict = none)
    (h : Q (.builtin "re.Pattern.sub", [.ref a]) s) : wpAny (model prog w) A (getMethod (.ref a) "sub" pl) Q E s := by
  have hg := F.keep _ _ (X _ _ ho)
  refine getMethod_builtin (T := "re.Pattern") ⟨o, hg, hc⟩ plain_pat slot_sub type_sub (fun a e => ?_) h
  cases e
  exact ⟨o, hg, hd⟩
end
noncomputable def ipCode : Array Value := #[Value.int 14 0, Value.int 8 0, Value.int 1 0, Value.int 2 0, Value.int 4294967295 0, Value.int 1 0,
              Value.int 1 0, Value.int 46 0, Value.int 0 0, Value.int 16 0, Value.int 46 0, Value.int 24 0,
              Value.int 9 0, Value.int 1 0, Value.int 4294967295 0, Value.int 13 0, Value.int 4 0, Value.int 8 0,
              Value.int 0 0, Value.int 0 0, Value.int 1 0, Value.int 6 0, Value.int 5 0, Value.int 1 0]
theorem look43 (w : World) : (Mine.hd.heap_39 w.params).lookup 43 = some { cls := Value.type "re.Pattern", data := Data.fields #[Value.str (Str.ofString "\\.\\d+$") 292, Value.int 256 319, Value.int 0 0, Value.none, Value.none, Value.ref 42, Value.int 0 0] } := by
  k_dflt k_is
theorem look42 (w : World) : (Mine.hd.heap_39 w.params).lookup 42 = some { cls := Value.type "tuple", data := Data.seq ipCode } := by
  k_dflt k_is
open Builtin.Re in
theorem runFor_add : ∀ (a b : Nat) (m : Sre.M), Sre.M.runFor (a + b) m = Sre.M.runFor b (Sre.M.runFor a m)
  | 0, b, m => by rw [Nat.zero_add]; rfl
  | a + 1, b, m => by
    rw [Nat.add_right_comm, Sre.M.runFor, Sre.M.runFor]
    by_cases h : m.outcome.isSome = true
    · rw [if_pos h, if_pos h]
      cases b with
      | zero => rfl
      | succ b => rw [Sre.M.runFor, if_pos h]
    · rw [if_neg h, if_neg h]
      exact runFor_add a b _
theorem runFor_done {m : Sre.M} (h : m.outcome.isSome = true) : ∀ b, Sre.M.runFor b m = m
  | 0 => rfl
  | b + 1 => by rw [Sre.M.runFor, if_pos h]
theorem Ends.some {m : Sre.M} {o : Bool} (h : Ends m o) : m.outcome.isSome = true := by
  unfold Ends at h
  cases e : m.outcome with
  | none => rw [e] at h; exact h.elim
  | some _ => rfl
section
variable {prog : Program} {w : World} {A : Around} {E : Value → Shared → Prop} {s : Shared}
theorem wp_drive {M : Model} : ∀ (T n : Nat) (m : Sre.M) (o : Bool) (Q : Sre.M → Shared → Prop), n < 4 * T → R n m o → (∀ m', Ends m' o → Q m' s) → wpAny M A (Builtin.Re.reDrive T m) Q E s
  | 0, n, m, o, Q, h, _, _ => absurd h (Nat.not_lt_zero n)
  | T + 1, n, m, o, Q, h, ⟨k, hk, hE⟩, hQ => by
    rw [Builtin.Re.reDrive]
    show wpAny M A (if (Sre.M.runFor 4 m).outcome.isSome = true then pure (Sre.M.runFor 4 m) else _) Q E s
    by_cases hs : (Sre.M.runFor 4 m).outcome.isSome = true
    · rw [if_pos hs]
      refine wpAny_pure (hQ _ ?_)
      by_cases hk4 : k ≤ 4
      · have e : Sre.M.runFor 4 m = Sre.M.runFor k m := by
          have : (4 : Nat) = k + (4 - k) := (Nat.add_sub_cancel' hk4).symm
          rw [this, runFor_add, runFor_done hE.some]
        rw [e]; exact hE
      · have e : Sre.M.runFor k m = Sre.M.runFor 4 m := by
          have : k = 4 + (k - 4) := (Nat.add_sub_cancel' (Nat.le_of_not_le hk4)).symm
          rw [this, runFor_add, runFor_done hs]
        rw [← e]; exact hE
    · rw [if_neg hs]
      refine wpAny_bind (wpAny_rule ?_)
      have hk4 : 4 < k := by
        apply Nat.lt_of_not_le
        intro hk4
        have e : Sre.M.runFor 4 m = Sre.M.runFor k m := by
          have : (4 : Nat) = k + (4 - k) := (Nat.add_sub_cancel' hk4).symm
          rw [this, runFor_add, runFor_done hE.some]
        exact hs (e ▸ hE.some)
      refine wp_drive T (k - 4) _ o Q (Nat.sub_lt_right_of_lt_add (Nat.le_of_lt hk4) (Nat.lt_of_le_of_lt hk h)) ⟨k - 4, Nat.le_refl _, ?_⟩ hQ
      rw [← runFor_add]
      have : 4 + (k - 4) = k := Nat.add_sub_cancel' (Nat.le_of_lt hk4)
      show Ends (Sre.M.runFor (4 + (k - 4)) m) o
      rw [this]; exact hE
theorem wp_rules {M : Model} {p : Nat → Bool} {f : Nat → String} {Q : PUnit → Shared → Prop} (h : Q ⟨⟩ s) : ∀ (l : List Nat), wpAny M A (forIn l PUnit.unit fun i _ => do
      if p i = true then do rule (f i); pure (ForInStep.yield PUnit.unit) else pure (ForInStep.yield PUnit.unit)) Q E s
  | [] => wpAny_pure h
  | a :: l => by
    rw [List.forIn_cons]
    cases hp : p a
    · simp only [Bool.false_eq_true, if_false, pure_bind]
      exact wp_rules h l
    · simp only [if_true]
      exact wpAny_bind (wpAny_bind (wpAny_rule (wpAny_pure (wp_rules h l))))
theorem wp_toEnd {M : Model} {n : Nat} {m : Sre.M} {o : Bool} {Q : Option Sre.M → Shared → Prop} (hn : n < 4 * 2 ^ 64) (hR : R n m o) (h1 : o = true → ∀ m', Q (some m') s) (h0 : o = false → Q none s) : wpAny M A (Builtin.Re.reRunToEnd m) Q E s := by
  unfold Builtin.Re.reRunToEnd
  refine wpAny_bind (wp_drive (2 ^ 64) n m o _ hn hR fun m' hE => ?_)
  refine wpAny_bind (wp_rules (p := fun i => m'.seen.has i) (f := fun i => Sre.names.getD i "") ?_ _)
  unfold Ends at hE
  cases e : m'.outcome with
  | none => rw [e] at hE; exact hE.elim
  | some q =>
    rw [e] at hE
    cases q with
    | matched => exact wpAny_pure (h1 hE _)
    | failed => exact wpAny_pure (h0 hE)
    | stuck _ => exact hE.elim
theorem wp_target {t : Str} {tk : Tok} {Q : Builtin.Re.ReTarget → Shared → Prop} (h43 : s.heap.get? 43 = some { cls := Value.type "re.Pattern", data := Data.fields #[Value.str (Str.ofString "\\.\\d+$") 292, Value.int 256 319, Value.int 0 0, Value.none, Value.none, Value.ref 42, Value.int 0 0] })
    (h42 : s.heap.get? 42 = some { cls := Value.type "tuple", data := Data.seq ipCode })
    (h : Q { pattern := .ref 43, string := .str t tk, code := ipc, text := t.cps, kind := 0, groups := 0, pos := 0, lim := min (2 ^ 63 - 1 : Int).toNat t.cps.size } s) :
    wpAny (model prog w) A (Builtin.Re.reTarget "re.Pattern.search" "search" ⟨[.ref 43, .str t tk], []⟩) Q E s := by
  unfold Builtin.Re.reTarget
  repeat (any_goals (first | assumption | wp_step))
  have e1 : Array.map (fun x => x.toNat) (Array.map Builtin.Re.reRawOf ((some ipCode).getD #[])) = ipc := by decide +kernel
  have e2 : (fun (i : Int) => min i.toNat t.cps.size) 0 = 0 := by simp
  rw [e1, e2]
  exact h
theorem wp_newMatch {t : Str} {tk : Tok} {m : Sre.M} {lim : Nat} {Q : Value → Shared → Prop} (h : ∀ a o h' , (∀ b o, s.heap.get? b = some o → h'.get? b = some o) → s.heap.get? a = none → h'.get? a = some o → o.cls = .type "re.Match" → o.dict = none → Q (.ref a) { s with heap := h' }) :
    wpAny (model prog w) A (Builtin.Re.reNewMatch (.ref 43) (.str t tk) 0 0 lim m) Q E s := by
  unfold Builtin.Re.reNewMatch
  repeat (any_goals (first | assumption | wp_step))
  refine h _ _ _ (fun b o e => Heap.get?_push_of_some _ (Heap.get?_push_of_some _ e)) ?_ (Heap.get?_push_size _ rfl) rfl rfl
  cases e : s.heap.get? _ with
  | none => rfl
  | some o =>
    have h1 := Heap.lt_size e
    rw [Heap.size_push] at h1
    exact absurd h1 (Nat.not_lt.mpr (Nat.le_succ _))
end
section
variable {w : World} {A : Around} {E : Value → Shared → Prop} {s : Shared} {L : Addr} {h₀ : Heap} {m mg mb : Str → Option Value} {news : List (Addr × Obj)} {p : Program} {loose : List Str} {mean : ExcName → Option Value} {Q : Value → Shared → Prop}
theorem search43 {t : Str} {tk : Tok} (F : Fr h₀ L s.heap m) (X : (Mine.hd.heap_39 w.params).In h₀) (N : News h₀ L s.heap news) (_T : Top p loose mean mg mb h₀) (hO : Ok t)
    (h0 : ip4 t = false → ∀ tk', Q .none { s with toks := tk' })
    (h1 : ip4 t = true → ∀ a h' tk', Fr h₀ L h' m → News h₀ L h' news → IsMatch h' a → Q (.ref a) { s with heap := h', toks := tk' }) :
    wpAny (model PySem.Challenge.pw_in0083_01 w) A (call (.builtin "re.Pattern.search") [.ref 43, .str t tk]) Q E s := by
  have h43 := F.keep _ _ (X _ _ (look43 w))
  have h42 := F.keep _ _ (X _ _ (look42 w))
  have hsz : t.cps.size < 100 := hO.len
  have hnl : ∀ i, t.cps.getD i 0 ≠ 10 := fun i => by
    rw [Array.getD_eq_getD_getElem?]
    cases e : t.cps[i]? with
    | none => simp
    | some c => exact (hO.asc c (by rw [Array.mem_toList_iff]; exact Array.mem_of_getElem? e)).2
  refine wpAny_call_entry slot_search (show s.TypeIs (.ref 43) "re.Pattern" from ⟨_, h43, rfl⟩) entry_search ?_ (args_search _ _)
  unfold Builtin.«re.Pattern.search»
  refine wpAny_bind (wp_target h43 h42 ?_)
  have hlim : min (2 ^ 63 - 1 : Int).toNat t.cps.size = t.cps.size := by
    have : (2 ^ 63 - 1 : Int).toNat = 9223372036854775807 := by decide
    rw [this]
    lia
  rw [hlim]
  dsimp only
  unfold Builtin.Re.reAnswer
  refine wpAny_bind (wp_toEnd (o := ip4 t) ?_ (forSearch_R hnl (by lia)) (fun e m' => ?_) (fun e => ?_))
  · have : (t.cps.size + 1) * (2 * t.cps.size + 20) ≤ 101 * 220 := Nat.mul_le_mul (by lia) (by lia)
    lia
  · refine wpAny_bind (wp_newMatch fun a o h' hk ha ho hc hd => ?_)
    refine wpAny_pure ⟨_, rfl, ?_⟩
    exact h1 e a h' s.toks ⟨F.ns.keeps hk, fun b o e => hk b o (F.keep b o e), F.above⟩ (fun q hq => ⟨hk _ _ (N q hq).1, (N q hq).2⟩) ⟨⟨o, ho, hc, hd⟩⟩
  · exact wpAny_pure ⟨_, rfl, h0 e s.toks⟩
end
end
section
open PySem PySem.W PySem.Calls PyProof.Rows
noncomputable def twCodeV : Array Value := #[Value.int 14 0, Value.int 14 0, Value.int 4 0, Value.int 1 0, Value.int 1 0, Value.int 9 0, Value.int 0 0,
            Value.int 64 0, Value.int 0 0, Value.int 1342177280 0, Value.int 0 0, Value.int 0 0, Value.int 0 0,
            Value.int 0 0, Value.int 0 0, Value.int 17 0, Value.int 0 0, Value.int 13 0, Value.int 11 0, Value.int 9 0,
            Value.int 0 0, Value.int 64 0, Value.int 0 0, Value.int 1342177280 0, Value.int 0 0, Value.int 0 0,
            Value.int 0 0, Value.int 0 0, Value.int 0 0, Value.int 17 0, Value.int 1 0, Value.int 1 0]
noncomputable def twCode : Array Nat := #[14, 14, 4, 1, 1, 9, 0, 64, 0, 1342177280, 0, 0, 0, 0, 0, 17, 0, 13, 11, 9, 0, 64, 0, 1342177280, 0, 0, 0, 0, 0, 17, 1, 1]
theorem look83 (w : World) : (Mine.hd.heap_39 w.params).lookup 83 = some { cls := Value.type "re.Pattern", data := Data.fields #[Value.str (Str.ofString "([&~|])") 365, Value.int 32 400, Value.int 1 0, Value.none, Value.none, Value.ref 82, Value.int 0 0] } := by
  k_dflt k_is
theorem look82 (w : World) : (Mine.hd.heap_39 w.params).lookup 82 = some { cls := Value.type "tuple", data := Data.seq twCodeV } := by
  k_dflt k_is
noncomputable def endsB (m : Sre.M) : Bool := match m.outcome with | some .failed => true | _ => false
theorem R_of {n : Nat} {m : Sre.M} (h : endsB (Sre.M.runFor n m) = true) : R n m false := ⟨n, Nat.le_refl _, by
  unfold endsB at h
  unfold Ends
  split at h
  · rename_i e; rw [e]
  · cases h⟩
noncomputable def twNo (x y : Nat) : Bool := endsB (Sre.M.runFor 60 (Sre.forSearch twCode #[x, y] 1 0 2 false))
theorem tw_aA : twNo 97 65 = true := by decide +kernel
theorem tw_bB : twNo 98 66 = true := by decide +kernel
theorem tw_cC : twNo 99 67 = true := by decide +kernel
theorem tw_lL : twNo 108 76 = true := by decide +kernel
theorem slot_fn_call : typeLookup (.type "function") "__call__" = pure (some (.builtin "function.__call__")) := by rw [typeLookup_type, builtinLookup_eq_fast]; kernel_rfl
theorem sub_str_ba : isSubtype (.type "str") (.type "bytearray") = pure false := by rw [isSubtype_type]; kernel_rfl
theorem entry_subloop : entryFor table "re.Pattern.sub.loop" = some Builtin.«re.Pattern.sub.loop» := entryFor_of_tree (by kernel_rfl)
section
variable {prog : Program} {w : World} {A : Around} {E : Value → Shared → Prop} {s : Shared}
theorem join_one {a : Str} {t1 t2 : Tok} {D : Addr} {n : Nat} {Q : Value → Shared → Prop} (ho : s.heap.get? D = some { cls := .type "list", data := .seq #[.str a t1] n }) (hl : a.length ≤ 1000)
    (h : ∀ t' k, Q (.str a t') { s with toks := k }) : wpAny (model prog w) A (call (.builtin "str.join") [.str ⟨#[]⟩ t2, .ref D]) Q E s := by
  refine join_strs (l := [(a, t1)]) (isList_of ho) ⟨by simp; lia⟩ (by decide) fun t' k => ?_
  have e : Txt.join ⟨#[]⟩ ([(a, t1)].map (·.1)) = a := by rw [join_eq]; rfl
  rw [e]
  exact h t' k
theorem sub_go {x y : Nat} {tk : Tok} {f : Addr} {o : Obj} {Q : Value → Shared → Prop} (h83 : s.heap.get? 83 = some { cls := Value.type "re.Pattern", data := Data.fields #[Value.str (Str.ofString "([&~|])") 365, Value.int 32 400, Value.int 1 0, Value.none, Value.none, Value.ref 82, Value.int 0 0] })
    (h82 : s.heap.get? 82 = some { cls := Value.type "tuple", data := Data.seq twCodeV }) (hf : s.heap.get? f = some o) (hc : o.cls = .type "function") (ht : twNo x y = true)
    (h : ∀ h' tk tk', s.heap.StaysIn h' → Q (.str ⟨#[x, y]⟩ tk) { s with heap := h', toks := tk' }) :
    wpAny (model prog w) A (call (.builtin "re.Pattern.sub") [.ref 83, .ref f, .str ⟨#[x, y]⟩ tk]) Q E s := by
  have hT : s.TypeIs (.ref f) "function" := ⟨_, hf, hc⟩
  have hT2 : s.TypeIs (.ref 83) "re.Pattern" := ⟨_, h83, rfl⟩
  have f1 := slot_fn_call
  have f2 := sub_str_ba
  refine wpAny_call (codeAny_call_builtin slot_sub.plain entry_sub (slot_sub.check _ _ _ _ _ _ _ _ hT2 (args_sub _ _ _) ?_))
  unfold Builtin.«re.Pattern.sub»
  repeat (any_goals (first | assumption | wp_step))
  refine ⟨Code.quiet_builtin _ (by decide +kernel), codeAny_builtin entry_subloop ?_⟩
  have g83 : (s.heap.push ({ cls := .type "list", data := .seq #[] } : Obj)).get? 83 = _ := Heap.get?_push_of_some _ h83
  have g82 : (s.heap.push ({ cls := .type "list", data := .seq #[] } : Obj)).get? 82 = _ := Heap.get?_push_of_some _ h82
  have gl : (s.heap.push ({ cls := .type "list", data := .seq #[] } : Obj)).get? s.heap.objs.size = _ := Heap.get?_push_size _ rfl
  unfold Builtin.«re.Pattern.sub.loop»
  have e1 : Array.map (fun x => x.toNat) (Array.map Builtin.Re.reRawOf ((some twCodeV).getD #[])) = twCode := by decide +kernel
  have hR : R 60 (Sre.forSearch twCode #[x, y] 1 0 2 false) false := R_of ht
  repeat (any_goals (first | assumption | ((with_reducible show wpAny _ _ (Builtin.Re.reNextFound _ _ _) _ _ _); unfold Builtin.Re.reNextFound; refine wp_toEnd (n := 60) (o := false) (by decide) (by (try dsimp only); rw [e1]; exact hR) (fun e => nomatch e) (fun _ => ?_)) | ((with_reducible show wpAny _ _ (call _ [Value.str _ _, Value.ref _]) _ _ _); refine Stop.out ?_) | wp_step))
  unfold Stop
  dsimp only
  have q1 : (#[x, y] : Array Nat).extract 0 0 = #[] := by simp
  have q2 : (#[x, y] : Array Nat).extract 0 2 = #[x, y] := by simp
  simp only [beq_self_eq_true, if_true]
  rw [q1]
  have q3 : (#[x, y] : Array Nat).extract (Int.toNat 0) = #[x, y] := by simp
  have q4 : ({ cls := .type "list", data := .seq #[] } : Obj) = listOf #[] 0 := rfl
  apply join_one (a := ⟨#[x, y]⟩)
  case ho =>
    dsimp only
    rw [Heap.get?_update_self _ gl (by rw [q4, mapSeq_push]; rfl), q4, mapSeq_push, q3]
    rfl
  case hl => show 2 ≤ 1000; decide
  intro t' k
  simp only [Bool.false_eq_true, if_false]
  refine wpAny_pure (h _ _ _ fun b o e => ?_)
  have hne : b ≠ s.heap.objs.size := Nat.ne_of_lt (Heap.lt_size e)
  rw [(Heap.SameBut.update ..).2 _ hne]
  exact Heap.get?_push_of_some _ e
end
end
section
open PySem PySem.W PySem.Calls PyProof.Rows
noncomputable def TabOk (pos : Pos) (ps : Array Value) : Prop := ps = #[] ∨ ∃ c', ps = #[rawInt pos.line, rawInt pos.col, .ref c']
noncomputable abbrev lamPos : Pos := ⟨116, 39, 116, 76⟩
section
variable {prog : Program} {w : World} {A : Around} {E : Value → Shared → Prop} {s : Shared} {L a : Addr} {h₀ : Heap} {m mg mb : Str → Option Value} {news : List (Addr × Obj)} {p : Program} {loose : List Str} {mean : ExcName → Option Value}
theorem lam_rule {g : Obj → List (Addr × Obj)} {cn : Str} {cs : Scope} {params : Arguments} {body : PySem.Expr} {scope : Scope} {pos : Pos} {ps : Array Value} {Q : Value → Shared → Prop}
    (F : Fr h₀ L s.heap m) (N : News h₀ L s.heap news) (T : Top p loose mean mg mb h₀) (C : CodeHd h₀ 108 104) (U : UpdF 104 (tabObj ps) news g) (hps : TabOk pos ps)
    (hdef : defaultsOf params (envOf cn cs L a (.ref 108)) = ([], [])) (hcl : closureFor scope (envX cn cs L a (.ref 108) []) = pure [])
    (h : ∀ f o ps' h' tk, Fr h₀ L h' m → News h₀ L h' ((f, o) :: g (tabObj ps')) → o.cls = .type "function" → TabOk pos ps' → (∀ q ∈ news, q.1 < f) → Q (.ref f) { s with heap := h', toks := tk }) :
    wpAny (model prog w) A (eval (.Lambda params body scope pos) (envOf cn cs L a (.ref 108))) Q E s := by
  refine kla_eval hdef ?_
  rcases hps with rfl | ⟨c', rfl⟩
  · refine kla_nest (cl := []) F N T C rfl U trivial rfl hcl ?_
    intro f c' oc vs t ctv h' tk F' N' _ _ l1 l2
    have N2 : News h₀ L h' ((f, kla_obj "<lambda>" ((envX cn cs L a (.ref 108) []).qual ++ "<lambda>") params body scope [] ((mg "__name__").getD .none) c' ctv) :: g (tabObj #[rawInt pos.line, rawInt pos.col, .ref c'])) := fun q hq => by
      rcases List.mem_cons.mp hq with e | hq
      · exact e ▸ N' _ (.head _)
      · exact N' _ (.tail _ (.tail _ hq))
    exact h f _ _ h' tk F' N2 rfl (.inr ⟨c', rfl⟩) (fun q hq => Nat.lt_trans (l1 q hq) l2)
  · obtain ⟨own, rest, e1, hgr, _, _⟩ := U.split
    have hm : (104, tabObj #[rawInt pos.line, rawInt pos.col, .ref c']) ∈ news := by rw [e1]; exact List.mem_append_right _ (.head _)
    refine kla_hit (cl := []) (c' := c') F N T C rfl hm (by simp [TriplesOk, rawInt]) (by simp [codeAmong, rawInt]) hcl ?_
    intro f ctv h' tk F' N' l1
    have e2 : g (tabObj #[rawInt pos.line, rawInt pos.col, .ref c']) = news := by rw [hgr, ← e1]
    rw [← e2] at N'
    exact h f _ _ h' tk F' N' rfl (.inr ⟨c', rfl⟩) l1
theorem look108 (w : World) : (Mine.hd.heap_39 w.params).lookup 108 = some { cls := Value.type "code", data := Data.fields #[Value.str (Str.ofString "_translate") 568, Value.str (Str.ofString "_translate") 569, Value.str (Str.ofString "/claim/cut.py") 570, Value.int 70 0, Value.int 3 0, Value.int 0 0, Value.int 0 0, Value.int 3 0, Value.ref 103, Value.bool true, Value.int 276 0, Value.ref 104, Value.none, Value.ref 105, Value.ref 106, Value.ref 107, Value.int 584 0, Value.int 70 0, Value.str (Str.ofString "/claim/cut.py") 585] } := by
  k_dflt k_is
theorem code108 {w : World} {h : Heap} (X : (Mine.hd.heap_39 w.params).In h) : CodeHd h 108 104 := by
  refine codeHd_of_K X ?_
  unfold codeHdIn
  rw [look108]
  rfl
end
section
variable {prog : Program} {w : World} {A : Around} {E : Value → Shared → Prop} {s : Shared} {K : Frag} {C L : Addr} {h₀ g : Heap} {m mg mb : Str → Option Value} {news : List (Addr × Obj)} {p : Program} {loose : List Str} {mean : ExcName → Option Value} {Q : Value → Shared → Prop}
theorem enterT {ps : Array Value} {name qual : Str} {params : Arguments} {body : List Stmt} {scope : Scope} {dV kV doc pm cdv ct oc : Value} {an od : Option Addr} {osl : Array (Option Value)} {f : Addr} {pos : List Value} {kw : List (Str × Value)} {binds : List (Str × Value)}
    (X : K.In g) (T : Top p loose mean mg mb g) (hs : g = hideAll s.heap [104]) (hps : s.heap.get? 104 = some (tabObj ps))
    (ho : K.lookup f = some ⟨oc, od, .func (fnOf name qual params body scope dV kV doc pm an cdv ct), osl⟩) (hcd : codeIn K cdv qual = true) (hroom : A.depth < recursionLimit)
    (hbind : BindsTo s (fnOf name qual params body scope dV kV doc pm an cdv ct) ⟨pos, kw⟩ binds) (hloc : ∀ y ∈ binds, scope.names.lookup y.1 = some .local)
    (h : ∀ h₁ tk₁, Fr g s.heap.objs.size h₁ (fun y => binds.reverse.lookup y) → News g s.heap.objs.size h₁ [(104, tabObj ps)] →
      wpAny (model prog w) (A.deeper (envOf qual scope s.heap.objs.size f cdv)) (execs body (envOf qual scope s.heap.objs.size f cdv))
        (fun fl s' => Q (match fl with | .ret v => v | _ => .none) s')
        (fun e s' => wpAny (model prog w) (A.deeper (envOf qual scope s.heap.objs.size f cdv)) (leaving (envOf qual scope s.heap.objs.size f cdv) e) (fun _ s'' => E e s'') (fun e' s'' => E e' s'') s')
        { s with heap := h₁, toks := tk₁ })
    (hco : scope.isCoroutine = false) (hgen : scope.isGenerator = false) (hk : scope.kind = .function)
    (hcell : ∀ x ∈ scope.names, x.2 ≠ .cell) : wpAny (model prog w) A (call (.ref f) pos kw) Q E s := by
  subst hs
  have st : ∀ b o, (hideAll s.heap [104]).get? b = some o → s.heap.get? b = some o := fun b o e => of_hideAll _ e
  have X' : K.In s.heap := X.keeps st
  have T' := T.keeps st
  refine wpAny_call ?_
  refine codeAny_call_def (fd := fnOf name qual params body scope dV kV doc pm an cdv ct) (body := body) (binds := binds) hroom (X' _ _ ho) rfl T'.nolimit (codeRec_of X' hcd) rfl hbind hcell hloc (fun h₁ hns hk₁ => ?_) hco hgen hk
  refine h h₁ _ ⟨hns, fun b o e => hk₁ b o (st b o e), Nat.le_of_eq (hideAll_size _ _)⟩ ?_
  intro q hq
  rw [List.mem_singleton.mp hq]
  exact ⟨hk₁ _ _ hps, Nat.ne_of_lt (Heap.lt_size hps), hideAll_none _ (.head _)⟩
end
noncomputable def ConT (n : Nat) (f : Addr) (vs : List Value) (R : Heap → Value → Heap → Prop) : Prop :=
  ∀ (w : World) (p : Program) (loose : List Str) (mean : ExcName → Option Value) (mg mb : Str → Option Value) (A : Around) (g : Heap) (s : Shared) (Q E : Value → Shared → Prop) (ps : Array Value),
    (Mine.hd.heap_39 w.params).In g → Top p loose mean mg mb g → g = hideAll s.heap [104] → s.heap.get? 104 = some (tabObj ps) → TabOk lamPos ps → A.depth + n < recursionLimit → A.units + n * 100 < cLine → A.handled = none →
    (∀ v h' tk' ps', g.StaysIn h' → h'.get? 104 = some (tabObj ps') → TabOk lamPos ps' → R s.heap v h' → Q v { s with heap := h', toks := tk' }) →
    wpAny (model PySem.Challenge.pw_in0083_01 w) A (call (.ref f) vs) Q E s
section
variable {w : World} {A : Around} {E : Value → Shared → Prop} {s : Shared} {L : Addr} {h₀ : Heap} {m mg mb : Str → Option Value} {news : List (Addr × Obj)} {p : Program} {loose : List Str} {mean : ExcName → Option Value} {Q : Value → Shared → Prop}
theorem ConT.use {n : Nat} {f : Addr} {vs : List Value} {R : Heap → Value → Heap → Prop} {g : Obj → List (Addr × Obj)} {ps : Array Value} (C : ConT n f vs R) (F : Fr h₀ L s.heap m) (X : (Mine.hd.heap_39 w.params).In h₀) (N : News h₀ L s.heap news) (T : Top p loose mean mg mb h₀)
    (U : UpdF 104 (tabObj ps) news g) (hps : TabOk lamPos ps)
    (hd : A.depth + n < recursionLimit) (hu : A.units + n * 100 < cLine) (hA : A.handled = none)
    (ret : ∀ v h' tk' ps', Fr h₀ L h' m → News h₀ L h' (g (tabObj ps')) → TabOk lamPos ps' → (hideAll s.heap [104]).StaysIn h' → R s.heap v h' → Q v { s with heap := h', toks := tk' }) :
    wpAny (model PySem.Challenge.pw_in0083_01 w) A (call (.ref f) vs) Q E s := by
  obtain ⟨own, rest, e1, hgr, k1, k2⟩ := U.split
  have hm := N (104, tabObj ps) (by rw [e1]; exact List.mem_append_right _ (.head _))
  have st : h₀.StaysIn (hideAll s.heap [104]) := fun b o e => hideAll_get _ (F.keep b o e) (by
    intro hb
    rw [List.mem_singleton.mp hb] at e
    rw [hm.2.2] at e
    cases e)
  refine C w p loose mean mg mb A _ s Q E ps (X.keeps st) (T.keeps st) rfl hm.1 hps hd hu hA fun v h' tk' ps' k ht hok r => ?_
  have hx : ∀ b o, b ≠ 104 → s.heap.get? b = some o → h'.get? b = some o := fun b o hb e => k b o (hideAll_get _ e (by simpa using hb))
  refine ret v h' tk' ps' ⟨F.ns.extBut (b := 104) hx hm.2.1.symm, fun b o e => k b o (st b o e), F.above⟩ (fun q hq => ?_) hok k r
  rw [hgr] at hq
  rcases List.mem_append.mp hq with hq | hq
  · have n := N q (by rw [e1]; exact List.mem_append_left _ hq)
    exact ⟨hx _ _ (k1 q hq) n.1, n.2⟩
  · rcases List.mem_cons.mp hq with rfl | hq
    · exact ⟨ht, hm.2⟩
    · have n := N q (by rw [e1]; exact List.mem_append_right _ (.tail _ hq))
      exact ⟨hx _ _ (k2 q hq) n.1, n.2⟩
end
end
section
open PySem
noncomputable def tx (l : List Nat) : Str := ⟨l.toArray⟩
theorem tx_of (x : Str) : x = tx x.cps.toList := by cases x; simp [tx]
theorem tx_list (l : List Nat) : (tx l).cps.toList = l := by simp [tx]
theorem tx_len (l : List Nat) : (tx l).length = l.length := by simp [tx, Str.length]
theorem tx_inj {a b : List Nat} (h : tx a = tx b) : a = b := by
  have := congrArg (fun x : Str => x.cps.toList) h
  simpa [tx] using this
theorem tx_app (a b : List Nat) : tx a ++ tx b = tx (a ++ b) := by
  show (⟨a.toArray ++ b.toArray⟩ : Str) = ⟨(a ++ b).toArray⟩
  simp
theorem slice_eq (x : Str) (l u : Option Int) : Txt.slice x l u = StrLaws.sliceText x l u := rfl
theorem sr_cut (lo hi hi' : Int) (h : hi ≤ lo) (h' : hi' ≤ lo) : sliceRange lo hi 1 = sliceRange lo hi' 1 := by
  unfold sliceRange
  dsimp only
  rw [if_pos (by decide), if_neg (Int.not_lt.mpr h), if_pos (by decide), if_neg (Int.not_lt.mpr h')]
theorem nn0 (a : Nat) : ¬ ((a : Int) < 0) := Int.not_lt.mpr (Int.natCast_nonneg a)
theorem clipN (a n : Nat) : max (0 : Int) (min (a : Int) n) = ((min a n : Nat) : Int) := by
  rcases Nat.le_total a n with h | h
  · rw [Int.min_eq_left (Int.ofNat_le.mpr h), Nat.min_eq_left h, Int.max_eq_right (Int.natCast_nonneg a)]
  · rw [Int.min_eq_right (Int.ofNat_le.mpr h), Nat.min_eq_right h, Int.max_eq_right (Int.natCast_nonneg n)]
theorem clip_to (a b n : Nat) : Builtin.Str.strSliceIndices (some (a : Int)) (some (b : Int)) 1 n = sliceRange ((min a n : Nat) : Int) ((min b n : Nat) : Int) 1 := by
  have p : (1 : Int) > 0 := by decide
  unfold Builtin.Str.strSliceIndices
  dsimp only
  rw [if_pos p, if_pos p, if_neg (nn0 a), if_neg (nn0 b), clipN, clipN]
theorem idx_clip (a b n : Nat) : Builtin.Str.strSliceIndices (some (a : Int)) (some (b : Int)) 1 n = Builtin.Str.strSliceIndices (some ((min a n : Nat) : Int)) (some ((max (min a n) (min b n) : Nat) : Int)) 1 n := by
  rw [clip_to, clip_to, Nat.min_eq_left (Nat.min_le_right a n), Nat.min_eq_left (Nat.max_le.mpr ⟨Nat.min_le_right a n, Nat.min_le_right b n⟩)]
  rcases Nat.le_total (min b n) (min a n) with h | h
  · rw [Nat.max_eq_left h]
    exact sr_cut _ _ _ (Int.ofNat_le.mpr h) (Int.le_refl _)
  · rw [Nat.max_eq_right h]
theorem cut_clip (l : List Nat) (a b : Nat) : (l.drop (min a l.length)).take (max (min a l.length) (min b l.length) - min a l.length) = (l.drop a).take (b - a) := by
  rcases Nat.le_total a l.length with ha | ha
  · rw [Nat.min_eq_left ha]
    rcases Nat.le_total b l.length with hb | hb
    · rw [Nat.min_eq_left hb]
      rcases Nat.le_total a b with h | h
      · rw [Nat.max_eq_right h]
      · rw [Nat.max_eq_left h, Nat.sub_self, Nat.sub_eq_zero_of_le h]
    · rw [Nat.min_eq_right hb, List.take_of_length_le, List.take_of_length_le] <;> rw [List.length_drop]
      · exact Nat.sub_le_sub_right hb a
      · exact Nat.sub_le_sub_right (Nat.le_max_right a _) a
  · rw [Nat.min_eq_right ha, List.drop_of_length_le (Nat.le_refl _), List.drop_of_length_le ha, List.take_nil, List.take_nil]
theorem slice_tx (l : List Nat) (a b : Nat) : Txt.slice (tx l) (some (a : Int)) (some (b : Int)) = tx ((l.drop a).take (b - a)) := by
  rw [slice_eq]
  have clip : StrLaws.sliceText (tx l) (some (a : Int)) (some (b : Int)) = StrLaws.sliceText (tx l) (some ((min a l.length : Nat) : Int)) (some ((max (min a l.length) (min b l.length) : Nat) : Int)) := by
    unfold StrLaws.sliceText
    rw [tx_len, idx_clip a b l.length]
  rw [clip, StrLaws.sliceText_nat _ (Nat.le_max_left _ _) (by rw [tx_len]; exact Nat.max_le.mpr ⟨Nat.min_le_right _ _, Nat.min_le_right _ _⟩), tx_list, cut_clip]
  rfl
theorem slice_to (l : List Nat) (b : Nat) : Txt.slice (tx l) none (some (b : Int)) = tx (l.take b) := by
  have e : Txt.slice (tx l) none (some (b : Int)) = Txt.slice (tx l) (some ((0 : Nat) : Int)) (some (b : Int)) := by
    rw [slice_eq, slice_eq]; unfold StrLaws.sliceText; rw [StrLaws.sliceIdx_none_lo]; rfl
  rw [e, slice_tx]
  simp
theorem slice_from (l : List Nat) (a : Nat) : Txt.slice (tx l) (some (a : Int)) none = tx (l.drop a) := by
  have e : Txt.slice (tx l) (some (a : Int)) none = Txt.slice (tx l) (some (a : Int)) (some (l.length : Int)) := by
    rw [slice_eq, slice_eq]; unfold StrLaws.sliceText; rw [StrLaws.sliceIdx_none_hi, tx_len]
  rw [e, slice_tx, List.take_of_length_le (by simp)]
theorem item_tx {l : List Nat} {k c : Nat} (h : l[k]? = some c) : Txt.item (tx l) (k : Int) = tx [c] := by
  have := PyProof.Rows.item_meets (x := tx l) (i := (k : Int)) (n := c) (by omega) (by simpa [tx] using h)
  exact this
end
section
open PySem PySem.W PySem.Calls PyProof.Rows
inductive PTok | star | quest | ch (c : Nat) | br (x : Nat)
noncomputable def PTok.ok : PTok → Prop
  | .ch c => safeC c = true
  | .br x => x = 97 ∨ x = 98 ∨ x = 99 ∨ x = 108
  | _ => True
noncomputable def PTok.cs : PTok → List Nat
  | .star => [42]
  | .quest => [63]
  | .ch c => [c]
  | .br x => [91, x, x - 32, 93]
noncomputable def offT (ts : List PTok) (k : Nat) : Nat := ((ts.take k).flatMap PTok.cs).length
noncomputable def patS (ts : List PTok) : Str := ⟨(ts.flatMap PTok.cs).toArray⟩
noncomputable def brS (x : Nat) : Str := ⟨#[91, x, x - 32, 93]⟩
noncomputable def OutV (S : Addr) : PTok → Value → Prop
  | .star, v => v = .ref S
  | .quest, v => ∃ k, v = .str (Str.ofString ".") k
  | .ch c, v => ∃ k, v = .str (escC c) k
  | .br x, v => ∃ k, v = .str (brS x) k
structure OutsOk (S : Addr) (ts : List PTok) (vs : List Value) : Prop where
  len : vs.length = ts.length
  each : ∀ (i : Nat) (t : PTok) (v : Value), ts[i]? = some t → vs[i]? = some v → OutV S t v
theorem OutsOk.nil {S : Addr} {ts : List PTok} {vs : List Value} (h : OutsOk S (ts.take 0) vs) : vs = [] := List.eq_nil_of_length_eq_zero (by rw [h.len]; rfl)
theorem offT_succ {ts : List PTok} {k : Nat} {t : PTok} (h : ts[k]? = some t) : offT ts (k + 1) = offT ts k + t.cs.length := by
  unfold offT
  rw [List.take_add_one, h, List.flatMap_append, List.length_append]
  simp
theorem pat_split {ts : List PTok} {k : Nat} {t : PTok} (h : ts[k]? = some t) : (patS ts).cps.toList = (ts.take k).flatMap PTok.cs ++ (t.cs ++ (ts.drop (k + 1)).flatMap PTok.cs) := by
  have hk := (List.getElem?_eq_some_iff.mp h).1
  have e : ts = ts.take k ++ (t :: ts.drop (k + 1)) := by
    have h2 : ts[k] = t := (List.getElem?_eq_some_iff.mp h).2
    rw [← h2, ← List.drop_eq_getElem_cons hk, List.take_append_drop]
  show ts.flatMap PTok.cs = _
  conv => lhs; rw [e]
  rw [List.flatMap_append, List.flatMap_cons]
theorem pat_at {ts : List PTok} {k j : Nat} {t : PTok} {c : Nat} (h : ts[k]? = some t) (hj : t.cs[j]? = some c) : Txt.item (patS ts) ((offT ts k : Int) + j) = ⟨#[c]⟩ := by
  refine item_meets (Int.natCast_nonneg (offT ts k + j)) ?_
  have e : ((offT ts k : Int) + j).toNat = offT ts k + j := rfl
  rw [e, ← Array.getElem?_toList, pat_split h, List.getElem?_append_right (show ((ts.take k).flatMap PTok.cs).length ≤ offT ts k + j from Nat.le_add_right _ j)]
  have e2 : offT ts k + j - ((ts.take k).flatMap PTok.cs).length = j := Nat.add_sub_cancel_left _ _
  have hj2 := (List.getElem?_eq_some_iff.mp hj).1
  rw [e2, List.getElem?_append_left hj2, hj]
theorem cs_pos (t : PTok) : 1 ≤ t.cs.length := by cases t <;> simp [PTok.cs]
theorem offT_le {ts : List PTok} {k : Nat} {t : PTok} (h : ts[k]? = some t) : offT ts k + t.cs.length ≤ (patS ts).length := by
  have : (patS ts).length = (patS ts).cps.toList.length := by rw [Array.length_toList]; rfl
  rw [this, pat_split h, List.length_append, List.length_append]
  unfold offT
  lia
theorem offT_all {ts : List PTok} {k : Nat} (h : ts.length ≤ k) : offT ts k = (patS ts).length := by
  have : (patS ts).length = (patS ts).cps.toList.length := by rw [Array.length_toList]; rfl
  rw [this]
  unfold offT
  rw [List.take_of_length_le h]
  rfl
section
variable {prog : Program} {w : World} {A : Around} {E : Value → Shared → Prop} {s : Shared}
theorem eq_known {x y : Str} {t u : Tok} {b : Bool} {Q : Value → Shared → Prop} (h : (x == y) = b) (hq : Q (.bool b) s) :
    wpAny (model prog w) A (compareOp .Eq (.str x t) (.str y u)) Q E s := by
  subst h
  exact PyProof.Rows.eq_str hq
end
theorem cq : (⟨#[63]⟩ : Str) = Str.ofString "?" := by decide +kernel
theorem cst : (⟨#[42]⟩ : Str) = Str.ofString "*" := by decide +kernel
theorem cbr : (⟨#[91]⟩ : Str) = Str.ofString "[" := by decide +kernel
theorem one_ne {c d : Nat} {s : Str} (h : (⟨#[d]⟩ : Str) = s) (hn : c ≠ d) : ((⟨#[c]⟩ : Str) == s) = false := by
  subst h
  rw [beq_eq_false_iff_ne]
  intro e
  injection e with e
  injection e with e
  injection e with e
  exact hn e
theorem pat_at0 {ts : List PTok} {k : Nat} {t : PTok} {c : Nat} (h : ts[k]? = some t) (hj : t.cs[0]? = some c) : Txt.item (patS ts) (offT ts k : Int) = ⟨#[c]⟩ := by
  have := pat_at h hj
  exact this
theorem cs_sum : ∀ ts : List PTok, ts.length ≤ (ts.flatMap PTok.cs).length
  | [] => Nat.zero_le _
  | t :: ts => by
    have := cs_sum ts
    have := cs_pos t
    rw [List.flatMap_cons, List.length_append, List.length_cons]
    lia
theorem ts_len (ts : List PTok) : ts.length ≤ (patS ts).length := by
  have : (patS ts).length = (patS ts).cps.toList.length := by rw [Array.length_toList]; rfl
  rw [this]; exact cs_sum ts
theorem slice_mid {t : Str} {a d : List Nat} {x y z w : Nat} (h : t.cps.toList = a ++ ([x, y, z, w] ++ d)) : Txt.slice t (some ((a.length + 1 : Nat) : Int)) (some ((a.length + 3 : Nat) : Int)) = ⟨#[y, z]⟩ := by
  have e : a ++ ([x, y, z, w] ++ d) = (a ++ [x]) ++ ([y, z] ++ ([w] ++ d)) := by simp
  rw [tx_of t, h, e, slice_tx, List.drop_left' (by simp), show a.length + 3 - (a.length + 1) = 2 from Nat.add_sub_add_left a.length 3 1]
  rfl
theorem pat_br {ts : List PTok} {k x : Nat} (h : ts[k]? = some (.br x)) : Txt.slice (patS ts) (some ((offT ts k : Int) + 1)) (some ((offT ts k : Int) + 1 + 1 + 1)) = ⟨#[x, x - 32]⟩ := by
  have hs := pat_split h
  have ho : offT ts k = ((ts.take k).flatMap PTok.cs).length := rfl
  have e1 : ((offT ts k : Int) + 1) = ((offT ts k + 1 : Nat) : Int) := rfl
  have e2 : ((offT ts k : Int) + 1 + 1 + 1) = ((offT ts k + 3 : Nat) : Int) := rfl
  rw [e2, e1, ho]
  exact slice_mid hs
section
variable {prog : Program} {w : World} {A : Around} {E : Value → Shared → Prop} {s : Shared} {L : Addr} {h₀ : Heap} {m mg mb : Str → Option Value} {news : List (Addr × Obj)} {x y z : Str} {t u v : Tok}
theorem replace_none {Q : Value → Shared → Prop} (h : (Builtin.Str.occurrences x y 0 x.length (x.length + 1)).isEmpty = true) (hq : Q (.str x t) s) : wpAny (model prog w) A (call (.builtin "str.replace") [.str x t, .str y u, .str z v]) Q E s := by
  refine call_gives PySem.F.slot_str_replace (typeIs_str _ _ _) PySem.F.entry_str_replace (PySem.F.args_str_replace_3 _ _ _)
    (gives_str_replace x y z t u v fun hc => by rw [h] at hc; cases hc) ?_
  rw [h]
  exact hq
theorem notIn_known {Q : Value → Shared → Prop} (h : (Builtin.Str.occurrences x y 0 x.length 1).isEmpty = true) (hq : Q (.bool true) s) : wpAny (model prog w) A (compareOp .NotIn (.str y u) (.str x t)) Q E s := by
  refine notIn_str ?_
  rw [h]; exact hq
theorem sub_K {a b : Nat} {f : Addr} {o : Obj} {Q : Value → Shared → Prop} (F : Fr h₀ L s.heap m) (X : (Mine.hd.heap_39 w.params).In h₀) (N : News h₀ L s.heap news) (hm : (f, o) ∈ news) (hc : o.cls = .type "function") (ht : x = ⟨#[a, b]⟩) (hw : twNo a b = true)
    (h : ∀ h' tk tk', Fr h₀ L h' m → News h₀ L h' news → Q (.str x tk) { s with heap := h', toks := tk' }) :
    wpAny (model prog w) A (call (.builtin "re.Pattern.sub") [.ref 83, .ref f, .str x t]) Q E s := by
  subst ht
  refine sub_go (F.keep _ _ (X _ _ (look83 w))) (F.keep _ _ (X _ _ (look82 w))) (N _ hm).1 hc hw fun h' tk tk' st => ?_
  exact h h' tk tk' ⟨F.ns.keeps st, fun b o e => st b o (F.keep b o e), F.above⟩ (fun q hq => ⟨st _ _ (N q hq).1, (N q hq).2⟩)
end
structure IsSl (a b : Str) : Prop where
  e : a = b
theorem IsSl.trans {a b c : Str} (h : IsSl a b) (e : b = c) : a = c := Eq.trans h.e e
end
section
open PySem PySem.W PySem.Calls PyProof.Rows
noncomputable def tabA : AO := .pred fun o => ∃ ps, o = tabObj ps ∧ TabOk lamPos ps
noncomputable def fnA : AO := .pred fun o => o.cls = .type "function"
noncomputable def RT {F : FI} {N : Nat} (c : Cx F N) (R : Heap → Value → Heap → Prop) (_ : Heap) (v : Value) (h' : Heap) : Prop := (∃ ps, h'.get? 104 = some (tabObj ps) ∧ TabOk lamPos ps) ∧ R c.s.heap v h'
theorem ConT.of {F : FI} {N : Nat} {vs : List Value} {R : Heap → Value → Heap → Prop} {name : Str} {body : List Stmt} {params : Arguments} {dV kV doc pm ct oc : Value} {an od : Option Addr} {osl : Array (Option Value)} {binds : List (Str × Value)} {ps : List PV}
    (ho : ∀ q, (Mine.hd.heap_39 q).lookup F.f = some ⟨oc, od, .func (fnOf name F.qual params body F.scope dV kV doc pm an F.cd ct), osl⟩) (hcd : ∀ q, codeIn (Mine.hd.heap_39 q) F.cd F.qual = true)
    (hbind : ∀ s, BindsTo s (fnOf name F.qual params body F.scope dV kV doc pm an F.cd ct) ⟨vs, []⟩ binds) (hloc : ∀ y ∈ binds, F.scope.names.lookup y.1 = some .local)
    (hgen : F.scope.isGenerator = false) (hco : F.scope.isCoroutine = false) (hcell : ∀ x ∈ F.scope.names, x.2 ≠ .cell) (hf : frep F.locals ps (fun y => binds.reverse.lookup y))
    (k : ∀ (c : Cx F N) (Φ : Flow → Shared → Prop) (E : Value → Shared → Prop), Rets c (RT c R) Φ → PassesOwn c.M c.A c.env E → c.h₀ = hideAll c.s.heap [104] → Sx c ps [(104, tabA)] body Φ E) (hmk : F.en = fun L => envOf F.qual F.scope L F.f F.cd := by rfl) : ConT (N + 1) F.f vs R := by
  obtain ⟨qual, scope, f, cd, locals, en, kf, lk, nd, hsc, hgl, hbu⟩ := F
  dsimp only at hmk
  subst hmk
  intro w p loose mean mg mb A g s Q E pt X T hs ht hk hd hu hA hret
  have hz : s.heap.objs.size = g.objs.size := by rw [hs, hideAll_size]
  have hd' : (A.deeper (envOf qual scope g.objs.size f cd)).depth + N < recursionLimit := room_d hd
  have hu' : (A.deeper (envOf qual scope g.objs.size f cd)).units + N * 100 < cLine := room_u hu
  let c : Cx ⟨qual, scope, f, cd, locals, _, kf, lk, nd, hsc, hgl, hbu⟩ N := { w, p, loose, mean, mg, mb, A := A.deeper (envOf qual scope g.objs.size f cd), h₀ := g, L := g.objs.size, s, X, T, hh := hA, hd := hd', hu := hu' }
  refine enterT X T hs ht (ho _) (hcd _) (by lia) (hbind s) hloc (fun h₁ tk₁ F₁ N₁ => ?_) hco hgen kf hcell
  rw [hz] at F₁ N₁ ⊢
  exact (k c _ _ (fun v h' tk' st ⟨⟨ps', a, b⟩, r⟩ => hret v h' tk' ps' st a b r) PassesOwn.leaving hs).run h₁ tk₁ ⟨_, _, F₁, N₁, hf, ⟨⟨rfl, pt, rfl, hk⟩, trivial⟩, List.nodup_cons.mpr ⟨nofun, .nil⟩⟩
section
variable {F : FI} {N : Nat} {c : Cx F N} {ps : List PV} {W : Led} {Φ : Flow → Shared → Prop} {E : Value → Shared → Prop} {rest : List Stmt}
theorem In.tab {h : Heap} (i : In c ps W h) (hm : (104, tabA) ∈ W) : ∃ ps, h.get? 104 = some (tabObj ps) ∧ TabOk lamPos ps := by
  obtain ⟨ob, h1, pt, rfl, h2⟩ := i.get hm
  exact ⟨pt, h1, h2⟩
theorem lrep_updF {a : Addr} {x : AO} : ∀ {W : Led} {news : List (Addr × Obj)}, lrep W news → (W.map (·.1)).Nodup → (a, x) ∈ W → ∃ ob g, x.rep ob ∧ UpdF a ob news g ∧ ∀ ob', x.rep ob' → lrep W (g ob')
  | b :: W, n :: news, l, nd, hm => by
    obtain ⟨⟨e, h1⟩, h2⟩ := l
    obtain ⟨b1, b2⟩ := b
    obtain ⟨n1, n2⟩ := n
    have e' : b1 = n1 := e
    subst e'
    have hn := List.nodup_cons.mp nd
    rcases List.mem_cons.mp hm with hm | hm
    · cases hm
      refine ⟨n2, _, h1, .head fun p hp e => hn.1 ?_, fun ob' h' => ⟨⟨rfl, h'⟩, h2⟩⟩
      show a ∈ W.map (·.1)
      rw [lrep_map h2]
      exact e ▸ List.mem_map_of_mem hp
    · obtain ⟨ob, g, a1, a2, a3⟩ := lrep_updF h2 hn.2 hm
      refine ⟨ob, _, a1, .tail (fun e => hn.1 ?_) a2, fun ob' h' => ⟨⟨rfl, h1⟩, a3 ob' h'⟩⟩
      show b1 ∈ W.map (·.1)
      rw [show b1 = a from e]
      exact List.mem_map_of_mem (f := (·.1)) hm
  | [], _, _, _, hm => nomatch hm
  | _ :: _, [], l, _, _ => l.elim
theorem Ea.lam {params : Arguments} {body : PySem.Expr} {scope : Scope} (h104 : (104, tabA) ∈ W) (hcd : F.cd = .ref 108) (hdef : ∀ L, defaultsOf params (envOf F.qual F.scope L F.f (.ref 108)) = ([], [])) (hcl : ∀ L, closureFor scope (envX F.qual F.scope L F.f (.ref 108) []) = pure []) (hmk : F.en = fun L => envOf F.qual F.scope L F.f F.cd := by rfl) :
    Ea c ps W (.Lambda params body scope lamPos) fnA := by
  intro h tk Q E i hq
  obtain ⟨m, news, hF, hN, hf, hl, nd⟩ := i
  obtain ⟨ob, g, ⟨pt, rfl, hk⟩, u, hg⟩ := lrep_updF hl nd h104
  have he : c.env = envOf F.qual F.scope c.L F.f (.ref 108) := by unfold Cx.env; rw [hmk, hcd]
  rw [he] at hF hN ⊢
  refine lam_rule (s := c.st h tk) hF hN c.T (code108 c.X) u hk (hdef _) (hcl _) fun f o ps' h' tk' F' N' ho hk' lt => ?_
  have hl' := hg (tabObj ps') ⟨ps', rfl, hk'⟩
  refine hq f h' tk' ⟨m, (f, o) :: g (tabObj ps'), by rw [he]; exact F', by rw [he]; exact N', hf, ⟨⟨rfl, ho⟩, hl'⟩, ?_⟩
  rw [List.map_cons, List.nodup_cons]
  refine ⟨fun hm => ?_, nd⟩
  rw [lrep_map hl] at hm
  obtain ⟨q, hq, e⟩ := List.mem_map.mp hm
  exact absurd (lt q hq) (by rw [e]; exact Nat.lt_irrefl _)
theorem nm_twin : ∀ q, nsIn (Mine.hd.heap_39 q) mainGlobals (Str.ofString "_twin_re_1") = some (some (.ref 83)) := fun q => by k_is
theorem En.sub {pl : Sem Bool} {px ap pos : Pos} {le e : PySem.Expr} {a b : Nat} (hk : F.scope.names.lookup (Str.ofString "_twin_re_1") = some .globalImplicit) (h1 : Ea c ps W le fnA) (h2 : ∀ f, Ep c ps ((f, fnA) :: W) e (.str ⟨#[a, b]⟩)) (hw : twNo a b = true)
    (he : McOk c (.Name (Str.ofString "_twin_re_1") px) (Str.ofString "sub") ap pos [le, e] pl := by exact rfl)
    (hs1 : starEach [le, e] c.env = (false, eval le c.env) :: starEach [e] c.env := by rfl) (hs2 : starEach [e] c.env = (false, eval e c.env) :: starEach [] c.env := by rfl) (hpl : (backTo pos (starEach [e] c.env)).any (·.1) = false := by rfl) :
    En c ps W (.Call (.Attribute (.Name (Str.ofString "_twin_re_1") px) (Str.ofString "sub") ap) [le, e] [] pos) (fun p W' => p = .str ⟨#[a, b]⟩ ∧ ∃ f, W' = (f, fnA) :: W) := by
  intro h tk Q E i hq
  obtain ⟨m, news, hF, hN, hf, hl, nd⟩ := _root_.id i
  refine MethodCall_ (Cx.nmK hF (nm_twin _) ?_ hk (by decide)) he
  refine getMethod_sub hF c.X (look83 _) rfl rfl (callWith_method1 (args_cons (h1 _ _ _ _ i fun f h' tk' i' => args_cons (h2 f _ _ _ _ i' fun v h2' tk2 r i2 => args_nil ?_) hs2) hs1) hs1 hpl)
  obtain ⟨t, rfl⟩ := r
  obtain ⟨m2, news2, F2, N2, f2, l2, n2⟩ := i2
  obtain ⟨ob, g1, g2⟩ := lrep_get l2 (.head _)
  exact sub_K (s := c.st h2' tk2) F2 c.X N2 g1 g2 rfl hw fun h3 tk3 tk4 F3 N3 => hq _ _ _ _ _ ⟨rfl, f, rfl⟩ ⟨_, rfl⟩ ⟨m2, news2, F3, N3, f2, l2, n2⟩
theorem Et.listL {e : PySem.Expr} {a : Addr} {l : List PV} {b : Bool} (h : Ep c ps W e (.ref a)) (hm : (a, AO.list l) ∈ W) (hn : l.length ≤ 1000000) (hb : (!l.isEmpty) = b)
    (hp : ∀ whole, whole = eval e c.env → PySem.isTrue e c.env whole = (do let v ← whole; standAt (PySem.Expr.pos e); holding [v] (truthy v)) := by intro _ _; rfl) : Et c ps W e b := by
  intro whole hh tk Q E hw i hq
  refine isTrue_plain ?_ (hp whole hw)
  subst hw
  refine h _ _ _ _ i fun v h' tk' r i' => ?_
  cases r
  obtain ⟨ob, g1, vs, n, rfl, hr⟩ := i'.get hm
  have hl := reps_len hr
  refine wpAny_truthy_list (s := c.st h' tk') (items := vs.toArray) ⟨_, g1, rfl, n, rfl⟩ (by rw [List.size_toArray]; lia) ?_
  have e : (!vs.toArray.isEmpty) = b := by
    rw [← hb]
    cases vs with
    | nil => cases l with
      | nil => rfl
      | cons _ _ => cases hl
    | cons _ _ => cases l with
      | nil => cases hl
      | cons _ _ => rfl
  rw [e]
  exact hq _ _ i'
theorem CmpOk.eqb {x y : Str} {b : Bool} (h : (x == y) = b) : CmpOk .Eq (.str x) (.str y) b := h ▸ .eqs
theorem CmpOk.neb {x y : Str} {b : Bool} (h : (x != y) = b) : CmpOk .NotEq (.str x) (.str y) b := h ▸ .nes
theorem CmpOk.notIn {x y : Str} (h : (Builtin.Str.occurrences x y 0 x.length 1).isEmpty = true) : CmpOk .NotIn (.str y) (.str x) true := by
  rintro w A s u v Q E ⟨t, rfl⟩ ⟨t', rfl⟩ hq
  exact notIn_known h (hq s.toks)
theorem sm_replace : SM (Str.ofString "replace") "str.replace" := fun M A E s x t pl Q h => GM.replace h
theorem FunOk.replace {x y z : Str} (h : (Builtin.Str.occurrences x y 0 x.length (x.length + 1)).isEmpty = true) : FunOk c ps W "str.replace" [.str x, .str y, .str z] (.str x) := by
  intro hh tk vs Q E i hr hq
  obtain ⟨v, u, w, rfl, ⟨t, rfl⟩, ⟨t', rfl⟩, t'', rfl⟩ := reps3 hr
  exact replace_none h (hq _ _ _ ⟨_, rfl⟩ i)
theorem Et.inT {e : PySem.Expr} {x a b : Str} {k1 k2 k3 : Nat} {p1 p2 p3 pos : Pos} {v : Bool} (h : Ep c ps W e (.str x)) (hv : [a, b].any (· == x) = v) : Et c ps W (.Compare e [.In] [.Tuple [.Constant (.str a) k1 p1, .Constant (.str b) k2 p2] k3 p3] pos) v := by
  intro whole hh tk Q E hw i hq
  refine wpAny_isTrue_Compare1 (h _ _ _ _ i fun u h' tk' r i1 => Tuple_ (args_cons (e := .Constant (.str a) k1 p1) (Constant_str (args_cons (e := .Constant (.str b) k2 p2) (Constant_str (args_nil ?_)) rfl)) rfl)) rfl
  obtain ⟨t, rfl⟩ := r
  obtain ⟨m, news, hF, hN, hf, hl, nd⟩ := i1
  refine newTuple_N (hsz := by rw [sizeLine_eq]; exact Nat.le_of_ble_eq_true rfl) hF hN fun h3 F3 N3 => in_tuple_strs ⟨_, (N3 _ (.head _)).1, rfl, _, rfl⟩ (.cons _ _ (.cons _ _ .nil)) (wpAny_truthy_bool ?_)
  rw [hv]
  exact hq _ _ ⟨m, news, F3, fun z hz => N3 z (.tail _ hz), hf, hl, nd⟩
end
end
section
open PySem PySem.W PySem.Calls PyProof.Rows
noncomputable def outQ (S : Addr) : PTok → PV
  | .star => .ref S
  | .quest => .str (Str.ofString ".")
  | .ch c => .str (escC c)
  | .br x => .str (brS x)
theorem outQ_V {S : Addr} {t : PTok} {v : Value} (h : (outQ S t).rep v) : OutV S t v := by
  cases t <;> exact h
theorem outs_ok {S : Addr} {ts : List PTok} {vs : List Value} (h : reps (ts.map (outQ S)) vs) : OutsOk S ts vs := by
  refine ⟨by rw [reps_len h, List.length_map], fun i t v h1 h2 => ?_⟩
  obtain ⟨u, e, hu⟩ := reps_get (k := i) h (by rw [List.getElem?_map, h1]; rfl)
  rw [h2] at e
  cases e
  exact outQ_V hu
structure R109 (S : Addr) (ts : List PTok) (h : Heap) (v : Value) (h' : Heap) : Prop where
  ex : ∃ D n vs, v = .ref D ∧ h.get? D = none ∧ h'.get? D = some (listOf (vs : List Value).toArray n) ∧ OutsOk S ts vs
structure BrF (x : Nat) : Prop where
  nin : (Builtin.Str.occurrences ⟨#[x, x - 32]⟩ (Str.ofString "-") 0 (Str.length ⟨#[x, x - 32]⟩) 1).isEmpty = true
  nrep : (Builtin.Str.occurrences ⟨#[x, x - 32]⟩ (Str.ofString "\\") 0 (Str.length ⟨#[x, x - 32]⟩) (Str.length ⟨#[x, x - 32]⟩ + 1)).isEmpty = true
  tw : twNo x (x - 32) = true
  e1 : ((⟨#[x, x - 32]⟩ : Str) == Str.ofString "!") = false
  i0 : (Txt.item ⟨#[x, x - 32]⟩ 0 == Str.ofString "!") = false
  i1 : [Str.ofString "^", Str.ofString "["].any (· == Txt.item ⟨#[x, x - 32]⟩ 0) = false
  c0 : ((⟨#[x]⟩ : Str) == Str.ofString "!") = false
  c1 : ((⟨#[x]⟩ : Str) == Str.ofString "]") = false
  c2 : ((⟨#[x]⟩ : Str) != Str.ofString "]") = true
  c3 : ((⟨#[x - 32]⟩ : Str) != Str.ofString "]") = true
  bs : Str.empty ++ Str.ofString "[" ++ ⟨#[x, x - 32]⟩ ++ Str.ofString "]" = brS x
theorem brF {x : Nat} (h : x = 97 ∨ x = 98 ∨ x = 99 ∨ x = 108) : BrF x := by
  rcases h with rfl | rfl | rfl | rfl <;> exact ⟨by decide +kernel, by decide +kernel, by decide +kernel, by decide +kernel, by decide +kernel, by decide +kernel, by decide +kernel, by decide +kernel, by decide +kernel, by decide +kernel, by decide +kernel⟩
structure S9 where
  k : Nat
  c : PV
  j : PV
  stuff : PV
def F109 : FI where
  qual := Str.ofString "_translate"
  scope := { kind := .function, names := [(Str.ofString "pat", .local), (Str.ofString "STAR", .local), (Str.ofString "QUESTION_MARK", .local), (Str.ofString "res", .local), (Str.ofString "add", .local), (Str.ofString "i", .local), (Str.ofString "n", .local), (Str.ofString "c", .local), (Str.ofString "j", .local), (Str.ofString "stuff", .local), (Str.ofString "chunks", .local), (Str.ofString "k", .local), (Str.ofString "chunk", .local), (Str.ofString "len", .globalImplicit), (Str.ofString "range", .globalImplicit), (Str.ofString "_twin_re_1", .globalImplicit), (Str.ofString "escape", .globalImplicit)], isGenerator := false, isCoroutine := false }
  f := 109
  cd := .ref 108
  locals := [Str.ofString "pat", Str.ofString "STAR", Str.ofString "QUESTION_MARK", Str.ofString "res", Str.ofString "add", Str.ofString "i", Str.ofString "n", Str.ofString "c", Str.ofString "j", Str.ofString "stuff"]
theorem gn_escape : GName (Str.ofString "escape") 102 := ⟨fun q => by k_is, fun q => by k_is, by decide⟩
theorem SetAt.n9 {x0 x1 x2 x3 x4 x5 x6 x7 x8 x : Str} {p0 p1 p2 p3 p4 p5 p6 p7 p8 q p : PV} {ks : List Str} {ps : List PV} : SetAt (x0 :: x1 :: x2 :: x3 :: x4 :: x5 :: x6 :: x7 :: x8 :: x :: ks) (p0 :: p1 :: p2 :: p3 :: p4 :: p5 :: p6 :: p7 :: p8 :: q :: ps) x p (p0 :: p1 :: p2 :: p3 :: p4 :: p5 :: p6 :: p7 :: p8 :: p :: ps) := .there .n8
theorem At.n9 {x0 x1 x2 x3 x4 x5 x6 x7 x8 x : Str} {p0 p1 p2 p3 p4 p5 p6 p7 p8 p : PV} {ks : List Str} {ps : List PV} : At (x0 :: x1 :: x2 :: x3 :: x4 :: x5 :: x6 :: x7 :: x8 :: x :: ks) (p0 :: p1 :: p2 :: p3 :: p4 :: p5 :: p6 :: p7 :: p8 :: p :: ps) x p := .there .n8
theorem Ep.cast {F : FI} {N : Nat} {c : Cx F N} {ps : List PV} {W : Led} {e : PySem.Expr} {p q : PV} (h : Ep c ps W e p) (e' : p = q) : Ep c ps W e q := e' ▸ h
theorem En.list0L {F : FI} {N : Nat} {c : Cx F N} {ps : List PV} {W : Led} {pos : Pos} : En c ps W (.List [] pos) (fun p W' => ∃ a, p = .ref a ∧ W' = (a, .list []) :: W) :=
  fun _ _ _ _ i hq => List_ (args_nil (i.newL (o := .list []) ⟨[], 0, rfl, trivial⟩ (Nat.zero_le _) fun a h' tk' i' => hq _ _ _ _ _ ⟨a, rfl, rfl⟩ rfl i'))
theorem nif {b : Bool} {P : Prop} (h : b = true) (h' : b = false) : P := by rw [h] at h'; cases h'
theorem t109 (ts : List PTok) (u0 u1 : Tok) (S : Addr) (hn : (patS ts).length < 200) (hok : ∀ t ∈ ts, t.ok) (hna : ∀ j : Nat, ts[j + 1]? = some .star → ts[j]? ≠ some .star) : ConT 6 109 [.str (patS ts) u0, .ref S, .str (Str.ofString ".") u1] (fun h v h' => R109 S ts h v h') := by
  refine ConT.of (F := F109) (N := 5) (ps := [.str (patS ts), .ref S, .str (Str.ofString "."), .unset, .unset, .unset, .unset, .unset, .unset, .unset]) (binds := [(Str.ofString "pat", .str (patS ts) u0), (Str.ofString "STAR", .ref S), (Str.ofString "QUESTION_MARK", .str (Str.ofString ".") u1)]) (fun q => by k_is) (fun q => by k_is) (fun s => BindsTo.of_eq (by kernel_rfl)) (locs rfl) rfl rfl (by decide) ⟨⟨_, rfl, _, rfl⟩, ⟨_, rfl, rfl⟩, ⟨_, rfl, _, rfl⟩, rfl, rfl, rfl, rfl, rfl, rfl, rfl, trivial⟩ fun c Φ E hE hP hh0 => ?_
  have hn6 : (patS ts).length ≤ 1000000 := by lia
  have hz := sizeLine_eq
  refine .assignN .list0L fun p W' hk => ?_
  obtain ⟨r, rfl, rfl⟩ := hk
  refine ⟨_, .n3, .assignA (.bound .n3 (.head _) ⟨[], .inr ⟨_, rfl⟩⟩) (fun a => .n4) fun b => .assign2 .int (.callB bn_len rfl (.cons (.name .n0) .nil) (.len hn6)) .n6 .n5 ?_⟩
  refine Sx.while (fun st : S9 => [.str (patS ts), .ref S, .str (Str.ofString "."), .ref r, .ref b, .int (offT ts st.k), .int (patS ts).length, st.c, st.j, st.stuff]) (fun st => [(b, .obj (bapp r)), (r, .list ((ts.take st.k).map (outQ S))), (104, tabA)]) (fun st => st.k ≤ ts.length) (fun st => ts.length - st.k) (fun st => decide (st.k < ts.length)) ⟨0, .unset, .unset, .unset⟩ hP (Nat.zero_le _) fun st hJ => ?_
  obtain ⟨k, cv, jv, sv⟩ := st
  dsimp only at hJ ⊢
  by_cases hk : k < ts.length
  rotate_left
  · have hall : ts.take k = ts := List.take_of_length_le (by lia)
    have hoff := offT_all (ts := ts) (k := k) (by lia)
    rw [hall]
    refine ⟨.cast (.cmp (.name .n5) (.name .n6) .lti) (by rw [decide_eq_false hk, hoff]; exact decide_eq_false (Int.lt_irrefl _)), fun hb => absurd (of_decide_eq_true hb) hk, fun _ => ?_⟩
    refine .asrt (.cast (.cmp (.name .n5) (.name .n6) .eqi) (by rw [hoff]; exact beq_self_eq_true _)) (.ret hE (.name .n3) fun v h' hr hi => ?_)
    cases hr
    refine ⟨hi.tab (.tail _ (.tail _ (.head _))), ?_⟩
    obtain ⟨m, news, hF, hN, hf, hl, nd⟩ := hi
    obtain ⟨ob, g, vs, n, rfl, hv⟩ := lrep_get hl (.tail _ (.head _))
    have hne : r ≠ 104 := fun e => by
      have h2 := (List.nodup_cons.mp (List.nodup_cons.mp nd).2).1
      rw [e] at h2
      exact h2 (.head _)
    refine ⟨⟨r, n, vs, rfl, ?_, (hN _ g).1, outs_ok hv⟩⟩
    cases e : c.s.heap.get? r with
    | none => rfl
    | some o =>
      have := (hN _ g).2.2
      rw [hh0, hideAll_get _ e (by simpa using hne)] at this
      cases this
  obtain ⟨t0, ht0⟩ : ∃ t0, ts[k]? = some t0 := ⟨_, List.getElem?_eq_getElem hk⟩
  have hoff := offT_le ht0
  have hpos := cs_pos t0
  have hsuc := offT_succ ht0
  have hts := hok t0 (List.mem_of_getElem? ht0)
  have hol : ((ts.take k).map (outQ S)).length ≤ 1000000 := by
    have := ts_len ts
    rw [List.length_map, List.length_take]
    lia
  have hlt : (offT ts k : Int) < (patS ts).length := by lia
  have hge : -((patS ts).length : Int) ≤ offT ts k := by lia
  have hsn : (ts.take k).map (outQ S) ++ [outQ S t0] = (ts.take (k + 1)).map (outQ S) := by rw [List.take_add_one, ht0, List.map_append]; rfl
  refine ⟨.cast (.cmp (.name .n5) (.name .n6) .lti) (by rw [decide_eq_true hk, decide_eq_true hlt]), fun _ => ?_, fun hb => absurd hk (of_decide_eq_false hb)⟩
  have fin : ∀ (rst : List Stmt) (c2 j2 s2 : PV) (io : Int), io = (offT ts (k + 1) : Int) → Sx c [.str (patS ts), .ref S, .str (Str.ofString "."), .ref r, .ref b, .int io, .int (patS ts).length, c2, j2, s2] [(b, .obj (bapp r)), (r, .list ((ts.take k).map (outQ S) ++ [outQ S t0])), (104, tabA)] [] (Lp c (fun st : S9 => [.str (patS ts), .ref S, .str (Str.ofString "."), .ref r, .ref b, .int (offT ts st.k), .int (patS ts).length, st.c, st.j, st.stuff]) (fun st => [(b, .obj (bapp r)), (r, .list ((ts.take st.k).map (outQ S))), (104, tabA)]) (fun st => st.k ≤ ts.length) (fun st => ts.length - st.k) (ts.length - k) rst Φ E) E := fun rst c2 j2 s2 io e => by
    subst e
    exact .lp ⟨k + 1, c2, j2, s2⟩ rfl (by rw [hsn]) hk (Nat.sub_lt_sub_left hk (Nat.lt_succ_self k))
  cases t0 with
  | star =>
    refine .assign (.cast (.sign (.name .n0) (.name .n5) hge hlt hn6) (congrArg PV.str ((pat_at0 ht0 rfl).trans cst))) .n7 (.assign (.bin (.name .n5) .int .addi) .n5 (.ifte0 (.cmp (.name .n7) .str (.eqb (beq_self_eq_true _))) (fun _ => .ifte0 (b := true) ?_ (fun _ => .add .n4 (.head _) (.name .n1) (.tail .head) (.list hol) (fin _ _ _ _ _ (by rw [hsuc]; rfl))) nofun) nofun))
    by_cases hk0 : k = 0
    · subst hk0
      exact .bo (.or (a := true) (b := false) (.not (.listL (.name .n3) (.tail _ (.head _)) hol rfl)) nofun)
    · obtain ⟨j, hj⟩ : ∃ j, k = j + 1 := ⟨k - 1, by lia⟩
      obtain ⟨tp, htp⟩ : ∃ tp, ts[j]? = some tp := ⟨_, List.getElem?_eq_getElem (by lia)⟩
      have hns : tp ≠ .star := by
        rintro rfl
        exact hna j (by rw [← hj]; exact ht0) htp
      subst hj
      have hll : (List.map (outQ S) (ts.take (j + 1))).length = j + 1 := by rw [List.length_map, List.length_take]; lia
      have hlast : (List.map (outQ S) (ts.take (j + 1)))[(List.map (outQ S) (ts.take (j + 1))).length - 1]? = some (outQ S tp) := by
        rw [hll, List.getElem?_map, List.getElem?_take, if_pos (by lia), Nat.add_sub_cancel, htp]; rfl
      refine .bo (.or (a := false) (b := true) (.not (.listL (.name .n3) (.tail _ (.head _)) hol (by rw [List.isEmpty_eq_false_iff.mpr (List.ne_nil_of_length_eq_add_one hll)]))) fun _ => .or (a := true) (b := false) ?_ nofun)
      cases tp with
      | star => exact absurd rfl hns
      | quest => exact .cmp (.item (.name .n3) (.neg .int) (.tail _ (.head _)) (.last hlast)) (.name .n1) .isNot_str
      | ch y => exact .cmp (.item (.name .n3) (.neg .int) (.tail _ (.head _)) (.last hlast)) (.name .n1) .isNot_str
      | br y => exact .cmp (.item (.name .n3) (.neg .int) (.tail _ (.head _)) (.last hlast)) (.name .n1) .isNot_str
  | quest =>
    exact .assign (.cast (.sign (.name .n0) (.name .n5) hge hlt hn6) (congrArg PV.str ((pat_at0 ht0 rfl).trans cq))) .n7 (.assign (.bin (.name .n5) .int .addi) .n5 (.ifte0 (.cmp (.name .n7) .str (.eqb (b := false) (by decide +kernel))) nofun (fun _ => .ifte0 (.cmp (.name .n7) .str (.eqb (beq_self_eq_true _))) (fun _ => .add .n4 (.head _) (.name .n2) (.tail .head) (.list hol) (fin _ _ _ _ _ (by rw [hsuc]; rfl))) nofun)))
  | ch y =>
    have hc : safeC y = true := hts
    exact .assign (.cast (.sign (.name .n0) (.name .n5) hge hlt hn6) (congrArg PV.str (pat_at0 ht0 rfl))) .n7 (.assign (.bin (.name .n5) .int .addi) .n5 (.ifte0 (.cmp (.name .n7) .str (.eqb (one_ne cst (by rintro rfl; revert hc; decide)))) nofun (fun _ => .ifte0 (.cmp (.name .n7) .str (.eqb (one_ne cq (by rintro rfl; revert hc; decide)))) nofun (fun _ => .ifte0 (.cmp (.name .n7) .str (.eqb (one_ne cbr (by rintro rfl; revert hc; decide)))) nofun
      (fun _ => .add .n4 (.head _) (.con (p := .str (escC y)) gn_escape rfl (.cons (.name .n7) .nil) (Con.s1 (R' := fun _ _ _ => True) fun u => t102 y u hc) (by decide) (fun _ _ => trivial) (fun _ _ _ e => e)) (.tail .head) (.list hol) (fin _ _ _ _ _ (by rw [hsuc]; rfl)))))))
  | br x =>
    have B := brF hts
    have hl4 : (PTok.br x).cs.length = 4 := rfl
    rw [hl4] at hoff hsuc
    have hi1 : Txt.item (patS ts) ((offT ts k : Int) + 1) = ⟨#[x]⟩ := pat_at (j := 1) ht0 rfl
    have hi2 : Txt.item (patS ts) ((offT ts k : Int) + 1 + 1) = ⟨#[x - 32]⟩ := by rw [Int.add_assoc]; exact pat_at (j := 2) ht0 rfl
    have hi3 : Txt.item (patS ts) ((offT ts k : Int) + 1 + 1 + 1) = ⟨#[93]⟩ := by rw [Int.add_assoc, Int.add_assoc]; exact pat_at (j := 3) ht0 rfl
    have h93 : (⟨#[93]⟩ : Str) = Str.ofString "]" := by decide +kernel
    have hslx := pat_br ht0
    have hlx : (⟨#[x, x - 32]⟩ : Str).length = 2 := rfl
    have lt1 : (offT ts k : Int) + 1 < (patS ts).length := by lia
    have lt2 : (offT ts k : Int) + 1 + 1 < (patS ts).length := by lia
    have lt3 : (offT ts k : Int) + 1 + 1 + 1 < (patS ts).length := by lia
    have ge1 : -((patS ts).length : Int) ≤ (offT ts k : Int) + 1 := by lia
    have ge2 : -((patS ts).length : Int) ≤ (offT ts k : Int) + 1 + 1 := by lia
    have ge3 : -((patS ts).length : Int) ≤ (offT ts k : Int) + 1 + 1 + 1 := by lia
    refine .assign (.cast (.sign (.name .n0) (.name .n5) hge hlt hn6) (congrArg PV.str ((pat_at0 ht0 rfl).trans cbr))) .n7 (.assign (.bin (.name .n5) .int .addi) .n5 (.ifte0 (.cmp (.name .n7) .str (.eqb (b := false) (by decide +kernel))) nofun (fun _ => .ifte0 (.cmp (.name .n7) .str (.eqb (b := false) (by decide +kernel))) nofun (fun _ => .ifte0 (.cmp (.name .n7) .str (.eqb (beq_self_eq_true _))) (fun _ => ?_) nofun))))
    refine .assign (.name .n5) .n8 (.ifte (.cast (b' := false) (.bo (.and (b := false) (.cmp (.name .n8) (.name .n6) .lti) fun _ => .and (b := true) (.cmp (.cast (.sign (.name .n0) (.name .n8) ge1 lt1 hn6) (congrArg PV.str hi1)) .str (.eqb B.c0)) nofun)) (Bool.and_false _)) nofun (fun _ => .seq ?_))
    refine .ifte (.cast (b' := false) (.bo (.and (b := false) (.cmp (.name .n8) (.name .n6) .lti) fun _ => .and (b := true) (.cmp (.cast (.sign (.name .n0) (.name .n8) ge1 lt1 hn6) (congrArg PV.str hi1)) .str (.eqb B.c1)) nofun)) (Bool.and_false _)) nofun (fun _ => .seq ?_)
    refine Sx.while (fun q : Nat => [.str (patS ts), .ref S, .str (Str.ofString "."), .ref r, .ref b, .int ((offT ts k : Int) + 1), .int (patS ts).length, .str (Str.ofString "["), .int (match q with | 0 => (offT ts k : Int) + 1 | 1 => (offT ts k : Int) + 1 + 1 | _ => (offT ts k : Int) + 1 + 1 + 1), sv]) (fun _ => [(b, .obj (bapp r)), (r, .list ((ts.take k).map (outQ S))), (104, tabA)]) (fun q => q ≤ 2) (fun q => 2 - q) (fun q => decide (q < 2)) 0 hP (by decide) fun q hq => ?_
    match q, hq with
    | 0, _ =>
      exact ⟨.cast (.bo (.and (b := true) (.cmp (.name .n8) (.name .n6) .lti) fun _ => .and (b := true) (.cmp (.cast (.sign (.name .n0) (.name .n8) ge1 lt1 hn6) (congrArg PV.str hi1)) .str (.neb B.c2)) fun _ => .nilA)) ((Bool.and_true _).trans (decide_eq_true lt1)), fun _ => .assign (.bin (.name .n8) .int .addi) .n8 (.lp 1 rfl rfl (by decide) (by decide)), nofun⟩
    | 1, _ =>
      exact ⟨.cast (.bo (.and (b := true) (.cmp (.name .n8) (.name .n6) .lti) fun _ => .and (b := true) (.cmp (.cast (.sign (.name .n0) (.name .n8) ge2 lt2 hn6) (congrArg PV.str hi2)) .str (.neb B.c3)) fun _ => .nilA)) ((Bool.and_true _).trans (decide_eq_true lt2)), fun _ => .assign (.bin (.name .n8) .int .addi) .n8 (.lp 2 rfl rfl (by decide) (by decide)), nofun⟩
    | 2, _ =>
      refine ⟨.cast (.bo (.and (b := false) (.cmp (.name .n8) (.name .n6) .lti) fun _ => .and (b := true) (.cmp (.cast (.sign (.name .n0) (.name .n8) ge3 lt3 hn6) (congrArg PV.str hi3)) .str (.neb (b := false) (by rw [h93]; exact bne_self_eq_false _))) nofun)) (Bool.and_false _), nofun, fun _ => ?_⟩
      refine .ifte0 (.cmp (.name .n8) (.name .n6) .gei) (fun h => absurd (of_decide_eq_true h) (Int.not_le.mpr lt3)) (fun _ => ?_)
      refine .assign (.cast (.slice (.name .n0) (.some (.name .n5)) (.some (.name .n8)) (by lia)) (congrArg PV.str hslx)) .n9 (.ifte (.cmp .str (.name .n9) (.notIn B.nin)) (fun _ => .assign (.meth1 sm_replace (.name .n9) (.cons .str (.cons .str .nil)) (.replace B.nrep)) .n9 (.seq ?_)) nofun)
      refine .assignN (.sub rfl (.lam (.tail _ (.tail _ (.head _))) rfl (fun _ => rfl) (fun _ => rfl)) (fun f => .name .n9) B.tw) fun p W' hk => ?_
      obtain ⟨rfl, f, rfl⟩ := hk
      refine ⟨_, .n9, .assign (.bin (.name .n8) .int .addi) .n5 (.ifte0 (.not (.val (.name .n9) (.str (by rw [hlx]; decide)))) (fun h => absurd h (by rw [hlx]; decide)) (fun _ => .ifte0 (.cmp (.name .n9) .str (.eqb B.e1)) nofun (fun _ => .ifte (.cmp (.sign (.name .n9) .int (by rw [hlx]; decide) (by rw [hlx]; decide) (by rw [hlx]; decide)) .str (.eqb B.i0)) nofun (fun _ => .ifte0 (.inT (.sign (.name .n9) .int (by rw [hlx]; decide) (by rw [hlx]; decide) (by rw [hlx]; decide)) B.i1) nofun (fun _ => .seq ?_)))))⟩
      have hbs : PV.str (Str.empty ++ Str.ofString "[" ++ ⟨#[x, x - 32]⟩ ++ Str.ofString "]") = outQ S (.br x) := congrArg PV.str B.bs
      have e1 : (Str.ofString "[").length = 1 := by decide +kernel
      have e2 : (Str.ofString "]").length = 1 := by decide +kernel
      have e0 : Str.empty.length = 0 := rfl
      exact .add .n4 (.tail _ (.head _)) (.cast (.fstr (.cons .str (by rw [app_length, e0, e1, hz]; decide) (.cons (.fmt (.name .n9) (by rw [hlx, hz]; decide)) (by rw [app_length, app_length, e0, e1, hlx, hz]; decide) (.cons .str (by rw [app_length, app_length, app_length, e0, e1, e2, hlx, hz]; decide) (.nil (by rw [app_length, app_length, app_length, e0, e1, e2, hlx, hz]; decide)))))) hbs) (.tail (.tail .head)) (.list hol) (.weak (fin _ _ _ _ _ (by rw [hsuc]; rfl)))
end
section
open PySem PySem.W PySem.Calls PyProof.Rows
noncomputable def outS : PTok → Str
  | .star => Str.ofString ""
  | .quest => Str.ofString "."
  | .ch c => escC c
  | .br x => brS x
theorem OutsOk.str {S : Addr} {ts : List PTok} {vs : List Value} {k : Nat} {t : PTok} (h : OutsOk S ts vs) (ht : ts[k]? = some t) (hs : t ≠ .star) : ∃ u, vs[k]? = some (.str (outS t) u) := by
  have hk := (List.getElem?_eq_some_iff.mp ht).1
  have hl := h.len
  have hv : vs[k]? = some vs[k] := List.getElem?_eq_getElem (by lia)
  have := h.each k t _ ht hv
  rw [hv]
  cases t with
  | star => exact absurd rfl hs
  | quest => obtain ⟨u, e⟩ := this; exact ⟨u, by rw [e]; rfl⟩
  | ch c => obtain ⟨u, e⟩ := this; exact ⟨u, by rw [e]; rfl⟩
  | br x => obtain ⟨u, e⟩ := this; exact ⟨u, by rw [e]; rfl⟩
theorem OutsOk.star {S : Addr} {ts : List PTok} {vs : List Value} {k : Nat} (h : OutsOk S ts vs) (ht : ts[k]? = some .star) : vs[k]? = some (.ref S) := by
  have hk := (List.getElem?_eq_some_iff.mp ht).1
  have hl := h.len
  have hv : vs[k]? = some vs[k] := List.getElem?_eq_getElem (by lia)
  have := h.each k .star _ ht hv
  rw [hv]
  exact congrArg some this
theorem outS_len (t : PTok) : (outS t).length ≤ 4 := by
  cases t with
  | star => show (Str.ofString "").length ≤ 4; decide +kernel
  | quest => show (Str.ofString ".").length ≤ 4; decide +kernel
  | ch c =>
    show (escC c).length ≤ 4
    unfold escC
    split
    · decide +kernel
    · show 1 ≤ 4; decide
  | br x => show 4 ≤ 4; decide
noncomputable def midJ (mid : List PTok) : Str := Txt.join (Str.ofString "") (mid.map outS)
noncomputable def groupS (mid : List PTok) : Str := Str.empty ++ Str.ofString "(?>.*?" ++ midJ mid ++ Str.ofString ")"
theorem sum_outs : ∀ (ts : List PTok), ((ts.map outS).map (·.length)).sum ≤ ts.length * 4
  | [] => Nat.le_refl _
  | t :: ts => by
    have h1 := outS_len t
    have h2 := sum_outs ts
    simp only [List.map_cons, List.sum_cons, List.length_cons, Nat.add_mul]
    lia
theorem light_outs (ts : List PTok) (h : ts.length < 200) : Light (ts.map outS) := by
  have := sum_outs ts
  refine ⟨?_⟩
  rw [List.length_map]
  lia
theorem midJ_len (ts : List PTok) (h : ts.length < 200) : (midJ ts).length ≤ 1000 := by
  unfold midJ
  rw [join_eq]
  have h1 := StrLaws.join_length_le (Str.ofString "") (ts.map outS)
  have h2 := sum_outs ts
  have h3 : (Str.ofString "").length = 0 := by decide +kernel
  rw [h3] at h1
  lia
noncomputable def finOuts (pre mid post : List PTok) : List Str := if post = [] then pre.map outS ++ [Str.ofString ".*", midJ mid] else pre.map outS ++ [groupS mid, Str.ofString ".*"]
noncomputable def joinRes (pre mid post : List PTok) : Str := Str.empty ++ Str.ofString "(?s:" ++ Txt.join (Str.ofString "") (finOuts pre mid post) ++ Str.ofString ")\\Z"
theorem groupS_len (mid : List PTok) (h : mid.length < 200) : (groupS mid).length ≤ 1010 := by
  have h1 := midJ_len mid h
  have e1 : (Str.ofString "(?>.*?").length = 6 := by decide +kernel
  have e2 : (Str.ofString ")").length = 1 := by decide +kernel
  have e3 : Str.empty.length = 0 := by decide +kernel
  unfold groupS
  simp only [app_length, e1, e2, e3]
  lia
theorem sum_fin {pre mid post : List PTok} (h1 : pre.length < 200) (h2 : mid.length < 200) : ((finOuts pre mid post).map (·.length)).sum ≤ 2000 ∧ (finOuts pre mid post).length ≤ 202 := by
  have a1 := sum_outs pre
  have a2 := midJ_len mid h2
  have a3 := groupS_len mid h2
  have e1 : (Str.ofString ".*").length = 2 := by decide +kernel
  unfold finOuts
  split
  · refine ⟨?_, by simp; lia⟩
    rw [List.map_append, List.sum_append]
    simp only [List.map_cons, List.map_nil, List.sum_cons, List.sum_nil, e1]
    lia
  · refine ⟨?_, by simp; lia⟩
    rw [List.map_append, List.sum_append]
    simp only [List.map_cons, List.map_nil, List.sum_cons, List.sum_nil, e1]
    lia
theorem light_fin {pre mid post : List PTok} (h1 : pre.length < 200) (h2 : mid.length < 200) : Light (finOuts pre mid post) := by
  have := sum_fin (post := post) h1 h2
  exact ⟨by lia⟩
theorem fin_len {pre mid post : List PTok} (h1 : pre.length < 200) (h2 : mid.length < 200) : (Txt.join (Str.ofString "") (finOuts pre mid post)).length ≤ 3000 := by
  have := sum_fin (post := post) h1 h2
  rw [join_eq]
  have h3 := StrLaws.join_length_le (Str.ofString "") (finOuts pre mid post)
  have h4 : (Str.ofString "").length = 0 := by decide +kernel
  rw [h4] at h3
  lia
structure S6 where
  k : Nat
  outs : List Str
  fx : PV
def F116 : FI where
  qual := Str.ofString "_join_translated_parts"
  scope := { kind := .function, names := [(Str.ofString "inp", .local), (Str.ofString "STAR", .local), (Str.ofString "res", .local), (Str.ofString "add", .local), (Str.ofString "i", .local), (Str.ofString "n", .local), (Str.ofString "fixed", .local), (Str.ofString "len", .globalImplicit)], isGenerator := false, isCoroutine := false }
  f := 116
  cd := .ref 115
  locals := [Str.ofString "inp", Str.ofString "STAR", Str.ofString "res", Str.ofString "add", Str.ofString "i", Str.ofString "n", Str.ofString "fixed"]
theorem rep_s {x : Str} {t : Tok} : (PV.str x).rep (.str x t) := ⟨_, rfl⟩
theorem rep_r {a : Addr} : (PV.ref a).rep (.ref a) := rfl
noncomputable def J6 (pre mid post : List PTok) (st : S6) : Prop :=
  (st.k = pre.length ∧ st.outs = pre.map outS) ∨
  (post = [.star] ∧ st.k = pre.length + 1 + mid.length ∧ st.outs = pre.map outS ++ [groupS mid]) ∨
  (post = [] ∧ st.k = pre.length + 1 + mid.length ∧ st.outs = pre.map outS ++ [Str.ofString ".*", midJ mid])
theorem t116 (l : Addr) (S : Addr) (ts pre mid post : List PTok) (vs : List Value) (hts : ts = pre ++ (.star :: (mid ++ post))) (hpre : ∀ t ∈ pre, t ≠ .star) (hmid : ∀ t ∈ mid, t ≠ .star) (hm0 : 1 ≤ mid.length) (hpost : post = [] ∨ post = [.star]) (hlen : ts.length < 200) (hv : OutsOk S ts vs) :
    Con 6 116 [.ref l, .ref S] (fun h => h.IsList l vs.toArray) (fun h v h' => ∃ tk, v = .str (joinRes pre mid post) tk) := by
  have hvl := hv.len
  have hlen2 : ts.length = pre.length + 1 + mid.length + post.length := by rw [hts]; simp; lia
  have hpat : ∀ k t, pre[k]? = some t → ts[k]? = some t := fun k t h => by
    rw [hts, List.getElem?_append_left (List.getElem?_eq_some_iff.mp h).1]; exact h
  have hstar : ts[pre.length]? = some .star := by rw [hts, List.getElem?_append_right (Nat.le_refl _), Nat.sub_self]; rfl
  have hmat : ∀ k t, mid[k]? = some t → ts[pre.length + 1 + k]? = some t := fun k t h => by
    have h1 := (List.getElem?_eq_some_iff.mp h).1
    rw [hts, List.getElem?_append_right (Nat.le_trans (Nat.le_succ _) (Nat.le_add_right _ _)), show pre.length + 1 + k - pre.length = k + 1 by rw [Nat.add_assoc, Nat.add_sub_cancel_left, Nat.add_comm], List.getElem?_cons_succ, List.getElem?_append_left h1]; exact h
  have hlast : post = [.star] → ts[pre.length + 1 + mid.length]? = some .star := fun hp => by
    rw [hts, List.getElem?_append_right (Nat.le_trans (Nat.le_succ _) (Nat.le_add_right _ _)), show pre.length + 1 + mid.length - pre.length = mid.length + 1 by rw [Nat.add_assoc, Nat.add_sub_cancel_left, Nat.add_comm], List.getElem?_cons_succ, List.getElem?_append_right (Nat.le_refl _), Nat.sub_self, hp]; rfl
  refine Con.of (F := F116) (N := 5) (ps := [.ref l, .ref S, .unset, .unset, .unset, .unset, .unset]) (binds := [(Str.ofString "inp", .ref l), (Str.ofString "STAR", .ref S)]) (fun q => by k_is) (fun q => by k_is) (fun s => BindsTo.of_eq (by kernel_rfl)) (locs rfl) rfl rfl (by decide) ⟨⟨_, rfl, rfl⟩, ⟨_, rfl, rfl⟩, rfl, rfl, rfl, rfl, rfl, trivial⟩ fun c Φ E hE hP hl => ?_
  have hPT : pre.length < ts.length := hlen2 ▸ Nat.lt_of_lt_of_le (Nat.lt_succ_self _) (Nat.le_trans (Nat.le_add_right _ _) (Nat.le_add_right _ _))
  have hPM : pre.length + 1 + mid.length ≤ ts.length := hlen2 ▸ Nat.le_add_right _ _
  have hk6 : ∀ {k : Nat}, k < ts.length → (k : Int) < 1000000 := fun h => Int.ofNat_lt.mpr (Nat.lt_trans h (Nat.lt_trans hlen (by decide)))
  have hle6 : ∀ {k : Nat}, k ≤ ts.length → k ≤ 1000000 := fun h => Nat.le_trans h (Nat.le_trans (Nat.le_of_lt hlen) (by decide))
  have hdec : ts.length - (pre.length + 1 + mid.length) < ts.length - pre.length := Nat.sub_lt_sub_left hPT (Nat.lt_of_lt_of_le (Nat.lt_succ_self _) (Nat.le_add_right _ _))
  have hn6 : vs.length ≤ 1000000 := hle6 (Nat.le_of_eq hvl)
  have hP2 : pre.length < 200 := Nat.lt_trans hPT hlen
  have hM2 : mid.length < 200 := Nat.lt_of_le_of_lt (Nat.le_trans (Nat.le_add_left _ _) hPM) hlen
  have hfl := fin_len (pre := pre) (mid := mid) (post := post) hP2 hM2
  have e4 : (Str.ofString "(?s:").length = 4 := by decide +kernel
  have e3 : (Str.ofString ")\\Z").length = 3 := by decide +kernel
  have e0 : Str.empty.length = 0 := rfl
  have b1 : (Str.empty ++ Str.ofString "(?s:").length ≤ sizeLine := by rw [app_length, sizeLine_eq]; lia
  have b2 : (Str.empty ++ Str.ofString "(?s:" ++ Txt.join (Str.ofString "") (finOuts pre mid post)).length ≤ sizeLine := by rw [app_length, app_length, sizeLine_eq]; lia
  have b3 : (joinRes pre mid post).length ≤ sizeLine := by unfold joinRes; rw [app_length, app_length, app_length, sizeLine_eq]; lia
  have b4 : (Txt.join (Str.ofString "") (finOuts pre mid post)).length ≤ sizeLine := by rw [sizeLine_eq]; lia
  have hlf : Light (finOuts pre mid post) := light_fin hP2 hM2
  have he16 : (Str.ofString "").length ≤ 16 := by decide +kernel
  refine .assignN .list0 fun p W' hk => ?_
  obtain ⟨r, rfl, rfl⟩ := hk
  refine ⟨_, .n2, .assignA (.bound .n2 (.head _) ⟨[], .inl rfl⟩) (fun a => .n3) fun b => .assign2 .int (.callB bn_len rfl (.cons (.name .n0) .nil) (.lenB hl hn6)) .n5 .n4 ?_⟩
  refine Sx.while (fun st : S6 => [.ref l, .ref S, .ref r, .ref b, .int st.k, .int vs.length, .unset]) (fun st => [(b, .obj (bapp r)), (r, .strs st.outs)]) (fun st => st.k ≤ pre.length ∧ st.outs = (pre.map outS).take st.k) (fun st => pre.length - st.k) (fun st => decide (st.k < pre.length)) ⟨0, [], .unset⟩ hP ⟨Nat.zero_le _, rfl⟩ fun st hJ => ?_
  obtain ⟨k, outs, fx⟩ := st
  dsimp only at hJ ⊢
  obtain ⟨hJk, rfl⟩ := hJ
  have hol : ((pre.map outS).take k).length ≤ 1000000 := by rw [List.length_take]; exact hle6 (Nat.le_trans (Nat.min_le_left _ _) (Nat.le_trans hJk (Nat.le_of_lt hPT)))
  by_cases hk : k < pre.length
  · obtain ⟨t0, ht0⟩ : ∃ t0, pre[k]? = some t0 := ⟨_, List.getElem?_eq_getElem hk⟩
    obtain ⟨u9, hx⟩ := hv.str (hpat _ _ ht0) (hpre _ (List.mem_of_getElem? ht0))
    refine ⟨.cast (.bo (.and (.cmp (.name .n4) (.name .n5) .lti) fun _ => .and (.cmp (.itemB (.name .n0) (.name .n4) hl (Int.natCast_nonneg k) (hk6 (Nat.lt_trans hk hPT)) hx rep_s) (.name .n1) .isNot_str) fun _ => .nilA)) ?_, fun _ => ?_, fun hb => absurd hk (of_decide_eq_false hb)⟩
    · rw [decide_eq_true hk, decide_eq_true (Int.ofNat_lt.mpr (hvl ▸ Nat.lt_trans hk hPT))]; rfl
    · exact .add .n3 (.head _) (.itemB (.name .n0) (.name .n4) hl (Int.natCast_nonneg k) (hk6 (Nat.lt_trans hk hPT)) hx rep_s) (.tail .head) (.strs hol) (.aug .n4 nofun .int .addi .n4 (.lp ⟨k + 1, (pre.map outS).take k ++ [outS t0], fx⟩ rfl rfl ⟨hk, by rw [List.take_add_one, List.getElem?_map, ht0]; rfl⟩ (Nat.sub_lt_sub_left hk (Nat.lt_succ_self k))))
  have hke : k = pre.length := Nat.le_antisymm hJk (Nat.le_of_not_lt hk)
  subst hke
  have hx := hv.star hstar
  refine ⟨.cast (.bo (.and (.cmp (.name .n4) (.name .n5) .lti) fun _ => .and (.cmp (.itemB (.name .n0) (.name .n4) hl (Int.natCast_nonneg _) (hk6 hPT) hx rep_r) (.name .n1) .isNot_self) fun _ => .nilA)) ?_, fun hb => absurd (of_decide_eq_true hb) hk, fun _ => ?_⟩
  · rw [decide_eq_false hk]; simp
  refine Sx.while (fun st : S6 => [.ref l, .ref S, .ref r, .ref b, .int st.k, .int vs.length, st.fx]) (fun st => [(b, .obj (bapp r)), (r, .strs st.outs)]) (J6 pre mid post) (fun st => ts.length - st.k) (fun st => decide (st.k < vs.length)) ⟨pre.length, (pre.map outS).take pre.length, .unset⟩ hP (.inl ⟨rfl, List.take_of_length_le (by rw [List.length_map]; exact Nat.le_refl _)⟩) fun st hJ => ?_
  obtain ⟨k, outs, fx⟩ := st
  have hlt : ∀ {b : Bool}, b = decide (k < vs.length) → (decide ((k : Int) < (vs.length : Int))) = b := fun e => by rw [e]; exact decide_eq_decide.mpr Int.ofNat_lt
  refine ⟨.cast (.cmp (.name .n4) (.name .n5) .lti) (hlt rfl), fun hb => ?_, fun hb => ?_⟩
  rotate_left
  · have hb := of_decide_eq_false hb
    rcases hJ with ⟨rfl, rfl⟩ | ⟨hp, rfl, rfl⟩ | ⟨hp, rfl, rfl⟩
    · exact absurd (by dsimp only; lia) hb
    · have : post.length = 1 := by rw [hp]; rfl
      exact absurd (by dsimp only; lia) hb
    · have hpl : post.length = 0 := by rw [hp]; rfl
      have hf : pre.map outS ++ [Str.ofString ".*", midJ mid] = finOuts pre mid post := by rw [finOuts, if_pos hp]
      dsimp only
      rw [hf]
      refine .asrt (.cast (.cmp (.name .n4) (.name .n5) .eqi) ?_) (.assign (.meth1 sm_join .str (.cons (.name .n2) .nil) (.join (.tail _ (.head _)) hlf he16)) .n2 (.ret hE (.fstr (.cons .str b1 (.cons (.fmt (.name .n2) b4) b2 (.cons .str b3 (.nil b3))))) fun v h' hr _ => hr))
      exact beq_iff_eq.mpr (by lia)
  have hb := of_decide_eq_true hb
  rcases hJ with ⟨hk, hJ⟩ | ⟨hp, hk, hJ⟩ | ⟨hp, hk, hJ⟩
  · dsimp only at hk hJ
    subst hk hJ
    dsimp only
    have hxs := hv.star hstar
    obtain ⟨t0, ht0⟩ : ∃ t0, mid[0]? = some t0 := ⟨_, List.getElem?_eq_getElem hm0⟩
    obtain ⟨u9, hx3⟩ := hv.str (hmat _ _ ht0) (hmid _ (List.mem_of_getElem? ht0))
    refine .asrt (.cmp (.itemB (.name .n0) (.name .n4) hl (Int.natCast_nonneg _) (hk6 hPT) hxs rep_r) (.name .n1) .is_self) (.aug .n4 nofun .int .addi .n4 (.ifte (.cmp (.name .n4) (.name .n5) .eqi) (fun h => absurd (eq_of_beq h) (by lia)) (fun _ => .seq (.asrt (.cmp (.itemB (.name .n0) (.name .n4) hl (by lia) (by lia) (show vs[((pre.length : Int) + 1).toNat]? = _ from hx3) rep_s) (.name .n1) .isNot_str) (.assignN .list0 fun p W' hk => ?_)))))
    obtain ⟨a, rfl, rfl⟩ := hk
    refine ⟨_, .n6, ?_⟩
    rw [show ((pre.length : Nat) : Int) + 1 = ((pre.length + 1 + 0 : Nat) : Int) from rfl]
    refine Sx.while (fun st : S6 => [.ref l, .ref S, .ref r, .ref b, .int ((pre.length + 1 + st.k : Nat) : Int), .int vs.length, .ref a]) (fun st => [(a, .strs st.outs), (b, .obj (bapp r)), (r, .strs (pre.map outS))]) (fun st => st.k ≤ mid.length ∧ st.outs = (mid.map outS).take st.k) (fun st => mid.length - st.k) (fun st => decide (st.k < mid.length)) ⟨0, [], .unset⟩ hP ⟨Nat.zero_le _, rfl⟩ fun st hJ => ?_
    obtain ⟨k, outs, fx⟩ := st
    dsimp only at hJ ⊢
    obtain ⟨hJk, rfl⟩ := hJ
    have hol : ((mid.map outS).take k).length ≤ 1000000 := by rw [List.length_take]; exact hle6 (Nat.le_trans (Nat.min_le_left _ _) (Nat.le_trans hJk (Nat.le_trans (Nat.le_add_left _ _) hPM)))
    by_cases hk : k < mid.length
    · obtain ⟨t1, ht1⟩ : ∃ t1, mid[k]? = some t1 := ⟨_, List.getElem?_eq_getElem hk⟩
      obtain ⟨u8, hx⟩ := hv.str (hmat _ _ ht1) (hmid _ (List.mem_of_getElem? ht1))
      refine ⟨.cast (.bo (.and (.cmp (.name .n4) (.name .n5) .lti) fun _ => .and (.cmp (.itemB (.name .n0) (.name .n4) hl (Int.natCast_nonneg _) (hk6 (Nat.lt_of_lt_of_le (Nat.add_lt_add_left hk _) hPM)) hx rep_s) (.name .n1) .isNot_str) fun _ => .nilA)) ?_, fun _ => ?_, fun hb => absurd hk (of_decide_eq_false hb)⟩
      · rw [decide_eq_true hk, decide_eq_true (Int.ofNat_lt.mpr (hvl ▸ Nat.lt_of_lt_of_le (Nat.add_lt_add_left hk _) hPM))]; rfl
      · exact .append (.name .n6) (.itemB (.name .n0) (.name .n4) hl (Int.natCast_nonneg _) (hk6 (Nat.lt_of_lt_of_le (Nat.add_lt_add_left hk _) hPM)) hx rep_s) .head ⟨_, .inl rfl⟩ (.strs hol) (.aug .n4 nofun .int .addi .n4 (.lp ⟨k + 1, (mid.map outS).take k ++ [outS t1], fx⟩ rfl rfl ⟨hk, by rw [List.take_add_one, List.getElem?_map, ht1]; rfl⟩ (Nat.sub_lt_sub_left hk (Nat.lt_succ_self k))))
    have hke : k = mid.length := Nat.le_antisymm hJk (Nat.le_of_not_lt hk)
    subst hke
    have e1 : (mid.map outS).take mid.length = mid.map outS := List.take_of_length_le (by rw [List.length_map]; exact Nat.le_refl _)
    rw [e1]
    have hM2 : mid.length < 200 := Nat.lt_of_le_of_lt (Nat.le_trans (Nat.le_add_left _ _) hPM) hlen
    have hmj := midJ_len mid hM2
    have hgl := groupS_len mid hM2
    have hro : (pre.map outS).length ≤ 1000000 := by rw [List.length_map]; exact hle6 (Nat.le_of_lt hPT)
    have hlo : Light (mid.map outS) := light_outs mid hM2
    rcases hpost with hp | hp
    · have hpl : post.length = 0 := by rw [hp]; rfl
      refine ⟨.cast (.bo (.and (.cmp (.name .n4) (.name .n5) .lti) (b := true) fun h => absurd (of_decide_eq_true h) (by lia))) ?_, fun hb => absurd (of_decide_eq_true hb) hk, fun _ => ?_⟩
      · rw [decide_eq_false hk, decide_eq_false (by lia)]; rfl
      refine .assign (.meth1 sm_join .str (.cons (.name .n6) .nil) (.join (.head _) hlo he16)) .n6 (.weak (.ifte0 (.cmp (.name .n4) (.name .n5) .eqi) (fun _ => ?_) (fun h => ?_)))
      · refine .add .n3 (.head _) .str (.tail .head) (.strs hro) (.add .n3 (.head _) (.name .n6) (.tail .head) (.strs (by rw [List.length_append, List.length_map]; exact hle6 hPT)) (.lp ⟨pre.length + 1 + mid.length, _, .str (midJ mid)⟩ rfl rfl (.inr (.inr ⟨hp, rfl, ?_⟩)) hdec))
        rw [List.append_assoc]; rfl
      · exact absurd h (by rw [beq_iff_eq.mpr (show ((pre.length + 1 + mid.length : Nat) : Int) = (vs.length : Int) by lia)]; decide)
    · have hpl : post.length = 1 := by rw [hp]; rfl
      have hx5 := hv.star (hlast hp)
      have h5 : pre.length + 1 + mid.length < ts.length := by rw [hlen2, hpl]; exact Nat.lt_succ_self _
      refine ⟨.cast (.bo (.and (.cmp (.name .n4) (.name .n5) .lti) fun _ => .and (.cmp (.itemB (.name .n0) (.name .n4) hl (Int.natCast_nonneg _) (hk6 h5) hx5 rep_r) (.name .n1) .isNot_self) fun _ => .nilA)) ?_, fun hb => absurd (of_decide_eq_true hb) hk, fun _ => ?_⟩
      · rw [decide_eq_false hk]; simp
      have c1 : (Str.empty ++ Str.ofString "(?>.*?").length ≤ sizeLine := by rw [app_length, sizeLine_eq]; have : (Str.ofString "(?>.*?").length = 6 := by decide +kernel
                                                                             lia
      have c2 : (Str.empty ++ Str.ofString "(?>.*?" ++ midJ mid).length ≤ sizeLine := by
        have : (Str.ofString "(?>.*?").length = 6 := by decide +kernel
        rw [app_length, app_length, sizeLine_eq]; lia
      refine .assign (.meth1 sm_join .str (.cons (.name .n6) .nil) (.join (.head _) hlo he16)) .n6 (.weak (.ifte0 (.cmp (.name .n4) (.name .n5) .eqi) (fun h => absurd (eq_of_beq h) (by lia)) (fun _ => ?_)))
      exact .add .n3 (.head _) (.fstr (.cons .str c1 (.cons (.fmt (.name .n6) (by rw [sizeLine_eq]; exact Nat.le_trans hmj (by decide))) c2 (.cons .str (x := groupS mid) (by rw [sizeLine_eq]; exact Nat.le_trans hgl (by decide)) (.nil (by rw [sizeLine_eq]; exact Nat.le_trans hgl (by decide))))))) (.tail .head) (.strs hro) (.lp ⟨pre.length + 1 + mid.length, _, .str (midJ mid)⟩ rfl rfl (.inr (.inl ⟨hp, rfl, rfl⟩)) hdec)
  · dsimp only at hk hJ
    subst hk hJ
    dsimp only
    have hpl : post.length = 1 := by rw [hp]; rfl
    have hx5 := hv.star (hlast hp)
    have h5 : pre.length + 1 + mid.length < ts.length := by rw [hlen2, hpl]; exact Nat.lt_succ_self _
    have hf : pre.map outS ++ [groupS mid] ++ [Str.ofString ".*"] = finOuts pre mid post := by
      rw [finOuts, if_neg (by rw [hp]; simp), List.append_assoc]; rfl
    have hro : (pre.map outS ++ [groupS mid]).length ≤ 1000000 := by rw [List.length_append, List.length_map]; exact hle6 hPT
    refine .asrt (.cmp (.itemB (.name .n0) (.name .n4) hl (Int.natCast_nonneg _) (hk6 h5) hx5 rep_r) (.name .n1) .is_self) (.aug .n4 nofun .int .addi .n4 (.ifte (.cmp (.name .n4) (.name .n5) .eqi) (fun _ => ?_) (fun h => ?_)))
    · refine .add .n3 (.head _) .str (.tail .head) (.strs hro) (.brkS ?_)
      rw [hf]
      refine .asrt (.cast (.cmp (.name .n4) (.name .n5) .eqi) (beq_iff_eq.mpr (by lia))) (.assign (.meth1 sm_join .str (.cons (.name .n2) .nil) (.join (.tail _ (.head _)) hlf he16)) .n2 (.ret hE (.fstr (.cons .str b1 (.cons (.fmt (.name .n2) b4) b2 (.cons .str b3 (.nil b3))))) fun v h' hr _ => hr))
    · exact absurd h (by rw [beq_iff_eq.mpr (show ((pre.length + 1 + mid.length : Nat) : Int) + 1 = (vs.length : Int) by lia)]; decide)
  · have hpl : post.length = 0 := by rw [hp]; rfl
    dsimp only at hk hb
    exact absurd hb (by lia)
end
section
open PySem PySem.W PySem.Calls PyProof.Rows
theorem mro_object' : mroOf (.type "object") = pure [.type "object"] := by rw [mroOf_type]; kernel_rfl
theorem lookup_object_new' : typeLookup (.type "object") "__new__" = pure (some (.builtin "object.__new__")) := by rw [typeLookup_type, builtinLookup_eq_fast]; kernel_rfl
theorem slot_object_init' : Slot "object" "__init__" "object.__init__" :=
  .of (owner := "object") (n := "__init__") (by rw [typeLookup_type, builtinLookup_eq_fast]; kernel_rfl) (by decide +kernel) (by decide +kernel) (by decide +kernel)
    (by first | exact .inl (by decide +kernel) | exact .inr (by decide +kernel)) (by rw [isSubtype_type]; kernel_rfl)
theorem called_object : TypeCalled "object" "object.__new__" "object.__init__" :=
  ⟨by decide +kernel, by decide +kernel, ⟨_, _, mro_object'⟩, madeBy_type mro_object' lookup_object_new' (by decide +kernel), by decide +kernel, by rw [isSubtype_type]; kernel_rfl, slot_object_init'⟩
theorem typeCall_object : checkTypeCall "object" ⟨[], []⟩ = pure () := by kernel_rfl
theorem newCall_object : checkBuiltinCall "object.__new__" ⟨[.type "object"], []⟩ = pure () := by kernel_rfl
theorem is_type_object : isType (.type "object") = pure true := by first | rfl | kernel_rfl | (unfold isType; rw [isSubtype_type]; kernel_rfl)
theorem madeHere_object : Bind.madeHere "object.__new__" (.type "object") = pure () := by first | kernel_rfl | rfl
theorem no_dict_object : typeHasDict (.type "object") = false := by first | decide +kernel | kernel_rfl
theorem obj_new_meets : Meets (Builtin.«object.__new__» ⟨[.type "object"], []⟩) (fun _ R s => R (.ok (.ret (.ref s.heap.objs.size))) { s with heap := s.heap.push { cls := .type "object" } }) := by
  refine Meets.of_wp fun prog w A R s hs => ?_
  have f1 := is_type_object
  have f2 := madeHere_object
  have f3 := no_dict_object
  have f4 : ((Manifest.find? "object").elim false fun x => x.mro.any fun t => (Manifest.find? t).elim false (·.noNew)) = false := by decide +kernel
  unfold Builtin.«object.__new__»
  repeat (any_goals (first | assumption | wp_step))
  exact ⟨_, rfl, hs⟩
theorem obj_init_meets {x : Value} : Meets (Builtin.«object.__init__» ⟨[x], []⟩) (fun _ R s => R (.ok (.ret .none)) s) := by
  refine Meets.of_wp fun prog w A R s hs => ?_
  exact wpAny_pure ⟨_, rfl, hs⟩
section
variable {prog : Program} {w : World} {A : Around} {E : Value → Shared → Prop} {s : Shared} {L : Addr} {h₀ : Heap} {m mg mb : Str → Option Value} {news : List (Addr × Obj)}
theorem call_object {Q : Value → Shared → Prop} (F : Fr h₀ L s.heap m) (N : News h₀ L s.heap news) (h : ∀ x h', Fr h₀ L h' m → News h₀ L h' ((x, { cls := .type "object" }) :: news) → (∀ q ∈ news, q.1 < x) → Q (.ref x) { s with heap := h' }) :
    wpAny (model prog w) A (call (.type "object") []) Q E s := by
  refine callType_meets called_object typeCall_object newCall_object PySem.F.entry_object_new PySem.F.entry_object_init obj_new_meets (Q₁ := fun v s₁ => v = .ref s.heap.objs.size ∧ s₁ = { s with heap := s.heap.push { cls := .type "object" } }) ?_ ?_
  · exact ⟨rfl, rfl⟩
  · rintro obj s₁ ⟨rfl, rfl⟩
    refine ⟨⟨_, Heap.get?_push_size _ rfl, rfl⟩, (by unfold argsOk; kernel_rfl), _, obj_init_meets, ?_⟩
    exact ⟨rfl, h _ _ (F.push _) (News.push F N _) fun p hp => Heap.lt_size (N p hp).1⟩
end
end
section
open PySem PySem.W PySem.Calls PyProof.Rows
theorem pat_tok {pre mid post : List PTok} (hpre : ∀ t ∈ pre, t ≠ .star) (hmid : ∀ t ∈ mid, t ≠ .star) (hm0 : 1 ≤ mid.length) (hpost : post = [] ∨ post = [.star]) :
    ∀ j : Nat, (pre ++ (PTok.star :: (mid ++ post)))[j + 1]? = some .star → (pre ++ (PTok.star :: (mid ++ post)))[j]? ≠ some .star := by
  intro j h1 h2
  have star_at : ∀ j : Nat, (pre ++ (PTok.star :: (mid ++ post)))[j]? = some .star → j = pre.length ∨ j = pre.length + 1 + mid.length := by
    intro j h
    by_cases h3 : j < pre.length
    · rw [List.getElem?_append_left h3] at h
      exact absurd rfl (hpre _ (List.mem_of_getElem? h))
    · rw [List.getElem?_append_right (Nat.le_of_not_lt h3)] at h
      by_cases h4 : j = pre.length
      · exact .inl h4
      · obtain ⟨k, hk⟩ : ∃ k, j - pre.length = k + 1 := ⟨j - pre.length - 1, by lia⟩
        rw [hk, List.getElem?_cons_succ] at h
        by_cases h5 : k < mid.length
        · rw [List.getElem?_append_left h5] at h
          exact absurd rfl (hmid _ (List.mem_of_getElem? h))
        · rw [List.getElem?_append_right (Nat.le_of_not_lt h5)] at h
          rcases hpost with hp | hp
          · rw [hp] at h; simp at h
          · rw [hp] at h
            have := (List.getElem?_eq_some_iff.mp h).1
            simp at this
            right; lia
  have a1 := star_at _ h1
  have a2 := star_at _ h2
  lia
section
variable {F : FI} {N : Nat} {c : Cx F N} {ps : List PV} {W : Led} {Φ : Flow → Shared → Prop} {E : Value → Shared → Prop} {rest : List Stmt}
theorem Ea.object {px pos : Pos} (b : BVal (Str.ofString "object") (.type "object")) (hk : F.scope.names.lookup (Str.ofString "object") = some .globalImplicit) (he : CallEq c (.Name (Str.ofString "object") px) [] pos := by exact rfl) :
    Ea c ps W (.Call (.Name (Str.ofString "object") px) [] [] pos) (.obj { cls := .type "object" }) := by
  intro hh tk Q E i hq
  obtain ⟨m, news, hF, hN, hf, hl, nd⟩ := _root_.id i
  refine Call_ (Cx.nmB hF (b.n _) b.b b.u ?_ hk b.d) he
  refine PyProof.Rows.callWith_type0 (call_object (s := c.st hh tk) hF hN fun x h' F' N' lt => hq x h' _ ⟨m, _, F', N', hf, ⟨⟨rfl, rfl⟩, hl⟩, ?_⟩)
  rw [List.map_cons, List.nodup_cons]
  refine ⟨fun hm => ?_, nd⟩
  rw [lrep_map hl] at hm
  obtain ⟨q, hq, e⟩ := List.mem_map.mp hm
  exact absurd (lt q hq) (by rw [e]; exact Nat.lt_irrefl _)
theorem In.callT {n : Nat} {f : Addr} {vs : List Value} {R : Heap → Value → Heap → Prop} {h : Heap} {tk : Nat} {Q E : Value → Shared → Prop} (i : In c ps W h) (h104 : (104, tabA) ∈ W) (C : ConT n f vs R) (hn : n ≤ N)
    (hq : ∀ v h' tk', In c ps W h' → R h v h' → Q v (c.st h' tk')) : wpAny c.M c.A (PySem.call (.ref f) vs) Q E (c.st h tk) := by
  obtain ⟨m, news, hF, hN, hf, hl, nd⟩ := i
  obtain ⟨ob, g, ⟨pt, rfl, hk⟩, u, hg⟩ := lrep_updF hl nd h104
  exact C.use (s := c.st h tk) hF c.X hN c.T u hk (by have := c.hd; lia) (by have := c.hu; lia) c.hh fun v h' tk' ps' F' N' hk' _ r => hq v h' tk' ⟨m, _, F', N', hf, hg _ ⟨ps', rfl, hk'⟩, nd⟩ r
theorem Es.conT {n : Nat} {f : Addr} {R : Heap → Value → Heap → Prop} {x : Str} {px pos : Pos} {e : PySem.Expr} {es : List PySem.Expr} {qs : List PV} {h : Heap} {tk : Nat} {Q E : Value → Shared → Prop} (g : GName x f) (hk : F.scope.names.lookup x = some .globalImplicit) (h104 : (104, tabA) ∈ W) (ha : Es c ps W (e :: es) qs) (C : ∀ vs, reps qs vs → ConT n f vs R) (hn : n ≤ N)
    (i : In c ps W h) (hq : ∀ h₁ v h' tk', In c ps W h₁ → In c ps W h' → R h₁ v h' → Q v (c.st h' tk'))
    (he : CallEq c (.Name x px) (e :: es) pos) (hst : starEach (e :: es) c.env = (false, eval e c.env) :: starEach es c.env) (hpl : (backTo pos (starEach es c.env)).any (·.1) = false) : wpAny c.M c.A (eval (.Call (.Name x px) (e :: es) [] pos) c.env) Q E (c.st h tk) := by
  obtain ⟨m, news, hF, hN, hf, hl, nd⟩ := _root_.id i
  refine Call_ (Cx.nmK hF (g.n _) ?_ hk g.d) he
  refine callWith_K c.X (g.k _) (ha _ _ _ _ _ i fun vs h' tk' hr i' => ⟨?_, ?_⟩) hst hpl
  · obtain ⟨_, _, hF', _⟩ := _root_.id i'
    exact c.X.keeps hF'.keep
  · exact i'.callT h104 (C vs hr) hn fun v h2 tk2 i2 r => hq h' v h2 tk2 i' i2 r
theorem Ep.conT {n : Nat} {f : Addr} {R : Heap → Value → Heap → Prop} {x : Str} {px pos : Pos} {e : PySem.Expr} {es : List PySem.Expr} {qs : List PV} {p : PV} (g : GName x f) (hk : F.scope.names.lookup x = some .globalImplicit) (h104 : (104, tabA) ∈ W) (ha : Es c ps W (e :: es) qs) (C : ∀ vs, reps qs vs → ConT n f vs R) (hn : n ≤ N) (hR : ∀ h v h', R h v h' → p.rep v)
    (he : CallEq c (.Name x px) (e :: es) pos := by exact rfl) (hst : starEach (e :: es) c.env = (false, eval e c.env) :: starEach es c.env := by rfl) (hpl : (backTo pos (starEach es c.env)).any (·.1) = false := by rfl) : Ep c ps W (.Call (.Name x px) (e :: es) [] pos) p :=
  fun _ _ _ _ i hq => Es.conT g hk h104 ha C hn i (fun h₁ v h' tk' _ i' r => hq _ _ _ (hR _ _ _ r) i') he hst hpl
theorem Ea.conT {n : Nat} {f : Addr} {R : Heap → Value → Heap → Prop} {x : Str} {px pos : Pos} {e : PySem.Expr} {es : List PySem.Expr} {qs : List PV} {o : AO} (g : GName x f) (hk : F.scope.names.lookup x = some .globalImplicit) (h104 : (104, tabA) ∈ W) (ha : Es c ps W (e :: es) qs) (C : ∀ vs, reps qs vs → ConT n f vs R) (hn : n ≤ N)
    (hR : ∀ h v h', R h v h' → ∃ a ob, v = .ref a ∧ h.get? a = Option.none ∧ h'.get? a = some ob ∧ o.rep ob)
    (he : CallEq c (.Name x px) (e :: es) pos := by exact rfl) (hst : starEach (e :: es) c.env = (false, eval e c.env) :: starEach es c.env := by rfl) (hpl : (backTo pos (starEach es c.env)).any (·.1) = false := by rfl) : Ea c ps W (.Call (.Name x px) (e :: es) [] pos) o :=
  fun _ _ _ _ i hq => Es.conT g hk h104 ha C hn i (fun h₁ v h' tk' i₁ i' r => by
    obtain ⟨a, ob, rfl, h1, h2, h3⟩ := hR _ _ _ r
    exact hq a _ _ (i₁.new i' h1 h2 h3)) he hst hpl
theorem Ep.conP {n : Nat} {f : Addr} {x : Str} {px pos : Pos} {e : PySem.Expr} {es : List PySem.Expr} {qs : List PV} {p : PV} (g : GName x f) (hk : F.scope.names.lookup x = some .globalImplicit) (ha : Es c ps W (e :: es) qs) (hn : n ≤ N)
    (C : ∀ h vs, In c ps W h → reps qs vs → ∃ P R, Con n f vs P R ∧ P h ∧ ∀ v h', R h v h' → p.rep v)
    (he : CallEq c (.Name x px) (e :: es) pos := by exact rfl) (hst : starEach (e :: es) c.env = (false, eval e c.env) :: starEach es c.env := by rfl) (hpl : (backTo pos (starEach es c.env)).any (·.1) = false := by rfl) : Ep c ps W (.Call (.Name x px) (e :: es) [] pos) p := by
  intro h tk Q E i hq
  obtain ⟨m, news, hF, hN, hf, hl, nd⟩ := _root_.id i
  refine Call_ (Cx.nmK hF (g.n _) ?_ hk g.d) he
  refine callWith_K c.X (g.k _) (ha _ _ _ _ _ i fun vs h' tk' hr i' => ⟨?_, ?_⟩) hst hpl
  · obtain ⟨_, _, hF', _⟩ := _root_.id i'
    exact c.X.keeps hF'.keep
  · obtain ⟨P, R, C', hP, hR⟩ := C h' vs i' hr
    exact i'.call C' hn hP fun v h2 tk2 i2 _ r => hq _ _ _ (hR v h2 r) i2
end
def F90 : FI where
  qual := Str.ofString "translate"
  scope := { kind := .function, names := [(Str.ofString "pat", .local), (Str.ofString "STAR", .local), (Str.ofString "parts", .local), (Str.ofString "object", .globalImplicit), (Str.ofString "_translate", .globalImplicit), (Str.ofString "_join_translated_parts", .globalImplicit)], isGenerator := false, isCoroutine := false }
  f := 90
  cd := .ref 89
  locals := [Str.ofString "pat", Str.ofString "STAR", Str.ofString "parts"]
theorem gn_translate1 : GName (Str.ofString "_translate") 109 := ⟨fun q => by k_is, fun q => by k_is, by decide⟩
theorem gn_join1 : GName (Str.ofString "_join_translated_parts") 116 := ⟨fun q => by k_is, fun q => by k_is, by decide⟩
theorem bv_object : BVal (Str.ofString "object") (.type "object") := ⟨fun q => by k_is, by boot_fast, by decide, by decide⟩
theorem t90 (pre mid post : List PTok) (u0 : Tok) (hn : (patS (pre ++ (.star :: (mid ++ post)))).length < 200) (hok : ∀ t ∈ (pre ++ (.star :: (mid ++ post))), t.ok)
    (hpre : ∀ t ∈ pre, t ≠ .star) (hmid : ∀ t ∈ mid, t ≠ .star) (hm0 : 1 ≤ mid.length) (hpost : post = [] ∨ post = [.star]) :
    ConT 14 90 [.str (patS (pre ++ (.star :: (mid ++ post)))) u0] (fun h v h' => ∃ tk, v = .str (joinRes pre mid post) tk) := by
  have htl := Nat.lt_of_le_of_lt (ts_len (pre ++ (.star :: (mid ++ post)))) hn
  refine ConT.of (F := F90) (N := 13) (ps := [.str (patS (pre ++ (.star :: (mid ++ post)))), .unset, .unset]) (binds := [(Str.ofString "pat", .str (patS (pre ++ (.star :: (mid ++ post)))) u0)]) (fun q => by k_is) (fun q => by k_is) (fun s => BindsTo.of_eq (by kernel_rfl)) (locs rfl) rfl rfl (by decide) ⟨⟨_, rfl, _, rfl⟩, rfl, rfl, trivial⟩ fun c Φ E hE hP hh0 => ?_
  refine .assignA (.object bv_object rfl) (fun S => .n1) fun S => .assignA (o := .pred fun ob => ∃ vs n, ob = listOf (vs : List Value).toArray n ∧ OutsOk S (pre ++ (.star :: (mid ++ post))) vs) (.conT gn_translate1 rfl (.tail _ (.head _)) (.cons (.name .n0) (.cons (.name .n1) (.cons .str .nil))) (n := 6) (R := fun h v h' => R109 S (pre ++ (.star :: (mid ++ post))) h v h') (fun vs hr => ?_) (by decide) (fun h v h' r => ?_)) (fun l => .n2) fun l => ?_
  · obtain ⟨a, b, d, rfl, ⟨t1, rfl⟩, rfl, t3, rfl⟩ := reps3 hr
    exact t109 _ _ _ _ hn hok (pat_tok hpre hmid hm0 hpost)
  · obtain ⟨D, n, vs, e, h1, h2, h3⟩ := r.ex
    exact ⟨D, _, e, h1, h2, vs, n, rfl, h3⟩
  refine .ret hE (p := .str (joinRes pre mid post)) (.conP (n := 6) gn_join1 rfl (.cons (.name .n2) (.cons (.name .n1) .nil)) (by decide) fun h vs i hr => ?_) fun v h' hr hi => ⟨hi.tab (.tail _ (.tail _ (.head _))), hr⟩
  obtain ⟨a, b, rfl, rfl, rfl⟩ := reps2 hr
  obtain ⟨ob, g, vs, n, rfl, hv⟩ := i.get (.head _)
  exact ⟨_, _, t116 l S _ pre mid post vs rfl hpre hmid hm0 hpost htl hv, ⟨_, g, rfl, n, rfl⟩, fun v h' r => r⟩
end
section
open PySem PySem.W PySem.Calls PyProof.Rows
noncomputable def fitAt (ss : List Str) (t : Str) (p : Int) (k : Nat) : Bool := (ss.getD k (Str.ofString "")) == Str.ofString "" || Txt.contains (ss.getD k (Str.ofString "")) (Txt.item t (p + k))
noncomputable def fits (ss : List Str) (t : Str) (p : Int) : Bool :=
  if p < 0 ∨ (t.length : Int) < p + ss.length then false else (List.range ss.length).all (fitAt ss t p)
def F288 : FI where
  qual := Str.ofString "_law_fits"
  scope := { kind := .function, names := [(Str.ofString "signs", .local), (Str.ofString "name", .local), (Str.ofString "at", .local), (Str.ofString "k", .local), (Str.ofString "len", .globalImplicit), (Str.ofString "range", .globalImplicit)], isGenerator := false, isCoroutine := false }
  f := 288
  cd := .ref 287
  locals := [Str.ofString "signs", Str.ofString "name", Str.ofString "at", Str.ofString "k"]
theorem bv_range : BVal (Str.ofString "range") (.type "range") := ⟨fun q => by k_is, by boot_fast, by decide, by decide⟩
theorem CmpOk.gti {x y : Int} : CmpOk .Gt (.int x) (.int y) (decide (y < x)) := by
  rintro w A s u v Q E ⟨t, rfl⟩ ⟨t', rfl⟩ hq
  exact PyProof.Rows.gt_int (hq _)
theorem t288 (l : Addr) (ss : List (Str × Tok)) (t : Str) (u0 u1 : Tok) (p0 : Int) (hn : t.length < 1000) (hs : ss.length < 1000) : Con 4 288 [.ref l, .str t u0, .int p0 u1] (fun h => h.IsList l (strValues ss).toArray) (fun h v h' => v = .bool (fits (ss.map (·.1)) t p0)) := by
  refine Con.of (F := F288) (N := 3) (ps := [.ref l, .str t, .int p0, .unset]) (binds := [(Str.ofString "signs", .ref l), (Str.ofString "name", .str t u0), (Str.ofString "at", .int p0 u1)]) (fun q => by k_is) (fun q => by k_is) (fun s => BindsTo.of_eq (by kernel_rfl)) (locs rfl) rfl rfl (by decide) ⟨⟨_, rfl, rfl⟩, ⟨_, rfl, _, rfl⟩, ⟨_, rfl, _, rfl⟩, rfl, trivial⟩ fun c Φ E hE hP hl => ?_
  have hv1 : (strValues ss).length = ss.length := List.length_map _
  have hml : (ss.map (·.1)).length = ss.length := List.length_map _
  have n1 : (strValues ss).length ≤ 1000000 := by lia
  have n2 : t.length ≤ 1000000 := by lia
  refine .ifte (.bo (.or (.cmp (.name .n2) .int .lti) fun _ => .or (.cmp (.bin (.name .n2) (.callB bn_len rfl (.cons (.name .n0) .nil) (.lenB hl n1)) .addi) (.callB bn_len rfl (.cons (.name .n1) .nil) (.len n2)) .gti) fun _ => .nilO)) (fun hb => ?_) (fun hb => .seq ?_)
  · refine .ret hE.seq .bool fun v h' hv _ => ?_
    cases hv
    rw [Bool.or_false, Bool.or_eq_true, decide_eq_true_eq, decide_eq_true_eq, hv1] at hb
    unfold fits
    rw [if_pos (by rw [hml]; exact hb)]
  rw [Bool.or_false, Bool.or_eq_false_iff, decide_eq_false_iff_not, decide_eq_false_iff_not, hv1] at hb
  have hfit : fits (ss.map (·.1)) t p0 = (List.range ss.length).all (fitAt (ss.map (·.1)) t p0) := by
    unfold fits
    rw [if_neg (by rw [hml]; exact not_or.mpr hb), hml]
  obtain ⟨hb1, hb2⟩ := hb
  refine Sx.forRng (fun k : PV => [.ref l, .str t, .int p0, k]) (fun _ i => [.ref l, .str t, .int p0, .int i]) (fun _ => []) (fun i _ => (List.range i).all (fitAt (ss.map (·.1)) t p0) = true) .unset hP bv_range rfl (.callB bn_len rfl (.cons (.name .n0) .nil) (.lenB hl n1)) (by lia) (fun _ _ => .n3) (fun _ => rfl) rfl (fun i st I o hi hJ => ?_) (fun st hJ => ?_)
  · rw [hv1] at hi
    have hx : (strValues ss)[((i : Nat) : Int).toNat]? = some (.str ss[i].1 ss[i].2) := by
      rw [Int.toNat_natCast, strValues, List.getElem?_map, List.getElem?_eq_getElem hi]; rfl
    have hg : (ss.map (·.1)).getD i (Str.ofString "") = ss[i].1 := by
      rw [List.getD_eq_getElem?_getD, List.getElem?_map, List.getElem?_eq_getElem hi]; rfl
    refine .ifte0 (b := !fitAt (ss.map (·.1)) t p0 i) (.cast (.bo (.and (.cmp (.itemB (.name .n0) (.name .n3) hl (by lia) (by lia) hx (show (PV.str _).rep _ from ⟨_, rfl⟩)) .str .nes) fun _ => .and (.cmp (.sign (.name .n1) (.bin (.name .n2) (.name .n3) .addi) (by lia) (by lia) n2) (.itemB (.name .n0) (.name .n3) hl (by lia) (by lia) hx (show (PV.str _).rep _ from ⟨_, rfl⟩)) .notInS) fun _ => .nilA)) ?_) (fun hb => ?_) (fun hb => .fp (.int i) rfl rfl ?_)
    · unfold fitAt
      rw [hg, Bool.and_true, Bool.not_or]
      rfl
    · refine .ret hE.fp .bool fun v h' hv _ => ?_
      cases hv
      rw [hfit]
      refine congrArg Value.bool (Eq.symm (List.all_eq_false.mpr ⟨i, List.mem_range.mpr hi, ?_⟩))
      rw [Bool.not_eq_true'] at hb
      rw [hb]; decide
    · rw [Bool.not_eq_false'] at hb
      rw [List.range_succ, List.all_append, hJ, List.all_cons, hb]
      rfl
  · rw [hv1] at hJ
    refine .ret hE .bool fun v h' hv _ => ?_
    cases hv
    rw [hfit, hJ]
end
section
open PySem PySem.W PySem.Calls PyProof.Rows
structure RowD where
  r : Addr
  kind : Str
  u : Tok
  s : Addr
  signs : List (Str × Tok)
structure RowsAt (h : Heap) (l : Addr) (rows : List RowD) : Prop where
  top : h.IsList l ((rows.map (·.r)).map Value.ref).toArray
  each : ∀ x ∈ rows, h.IsList x.r #[.str x.kind x.u, .ref x.s] ∧ h.IsList x.s (strValues x.signs).toArray
theorem RowsAt.keeps {h h' : Heap} {l : Addr} {rows : List RowD} (x : RowsAt h l rows) (k : ∀ b o, h.get? b = some o → h'.get? b = some o) : RowsAt h' l rows :=
  ⟨x.top.at fun o e => k _ o e, fun y hy => ⟨(x.each y hy).1.at fun o e => k _ o e, (x.each y hy).2.at fun o e => k _ o e⟩⟩
noncomputable def firstFit (ss : List Str) (t : Str) : Nat → Int → Int
  | 0, p => p
  | n + 1, p => if p ≤ t.length ∧ fits ss t p = false then firstFit ss t n (p + 1) else p
noncomputable def takesFrom (t : Str) : List (Str × List Str) → Int → Bool
  | [], p => p == t.length
  | (kind, ss) :: r, p =>
    if (kind == Str.ofString "end") = true then decide (p ≤ (t.length : Int) - ss.length) && fits ss t ((t.length : Int) - ss.length)
    else if fits ss t (if (kind == Str.ofString "first") = true then firstFit ss t (t.length + 1 - p).toNat p else p) = false then false
    else takesFrom t r ((if (kind == Str.ofString "first") = true then firstFit ss t (t.length + 1 - p).toNat p else p) + ss.length)
noncomputable def RowD.abs (x : RowD) : Str × List Str := (x.kind, x.signs.map (·.1))
theorem firstFit_step {ss : List Str} {t : Str} {p : Int} (h1 : p ≤ t.length) (h2 : fits ss t p = false) : firstFit ss t (t.length + 1 - p).toNat p = firstFit ss t (t.length + 1 - (p + 1)).toNat (p + 1) := by
  obtain ⟨n, hn⟩ := Int.eq_ofNat_of_zero_le (Int.sub_nonneg_of_le h1)
  rw [show ((t.length : Int) + 1 - p) = n + 1 by rw [← hn, Int.sub_eq_add_neg, Int.sub_eq_add_neg, Int.add_right_comm], Int.add_sub_add_right, hn]
  show (if _ then _ else _) = _
  rw [if_pos ⟨h1, h2⟩]
  rfl
theorem firstFit_stop {ss : List Str} {t : Str} {p : Int} (h : ¬ p ≤ t.length ∨ fits ss t p = true) : ∀ n, firstFit ss t n p = p
  | 0 => rfl
  | n + 1 => by
    show (if _ then _ else _) = _
    rw [if_neg]
    rintro ⟨h1, h2⟩
    rcases h with h | h
    · exact h h1
    · rw [h] at h2; cases h2
theorem BinOk.subi {a b : Int} : BinOk .Sub (.int a) (.int b) (.int (a - b)) := by
  rintro w A s u v Q E ⟨t, rfl⟩ ⟨t', rfl⟩ hq
  exact PyProof.Rows.sub_int (hq _ _ ⟨_, rfl⟩)
theorem CmpOk.lei {x y : Int} : CmpOk .LtE (.int x) (.int y) (decide (x ≤ y)) := by
  rintro w A s u v Q E ⟨t, rfl⟩ ⟨t', rfl⟩ hq
  exact PyProof.Rows.le_int (hq _)
theorem Ep.andB {F : FI} {N : Nat} {c : Cx F N} {ps : List PV} {W : Led} {e1 e2 : PySem.Expr} {pos : Pos} {a b : Bool} (h1 : Ep c ps W e1 (.bool a)) (h2 : a = true → Ep c ps W e2 (.bool b)) : Ep c ps W (.BoolOp .And [e1, e2] pos) (.bool (a && b)) := by
  intro hh tk Q E i hq
  refine BoolOp_and (h1 _ _ _ _ i fun v h' tk' r i1 => TruOk.bool _ _ _ _ _ _ r fun k => ?_)
  cases a with
  | true => rw [if_pos rfl]; exact BoolOp_one (h2 rfl _ _ _ _ i1 hq)
  | false => rw [if_neg (by decide)]; exact hq _ _ _ r i1
structure S5 where
  p : Int
  kind : PV
  signs : PV
def F295 : FI where
  qual := Str.ofString "_law_takes"
  scope := { kind := .function, names := [(Str.ofString "rows", .local), (Str.ofString "name", .local), (Str.ofString "at", .local), (Str.ofString "kind", .local), (Str.ofString "signs", .local), (Str.ofString "len", .globalImplicit), (Str.ofString "_law_fits", .globalImplicit)], isGenerator := false, isCoroutine := false }
  f := 295
  cd := .ref 294
  locals := [Str.ofString "rows", Str.ofString "name", Str.ofString "at", Str.ofString "kind", Str.ofString "signs"]
theorem gn_fits : GName (Str.ofString "_law_fits") 288 := ⟨fun q => by k_is, fun q => by k_is, by decide⟩
theorem t295 (l : Addr) (rows : List RowD) (t : Str) (u0 : Tok) (hn : t.length < 100) (hr : ∀ x ∈ rows, x.signs.length < 100) : Con 8 295 [.ref l, .str t u0] (fun h => RowsAt h l rows) (fun h v h' => v = .bool (takesFrom t (rows.map RowD.abs) 0)) := by
  refine Con.of (F := F295) (N := 7) (ps := [.ref l, .str t, .unset, .unset, .unset]) (binds := [(Str.ofString "rows", .ref l), (Str.ofString "name", .str t u0)]) (fun q => by k_is) (fun q => by k_is) (fun s => BindsTo.of_eq (by kernel_rfl)) (locs rfl) rfl rfl (by decide) ⟨⟨_, rfl, rfl⟩, ⟨_, rfl, _, rfl⟩, rfl, rfl, rfl, trivial⟩ fun c Φ E hE hP hrows => ?_
  have hn6 : t.length ≤ 1000000 := by lia
  have hrl : (rows.map (·.r)).length = rows.length := List.length_map _
  refine .assign .int .n2 (Sx.forRefs (fun st : S5 => [.ref l, .str t, .int st.p, st.kind, st.signs]) (fun st a b => [.ref l, .str t, .int st.p, a, b]) (fun _ => []) (fun i st => takesFrom t (rows.map RowD.abs) 0 = takesFrom t ((rows.drop i).map RowD.abs) st.p) ⟨0, .unset, .unset⟩ (rs := rows.map (·.r)) (fun i => match rows[i]? with | some x => (.str x.kind, .ref x.s) | none => (.none, .none)) hP .n0 hrows.top (fun i r hir => ?_) (fun st p q => ⟨_, .n3, .n4⟩) (fun _ => rfl) rfl (fun i st I o hi hJ => ?_) (fun st hJ => ?_))
  · rw [List.getElem?_map, Option.map_eq_some_iff] at hir
    obtain ⟨x, hx, rfl⟩ := hir
    rw [hx]
    exact ⟨_, _, (hrows.each x (List.mem_of_getElem? hx)).1, ⟨_, rfl⟩, rfl⟩
  · rw [hrl] at hi
    have hx : rows[i]? = some rows[i] := List.getElem?_eq_getElem hi
    rw [hx]
    have hdrop : (rows.drop i).map RowD.abs = rows[i].abs :: (rows.drop (i + 1)).map RowD.abs := by rw [← List.map_cons, ← List.getElem_cons_drop hi]
    generalize rows[i] = x at hx hdrop ⊢
    obtain ⟨p, kd, sg⟩ := st
    dsimp only at hJ ⊢
    rw [hdrop] at hJ
    have hsl := (hrows.each x (List.mem_of_getElem? hx)).2
    have hsn := hr x (List.mem_of_getElem? hx)
    have hvl : (strValues x.signs).length = x.signs.length := List.length_map _
    have hvn : (strValues x.signs).length ≤ 1000000 := by lia
    have hml : (x.signs.map (·.1)).length = x.signs.length := List.length_map _
    have CF : ∀ (p : Int) vs, reps [.ref x.s, .str t, .int p] vs → Con 4 288 vs (fun h => h.IsList x.s (strValues x.signs).toArray) (fun h v h' => v = .bool (fits (x.signs.map (·.1)) t p)) := fun p vs hv => by
      obtain ⟨a, b, d, rfl, rfl, ⟨t2, rfl⟩, t3, rfl⟩ := reps3 hv
      exact t288 x.s x.signs t t2 t3 p (by lia) (by lia)
    refine .ifte (.cmp (.name .n3) .str .eqs) (fun hb => ?_) (fun hb => .seq ?_)
    · refine .ret hE.fp.seq (.andB (.cmp (.name .n2) (.bin (.callB bn_len rfl (.cons (.name .n1) .nil) (.len hn6)) (.callB bn_len rfl (.cons (.name .n4) .nil) (.lenB hsl hvn)) .subi) .lei) fun _ => .con (p := .bool _) gn_fits rfl (.cons (.name .n4) (.cons (.name .n1) (.cons (.bin (.callB bn_len rfl (.cons (.name .n1) .nil) (.len hn6)) (.callB bn_len rfl (.cons (.name .n4) .nil) (.lenB hsl hvn)) .subi) .nil))) (CF _) (by decide) (fun h i => i.base hsl) (fun _ _ _ e => e)) fun v h' hv _ => ?_
      cases hv
      rw [hJ, takesFrom, if_pos (show (x.abs.1 == Str.ofString "end") = true from hb), hvl]
      show _ = Value.bool (decide (p ≤ (t.length : Int) - (x.signs.map (·.1)).length) && fits (x.signs.map (·.1)) t ((t.length : Int) - (x.signs.map (·.1)).length))
      rw [hml]
    have hq0 : takesFrom t (rows.map RowD.abs) 0 = if fits (x.signs.map (·.1)) t (if (x.kind == Str.ofString "first") = true then firstFit (x.signs.map (·.1)) t (t.length + 1 - p).toNat p else p) = false then false else takesFrom t ((rows.drop (i + 1)).map RowD.abs) ((if (x.kind == Str.ofString "first") = true then firstFit (x.signs.map (·.1)) t (t.length + 1 - p).toNat p else p) + (x.signs.map (·.1)).length) := by
      rw [hJ, takesFrom, if_neg (show ¬ (x.abs.1 == Str.ofString "end") = true from fun h => nomatch (show true = false from h.symm.trans hb))]
      rfl
    generalize hA : (if (x.kind == Str.ofString "first") = true then firstFit (x.signs.map (·.1)) t (t.length + 1 - p).toNat p else p) = A at hq0
    refine Sx.while (fun q : Int => [.ref l, .str t, .int q, .str x.kind, .ref x.s]) (fun _ => [(I, .obj o)]) (fun q => (if (x.kind == Str.ofString "first") = true then firstFit (x.signs.map (·.1)) t (t.length + 1 - q).toNat q else q) = A) (fun q => (t.length + 1 - q).toNat) (fun q => (x.kind == Str.ofString "first") && (decide (q ≤ t.length) && (!fits (x.signs.map (·.1)) t q && true))) p hP hA fun q hq => ⟨.bo (.and (.cmp (.name .n3) .str .eqs) fun _ => .and (.cmp (.name .n2) (.callB bn_len rfl (.cons (.name .n1) .nil) (.len hn6)) .lei) fun _ => .and (.not (.val (.con (p := .bool _) gn_fits rfl (.cons (.name .n4) (.cons (.name .n1) (.cons (.name .n2) .nil))) (CF _) (by decide) (fun h i => i.base hsl) (fun _ _ _ e => e)) .bool)) fun _ => .nilA), fun hb => ?_, fun hb => ?_⟩
    · rw [Bool.and_eq_true, Bool.and_eq_true, Bool.and_true, Bool.not_eq_true'] at hb
      obtain ⟨h1, h2, h3⟩ := hb
      have h2 := of_decide_eq_true h2
      refine .aug .n2 nofun .int .addi .n2 (.lp (q + 1) rfl rfl ?_ (by lia))
      rw [if_pos h1] at hq ⊢
      rw [← firstFit_step h2 h3]
      exact hq
    · have hqA : q = A := by
        rw [← hq]
        split
        · rename_i h1
          rw [h1, Bool.true_and, Bool.and_true] at hb
          refine (firstFit_stop ?_ _).symm
          rcases (Bool.and_eq_false_iff.mp hb) with h2 | h2
          · exact .inl (of_decide_eq_false h2)
          · exact .inr (by simpa using h2)
        · rfl
      subst hqA
      refine .ifte (.not (.val (.con (p := .bool _) gn_fits rfl (.cons (.name .n4) (.cons (.name .n1) (.cons (.name .n2) .nil))) (CF _) (by decide) (fun h i => i.base hsl) (fun _ _ _ e => e)) .bool)) (fun hb => ?_) (fun hb => .seq ?_)
      · rw [Bool.not_eq_true'] at hb
        refine .ret hE.fp.seq .bool fun v h' hv _ => ?_
        cases hv
        rw [hq0, if_pos hb]
      · rw [Bool.not_eq_false'] at hb
        refine .aug .n2 nofun (.callB bn_len rfl (.cons (.name .n4) .nil) (.lenB hsl hvn)) .addi .n2 (.fp ⟨_, .str x.kind, .ref x.s⟩ rfl rfl ?_)
        rw [hq0, if_neg (by rw [hb]; decide), hml, hvl]
  · obtain ⟨p, kd, sg⟩ := st
    dsimp only at hJ ⊢
    rw [List.drop_of_length_le (by rw [hrl]; exact Nat.le_refl _)] at hJ
    refine .ret hE (.cmp (.name .n2) (.callB bn_len rfl (.cons (.name .n1) .nil) (.len hn6)) .eqi) fun v h' hv _ => ?_
    cases hv
    rw [hJ]
    rfl
end
section
open PySem PySem.StrLaws Builtin.Str
theorem occ_stay (s sub : Str) (hi : Nat) : ∀ (l : List Nat) (st : Array Nat × Nat), 1 ≤ st.fst.size → (forIn l st (occBody s sub hi 1)).run.fst = st.fst
  | [], st, _ => rfl
  | a :: l, st, h => by
    rw [List.forIn_cons]
    unfold occBody
    rw [if_neg (by intro hc; have := hc.1.1.1; lia)]
    exact occ_stay s sub hi l _ h
theorem occ_find' (s sub : Str) (hi : Nat) : ∀ (l : List Nat) (free : Nat), (∀ i ∈ l, free ≤ i) →
    (forIn l ((#[] : Array Nat), free) (occBody s sub hi 1)).run.fst.toList = (l.find? fun i => decide (i + sub.length ≤ hi) && subAt s sub i).toList
  | [], free, _ => rfl
  | a :: l, free, hf => by
    rw [List.forIn_cons, List.find?_cons]
    have ha : free ≤ a := hf a (.head _)
    have ih := occ_find' s sub hi l free fun i h => hf i (.tail _ h)
    unfold occBody
    by_cases hc : a + sub.length ≤ hi ∧ subAt s sub a = true
    · rw [if_pos ⟨⟨⟨by simp, ha⟩, hc.1⟩, hc.2⟩]
      have e := occ_stay s sub hi l (#[].push a, a + sub.length) (by simp)
      have e2 : (decide (a + sub.length ≤ hi) && subAt s sub a) = true := by simp [hc.1, hc.2]
      rw [e2]
      show (forIn l (#[].push a, a + sub.length) (occBody s sub hi 1)).run.fst.toList = [a]
      rw [e]; rfl
    · rw [if_neg (fun h => hc ⟨h.1.2, h.2⟩)]
      have e2 : (decide (a + sub.length ≤ hi) && subAt s sub a) = false := by
        cases h : (decide (a + sub.length ≤ hi) && subAt s sub a) with
        | false => rfl
        | true => rw [Bool.and_eq_true] at h; exact absurd ⟨of_decide_eq_true h.1, h.2⟩ hc
      rw [e2]
      exact ih
theorem occ_find (s sub : Str) (lo hi : Nat) : occurrences s sub lo hi 1 = ((List.range' lo (hi + 1 - lo)).find? fun i => decide (i + sub.length ≤ hi) && subAt s sub i).toList := by
  rw [occ_eq]
  exact occ_find' s sub hi _ lo (by intro i h; simp [List.mem_range'] at h; lia)
theorem at_one (l : List Nat) (c i : Nat) : (decide (i + (tx [c]).length ≤ (tx l).length) && subAt (tx l) (tx [c]) i) = (l[i]? == some c) := by
  have := subAt_one (tx l) c i
  rw [Bool.eq_iff_iff, Bool.and_eq_true, decide_eq_true_eq, beq_iff_eq]
  rw [show (tx l).cps.toList = l from tx_list l] at this
  exact this
theorem find3_one (l : List Nat) (c : Nat) (p : Nat) : Txt.find3 (tx l) (tx [c]) (p : Int) = match (List.range' p (l.length + 1 - p)).find? (fun i => l[i]? == some c) with | some k => (k : Int) | none => -1 := by
  unfold Txt.find3
  have e : fromIndex (tx l).length (p : Int) = p := by
    unfold fromIndex
    rw [if_neg (by lia)]; lia
  rw [e, occ_find]
  have e2 : (fun i => decide (i + (tx [c]).length ≤ (tx l).length) && subAt (tx l) (tx [c]) i) = fun i => (l[i]? == some c) := funext fun i => at_one l c i
  rw [e2, tx_len]
  cases (List.range' p (l.length + 1 - p)).find? (fun i => l[i]? == some c) <;> rfl
theorem find3_br {a tl : List Nat} {x y : Nat} (hx : x ≠ 93) (hy : y ≠ 93) : Txt.find3 (tx (a ++ 91 :: x :: y :: 93 :: tl)) (tx [93]) (a.length : Int) = (a.length : Int) + 3 := by
  rw [find3_one]
  have hl : (a ++ 91 :: x :: y :: 93 :: tl).length + 1 - a.length = tl.length + 1 + 1 + 1 + 1 + 1 := by simp; lia
  have g : ∀ k : Nat, (a ++ 91 :: x :: y :: 93 :: tl)[a.length + k]? = (91 :: x :: y :: 93 :: tl)[k]? := fun k => by
    rw [List.getElem?_append_right (by lia), Nat.add_sub_cancel_left]
  have g0 : ((a ++ 91 :: x :: y :: 93 :: tl)[a.length]? == some 93) = false := by rw [show a.length = a.length + 0 from rfl, g]; simp
  have g1 : ((a ++ 91 :: x :: y :: 93 :: tl)[a.length + 1]? == some 93) = false := by rw [g]; simp [hx]
  have g2 : ((a ++ 91 :: x :: y :: 93 :: tl)[a.length + 1 + 1]? == some 93) = false := by rw [Nat.add_assoc, g]; simp [hy]
  have g3 : ((a ++ 91 :: x :: y :: 93 :: tl)[a.length + 1 + 1 + 1]? == some 93) = true := by rw [Nat.add_assoc, Nat.add_assoc, g]; simp
  rw [hl, List.range'_succ, List.range'_succ, List.range'_succ, List.range'_succ]
  rw [List.find?_cons, g0, List.find?_cons, g1, List.find?_cons, g2, List.find?_cons, g3]
  show (((a.length + 1 + 1 + 1 : Nat)) : Int) = _
  lia
end
section
open PySem PySem.W PySem.Calls PyProof.Rows
noncomputable def rdL : PTok → List Nat
  | .star => []
  | .quest => [46]
  | .ch c => if c = 46 then [92, 46] else [c]
  | .br x => [91, x, x - 32, 93]
noncomputable def sgn : PTok → Str
  | .star => tx []
  | .quest => tx []
  | .ch c => tx [c]
  | .br x => tx [x, x - 32]
noncomputable def midL (mid : List PTok) : List Nat := mid.flatMap rdL
noncomputable def innerL (fm : Bool) (mid : List PTok) : List Nat := if fm then [46, 40, 63, 62, 46, 42, 63] ++ (midL mid ++ [41, 46, 42]) else [46, 42] ++ midL mid
noncomputable def offM (mid : List PTok) (q : Nat) : Nat := (midL (mid.take q)).length
noncomputable def kindM (fm : Bool) : Str := if fm then Str.ofString "first" else Str.ofString "end"
noncomputable def absRows (fm : Bool) (mid : List PTok) : List (Str × List Str) :=
  if fm then [(Str.ofString "here", [Str.ofString ""]), (Str.ofString "first", mid.map sgn), (Str.ofString "here", []), (Str.ofString "end", [])]
  else [(Str.ofString "here", []), (Str.ofString "end", mid.map sgn)]
theorem tx_ne {c d : Nat} {a b : List Nat} (h : c ≠ d) : (tx (c :: a) == tx (d :: b)) = false := by
  rw [beq_eq_false_iff_ne]
  intro e
  have := tx_inj e
  injection this with e1 _
  exact h e1
theorem s_first : Str.ofString "(?>.*?" = tx [40, 63, 62, 46, 42, 63] := by decide +kernel
theorem s_close : Str.ofString ")" = tx [41] := by decide +kernel
theorem s_end : Str.ofString ".*" = tx [46, 42] := by decide +kernel
theorem s_dot : Str.ofString "." = tx [46] := by decide +kernel
theorem s_back : Str.ofString "\\" = tx [92] := by decide +kernel
theorem s_shut : Str.ofString "]" = tx [93] := by decide +kernel
theorem s_open : Str.ofString "[" = tx [91] := by decide +kernel
structure AtHead (I : Str) (pos : Nat) (r : List Nat) : Prop where
  sl : ∀ n : Nat, Txt.slice I (some (pos : Int)) (some ((pos : Int) + n)) = tx (r.take n)
  sl1 : ∀ n : Nat, Txt.slice I (some ((pos : Int) + 1)) (some ((pos : Int) + 1 + n)) = tx ((r.drop 1).take n)
  it : ∀ c r', r = c :: r' → Txt.item I (pos : Int) = tx [c]
  len : I.length = pos + r.length
  ex : ∃ a : List Nat, I = tx (a ++ r) ∧ a.length = pos
theorem AtHead.of {a r : List Nat} : AtHead (tx (a ++ r)) a.length r := by
  refine ⟨fun n => ?_, fun n => ?_, fun c r' h => ?_, ?_, a, rfl, rfl⟩
  · rw [show ((a.length : Int) + n) = ((a.length + n : Nat) : Int) by lia, slice_tx, List.drop_left' rfl, Nat.add_sub_cancel_left]
  · rw [show ((a.length : Int) + 1) = ((a.length + 1 : Nat) : Int) by lia, show (((a.length + 1 : Nat) : Int) + n) = ((a.length + 1 + n : Nat) : Int) by lia, slice_tx, Nat.add_sub_cancel_left, ← List.drop_drop, List.drop_left' rfl]
  · subst h
    exact item_tx (by rw [List.getElem?_append_right (Nat.le_refl _), Nat.sub_self]; rfl)
  · rw [tx_len, List.length_append]
theorem ask6 {I : Str} {pos c : Nat} {r : List Nat} (h : AtHead I pos (c :: r)) (hc : c ≠ 40) : (Txt.slice I (some (pos : Int)) (some ((pos : Int) + 6)) == Str.ofString "(?>.*?") = false := by
  rw [show (6 : Int) = ((6 : Nat) : Int) from rfl, h.sl 6, s_first]
  exact tx_ne hc
theorem ask2 {I : Str} {pos c d : Nat} {r : List Nat} (h : AtHead I pos (c :: d :: r)) (hc : d ≠ 42) : (Txt.slice I (some (pos : Int)) (some ((pos : Int) + 2)) == Str.ofString ".*") = false := by
  rw [show (2 : Int) = ((2 : Nat) : Int) from rfl, h.sl 2, s_end]
  show (tx [c, d] == tx [46, 42]) = false
  rw [beq_eq_false_iff_ne]
  intro q
  have := tx_inj q
  injection this with _ e1
  injection e1 with e1 _
  exact hc e1
theorem AtHead.br {I : Str} {pos x y : Nat} {r : List Nat} (h : AtHead I pos (91 :: x :: y :: 93 :: r)) (hx : x ≠ 93) (hy : y ≠ 93) : Txt.find3 I (Str.ofString "]") (pos : Int) = (pos : Int) + 3 ∧ Txt.slice I (some ((pos : Int) + 1)) (some ((pos : Int) + 3)) = tx [x, y] := by
  obtain ⟨a, rfl, rfl⟩ := h.ex
  refine ⟨?_, ?_⟩
  · rw [s_shut]; exact find3_br hx hy
  · have := h.sl1 2
    rw [show ((a.length : Int) + 1 + ((2 : Nat) : Int)) = (a.length : Int) + 3 by lia] at this
    exact this
theorem ask6T {I : Str} {pos : Nat} {r : List Nat} (h : AtHead I pos (40 :: 63 :: 62 :: 46 :: 42 :: 63 :: r)) : (Txt.slice I (some (pos : Int)) (some ((pos : Int) + 6)) == Str.ofString "(?>.*?") = true := by
  rw [show (6 : Int) = ((6 : Nat) : Int) from rfl, h.sl 6, s_first]
  show (tx [40, 63, 62, 46, 42, 63] == tx [40, 63, 62, 46, 42, 63]) = true
  simp
theorem ask2T {I : Str} {pos : Nat} {r : List Nat} (h : AtHead I pos (46 :: 42 :: r)) : (Txt.slice I (some (pos : Int)) (some ((pos : Int) + 2)) == Str.ofString ".*") = true := by
  rw [show (2 : Int) = ((2 : Nat) : Int) from rfl, h.sl 2, s_end]
  show (tx [46, 42] == tx [46, 42]) = true
  simp
theorem ask2' {I : Str} {pos c : Nat} {r : List Nat} (h : AtHead I pos (c :: r)) (hc : c ≠ 46) : (Txt.slice I (some (pos : Int)) (some ((pos : Int) + 2)) == Str.ofString ".*") = false := by
  rw [show (2 : Int) = ((2 : Nat) : Int) from rfl, h.sl 2, s_end]
  exact tx_ne hc
theorem mid_split {mid : List PTok} {q : Nat} {t : PTok} (h : mid[q]? = some t) : midL mid = midL (mid.take q) ++ (rdL t ++ midL (mid.drop (q + 1))) := by
  have hk := (List.getElem?_eq_some_iff.mp h).1
  have h2 : mid[q] = t := (List.getElem?_eq_some_iff.mp h).2
  unfold midL
  conv => lhs; rw [← List.take_append_drop q mid, List.drop_eq_getElem_cons hk, h2]
  rw [List.flatMap_append, List.flatMap_cons]
noncomputable def tailL (fm : Bool) (mid : List PTok) (q : Nat) : List Nat := midL (mid.drop (q + 1)) ++ (if fm then [41, 46, 42] else [])
theorem head_mid {fm : Bool} {mid : List PTok} {q pos : Nat} {t : PTok} (h : mid[q]? = some t) (hp : pos = (if fm then 7 else 2) + offM mid q) : AtHead (tx (innerL fm mid)) pos (rdL t ++ tailL fm mid q) := by
  cases fm with
  | true =>
    have e : innerL true mid = ([46, 40, 63, 62, 46, 42, 63] ++ midL (mid.take q)) ++ (rdL t ++ tailL true mid q) := by
      unfold innerL tailL
      rw [if_pos rfl, if_pos rfl, mid_split h]
      simp
    rw [e, show pos = ([46, 40, 63, 62, 46, 42, 63] ++ midL (mid.take q)).length by rw [hp, List.length_append]; rfl]
    exact AtHead.of
  | false =>
    have e : innerL false mid = ([46, 42] ++ midL (mid.take q)) ++ (rdL t ++ tailL false mid q) := by
      unfold innerL tailL
      rw [if_neg (by decide), if_neg (by decide), mid_split h]
      simp
    rw [e, show pos = ([46, 42] ++ midL (mid.take q)).length by rw [hp, List.length_append]; rfl]
    exact AtHead.of
theorem offM_succ {mid : List PTok} {q : Nat} {t : PTok} (h : mid[q]? = some t) : offM mid (q + 1) = offM mid q + (rdL t).length := by
  unfold offM midL
  rw [List.take_add_one, h, List.flatMap_append, List.length_append]
  simp
theorem offM_all (mid : List PTok) : offM mid mid.length = (midL mid).length := by unfold offM; rw [List.take_length]
theorem head_close {mid : List PTok} {pos : Nat} (hp : pos = 7 + offM mid mid.length) : AtHead (tx (innerL true mid)) pos (41 :: [46, 42]) := by
  have e : innerL true mid = ([46, 40, 63, 62, 46, 42, 63] ++ midL mid) ++ [41, 46, 42] := by
    unfold innerL; rw [if_pos rfl]; simp
  rw [e, show pos = ([46, 40, 63, 62, 46, 42, 63] ++ midL mid).length by rw [hp, List.length_append, offM_all]; rfl]
  exact AtHead.of
theorem head_end {mid : List PTok} {pos : Nat} (hp : pos = 8 + offM mid mid.length) : AtHead (tx (innerL true mid)) pos (46 :: [42]) := by
  have e : innerL true mid = ([46, 40, 63, 62, 46, 42, 63] ++ midL mid ++ [41]) ++ [46, 42] := by
    unfold innerL; rw [if_pos rfl]; simp
  rw [e, show pos = ([46, 40, 63, 62, 46, 42, 63] ++ midL mid ++ [41]).length by rw [hp, List.length_append, List.length_append, offM_all]; simp; lia]
  exact AtHead.of
theorem inner_len (mid : List PTok) : (innerL true mid).length = 10 + offM mid mid.length ∧ (innerL false mid).length = 2 + offM mid mid.length := by
  rw [offM_all]
  unfold innerL
  simp
  lia
noncomputable abbrev Rw := Str × List Str
noncomputable def addL : List Rw → Str → List Rw
  | [], _ => []
  | r :: rs, x => (r.1, r.2 ++ [x]) :: rs
noncomputable def brJ (I : Str) (pos : Int) : Int := if Txt.find3 I (Str.ofString "]") pos > pos + 1 then Txt.find3 I (Str.ofString "]") pos else pos + 1
noncomputable def stepR (I : Str) (pos : Int) (R : List Rw) : Int × List Rw :=
  if (Txt.slice I (some pos) (some (pos + 6)) == Str.ofString "(?>.*?") = true then (pos + 6, (Str.ofString "first", []) :: R)
  else if (Txt.item I pos == Str.ofString ")") = true then (pos + 1, (Str.ofString "here", []) :: R)
  else if (Txt.slice I (some pos) (some (pos + 2)) == Str.ofString ".*") = true then (pos + 2, (Str.ofString "end", []) :: R)
  else if (Txt.item I pos == Str.ofString ".") = true then (pos + 1, addL R (Str.ofString ""))
  else if (Txt.item I pos == Str.ofString "\\") = true then (pos + 2, addL R (Txt.slice I (some (pos + 1)) (some (pos + 2))))
  else if (Txt.item I pos == Str.ofString "[") = true then (brJ I pos + 1, addL R (Txt.slice I (some (pos + 1)) (some (brJ I pos))))
  else (pos + 1, addL R (Txt.item I pos))
noncomputable def P281 (fm : Bool) (mid : List PTok) (pos : Int) (R : List Rw) : Prop :=
  (pos = 0 ∧ R = [(Str.ofString "here", [])]) ∨
  (fm = true ∧ pos = 1 ∧ R = [(Str.ofString "here", [Str.ofString ""])]) ∨
  (∃ q, q ≤ mid.length ∧ pos = (((if fm then 7 else 2) + offM mid q : Nat) : Int) ∧ R = [(kindM fm, (mid.map sgn).take q), (Str.ofString "here", if fm then [Str.ofString ""] else [])]) ∨
  (fm = true ∧ pos = ((8 + offM mid mid.length : Nat) : Int) ∧ R = [(Str.ofString "here", []), (kindM true, mid.map sgn), (Str.ofString "here", [Str.ofString ""])]) ∨
  (fm = true ∧ pos = ((10 + offM mid mid.length : Nat) : Int) ∧ R = [(Str.ofString "end", []), (Str.ofString "here", []), (kindM true, mid.map sgn), (Str.ofString "here", [Str.ofString ""])])
theorem stepR1 {I : Str} {pos : Int} {R : List Rw} (b1 : (Txt.slice I (some pos) (some (pos + 6)) == Str.ofString "(?>.*?") = true) : stepR I pos R = (pos + 6, (Str.ofString "first", []) :: R) := by
  unfold stepR; rw [if_pos b1]
theorem stepR2 {I : Str} {pos : Int} {R : List Rw} (b1 : (Txt.slice I (some pos) (some (pos + 6)) == Str.ofString "(?>.*?") = false) (b2 : (Txt.item I pos == Str.ofString ")") = true) : stepR I pos R = (pos + 1, (Str.ofString "here", []) :: R) := by
  unfold stepR; rw [b1, if_neg (by decide), if_pos b2]
theorem stepR3 {I : Str} {pos : Int} {R : List Rw} (b1 : (Txt.slice I (some pos) (some (pos + 6)) == Str.ofString "(?>.*?") = false) (b2 : (Txt.item I pos == Str.ofString ")") = false) (b3 : (Txt.slice I (some pos) (some (pos + 2)) == Str.ofString ".*") = true) : stepR I pos R = (pos + 2, (Str.ofString "end", []) :: R) := by
  unfold stepR; rw [b1, b2, if_neg (by decide), if_neg (by decide), if_pos b3]
theorem stepR4 {I : Str} {pos : Int} {R : List Rw} (b1 : (Txt.slice I (some pos) (some (pos + 6)) == Str.ofString "(?>.*?") = false) (b2 : (Txt.item I pos == Str.ofString ")") = false) (b3 : (Txt.slice I (some pos) (some (pos + 2)) == Str.ofString ".*") = false) (b4 : (Txt.item I pos == Str.ofString ".") = true) : stepR I pos R = (pos + 1, addL R (Str.ofString "")) := by
  unfold stepR; rw [b1, b2, b3, if_neg (by decide), if_neg (by decide), if_neg (by decide), if_pos b4]
theorem stepR5 {I : Str} {pos : Int} {R : List Rw} (b1 : (Txt.slice I (some pos) (some (pos + 6)) == Str.ofString "(?>.*?") = false) (b2 : (Txt.item I pos == Str.ofString ")") = false) (b3 : (Txt.slice I (some pos) (some (pos + 2)) == Str.ofString ".*") = false) (b4 : (Txt.item I pos == Str.ofString ".") = false) (b5 : (Txt.item I pos == Str.ofString "\\") = true) : stepR I pos R = (pos + 2, addL R (Txt.slice I (some (pos + 1)) (some (pos + 2)))) := by
  unfold stepR; rw [b1, b2, b3, b4, if_neg (by decide), if_neg (by decide), if_neg (by decide), if_neg (by decide), if_pos b5]
theorem stepR6 {I : Str} {pos : Int} {R : List Rw} (b1 : (Txt.slice I (some pos) (some (pos + 6)) == Str.ofString "(?>.*?") = false) (b2 : (Txt.item I pos == Str.ofString ")") = false) (b3 : (Txt.slice I (some pos) (some (pos + 2)) == Str.ofString ".*") = false) (b4 : (Txt.item I pos == Str.ofString ".") = false) (b5 : (Txt.item I pos == Str.ofString "\\") = false) (b6 : (Txt.item I pos == Str.ofString "[") = true) : stepR I pos R = (brJ I pos + 1, addL R (Txt.slice I (some (pos + 1)) (some (brJ I pos)))) := by
  unfold stepR; rw [b1, b2, b3, b4, b5, if_neg (by decide), if_neg (by decide), if_neg (by decide), if_neg (by decide), if_neg (by decide), if_pos b6]
theorem stepR7 {I : Str} {pos : Int} {R : List Rw} (b1 : (Txt.slice I (some pos) (some (pos + 6)) == Str.ofString "(?>.*?") = false) (b2 : (Txt.item I pos == Str.ofString ")") = false) (b3 : (Txt.slice I (some pos) (some (pos + 2)) == Str.ofString ".*") = false) (b4 : (Txt.item I pos == Str.ofString ".") = false) (b5 : (Txt.item I pos == Str.ofString "\\") = false) (b6 : (Txt.item I pos == Str.ofString "[") = false) : stepR I pos R = (pos + 1, addL R (Txt.item I pos)) := by
  unfold stepR; rw [b1, b2, b3, b4, b5, b6]; rfl
theorem offM_le {mid : List PTok} {q : Nat} : offM mid q ≤ offM mid mid.length := by
  rw [offM_all]
  unfold offM midL
  conv => rhs; rw [← List.take_append_drop q mid]
  rw [List.flatMap_append, List.length_append]
  lia
theorem rdL_pos {t : PTok} (h : t ≠ .star ∧ t ≠ .quest) : 1 ≤ (rdL t).length := by
  cases t with
  | star => exact absurd rfl h.1
  | quest => exact absurd rfl h.2
  | ch c =>
    show 1 ≤ (if c = 46 then [92, 46] else [c]).length
    split <;> exact Nat.succ_le_succ (Nat.zero_le _)
  | br x => exact Nat.succ_le_succ (Nat.zero_le _)
theorem P281.nn {fm : Bool} {mid : List PTok} {pos : Int} {R : List Rw} (h : P281 fm mid pos R) : 0 ≤ pos ∧ R.length ≤ 4 ∧ ∃ r rs, R = r :: rs ∧ r.2.length ≤ mid.length + 1 := by
  rcases h with ⟨rfl, rfl⟩ | ⟨_, rfl, rfl⟩ | ⟨q, _, rfl, rfl⟩ | ⟨_, rfl, rfl⟩ | ⟨_, rfl, rfl⟩
  · exact ⟨by decide, Nat.le_of_ble_eq_true rfl, _, _, rfl, Nat.zero_le _⟩
  · exact ⟨by decide, Nat.le_of_ble_eq_true rfl, _, _, rfl, Nat.le_add_left _ _⟩
  · exact ⟨by lia, Nat.le_of_ble_eq_true rfl, _, _, rfl, by show ((mid.map sgn).take q).length ≤ _; rw [List.length_take, List.length_map]; lia⟩
  · exact ⟨by lia, Nat.le_of_ble_eq_true rfl, _, _, rfl, Nat.zero_le _⟩
  · exact ⟨by lia, Nat.le_of_ble_eq_true rfl, _, _, rfl, Nat.zero_le _⟩
theorem P281.fin {fm : Bool} {mid : List PTok} {pos : Int} {R : List Rw} (hok : ∀ t ∈ mid, t.ok ∧ t ≠ .star ∧ t ≠ .quest) (h : P281 fm mid pos R) (hp : ¬ pos < (innerL fm mid).length) : R.reverse = absRows fm mid := by
  have hl := inner_len mid
  have hle : ∀ q, offM mid q ≤ offM mid mid.length := fun q => offM_le
  cases fm with
  | true =>
    rw [hl.1] at hp
    rcases h with ⟨rfl, rfl⟩ | ⟨_, rfl, rfl⟩ | ⟨q, _, rfl, rfl⟩ | ⟨_, rfl, rfl⟩ | ⟨_, rfl, rfl⟩
    · exact absurd (by lia) hp
    · exact absurd (by lia) hp
    · have := hle q
      rw [if_pos rfl] at hp
      exact absurd (by lia) hp
    · exact absurd (by lia) hp
    · rfl
  | false =>
    rw [hl.2] at hp
    rcases h with ⟨rfl, rfl⟩ | ⟨e, _⟩ | ⟨q, hq, rfl, rfl⟩ | ⟨e, _⟩ | ⟨e, _⟩
    · exact absurd (by lia) hp
    · cases e
    · rw [if_neg (by decide)] at hp
      by_cases hqm : q < mid.length
      · obtain ⟨t0, ht0⟩ : ∃ t0, mid[q]? = some t0 := ⟨_, List.getElem?_eq_getElem hqm⟩
        have h1 := offM_succ ht0
        have h2 := hle (q + 1)
        have h3 := rdL_pos (hok t0 (List.mem_of_getElem? ht0)).2
        exact absurd (by lia) hp
      · rw [List.take_of_length_le (by rw [List.length_map]; lia)]
        rfl
    · cases e
    · cases e
theorem P281.step {fm : Bool} {mid : List PTok} {pos : Int} {R : List Rw} (hok : ∀ t ∈ mid, t.ok ∧ t ≠ .star ∧ t ≠ .quest) (h : P281 fm mid pos R) (hp : pos < (innerL fm mid).length) :
    P281 fm mid (stepR (tx (innerL fm mid)) pos R).1 (stepR (tx (innerL fm mid)) pos R).2 ∧ pos < (stepR (tx (innerL fm mid)) pos R).1 := by
  have hl := inner_len mid
  rcases h with ⟨rfl, rfl⟩ | ⟨rfl, rfl, rfl⟩ | ⟨q, hq, rfl, rfl⟩ | ⟨rfl, rfl, rfl⟩ | ⟨rfl, rfl, rfl⟩
  · cases fm with
    | true =>
      have hA : AtHead (tx (innerL true mid)) 0 (46 :: 40 :: 63 :: 62 :: 46 :: 42 :: 63 :: (midL mid ++ [41, 46, 42])) := AtHead.of (a := [])
      have hit := hA.it _ _ rfl
      have q6 := ask6 hA (by decide)
      have q1 : (Txt.item (tx (innerL true mid)) ((0 : Nat) : Int) == Str.ofString ")") = false := by rw [hit, s_close]; exact tx_ne (by decide)
      have q2 := ask2 hA (by decide)
      have q3 : (Txt.item (tx (innerL true mid)) ((0 : Nat) : Int) == Str.ofString ".") = true := by rw [hit, s_dot]; simp
      rw [show stepR (tx (innerL true mid)) 0 [(Str.ofString "here", [])] = _ from stepR4 q6 q1 q2 q3]
      exact ⟨.inr (.inl ⟨rfl, rfl, rfl⟩), by decide⟩
    | false =>
      have hA : AtHead (tx (innerL false mid)) 0 (46 :: 42 :: midL mid) := AtHead.of (a := [])
      have hit := hA.it _ _ rfl
      have q6 := ask6 hA (by decide)
      have q1 : (Txt.item (tx (innerL false mid)) ((0 : Nat) : Int) == Str.ofString ")") = false := by rw [hit, s_close]; exact tx_ne (by decide)
      have q2 := ask2T hA
      rw [show stepR (tx (innerL false mid)) 0 [(Str.ofString "here", [])] = _ from stepR3 q6 q1 q2]
      exact ⟨.inr (.inr (.inl ⟨0, Nat.zero_le _, rfl, rfl⟩)), by decide⟩
  · have hA : AtHead (tx (innerL true mid)) 1 (40 :: 63 :: 62 :: 46 :: 42 :: 63 :: (midL mid ++ [41, 46, 42])) := AtHead.of (a := [46])
    have q6 := ask6T hA
    rw [show stepR (tx (innerL true mid)) 1 [(Str.ofString "here", [Str.ofString ""])] = _ from stepR1 q6]
    exact ⟨.inr (.inr (.inl ⟨0, Nat.zero_le _, rfl, rfl⟩)), by decide⟩
  · by_cases hqm : q < mid.length
    · obtain ⟨t0, ht0⟩ : ∃ t0, mid[q]? = some t0 := ⟨_, List.getElem?_eq_getElem hqm⟩
      have hA := head_mid (fm := fm) ht0 rfl
      have hos := offM_succ ht0
      obtain ⟨hk1, hk2, hk3⟩ := hok t0 (List.mem_of_getElem? ht0)
      have fin : ∀ {p : Int} {x : Str}, p = (((if fm then 7 else 2) + offM mid (q + 1) : Nat) : Int) → x = sgn t0 → P281 fm mid p (addL [(kindM fm, (mid.map sgn).take q), (Str.ofString "here", if fm then [Str.ofString ""] else [])] x) := fun e1 e2 => by
        refine .inr (.inr (.inl ⟨q + 1, hqm, e1, ?_⟩))
        rw [e2, List.take_add_one, List.getElem?_map, ht0]
        rfl
      have hrl := rdL_pos ⟨hk2, hk3⟩
      cases t0 with
      | star => exact absurd rfl hk2
      | quest => exact absurd rfl hk3
      | ch c =>
        by_cases hc : c = 46
        · subst hc
          have hA' : AtHead (tx (innerL fm mid)) ((if fm then 7 else 2) + offM mid q) (92 :: 46 :: tailL fm mid q) := hA
          have hit := hA'.it _ _ rfl
          have q6 := ask6 hA' (by decide)
          have q1 : (Txt.item (tx (innerL fm mid)) (((if fm then 7 else 2) + offM mid q : Nat) : Int) == Str.ofString ")") = false := by rw [hit, s_close]; exact tx_ne (by decide)
          have q2 := ask2' hA' (by decide)
          have q3 : (Txt.item (tx (innerL fm mid)) (((if fm then 7 else 2) + offM mid q : Nat) : Int) == Str.ofString ".") = false := by rw [hit, s_dot]; exact tx_ne (by decide)
          have q4 : (Txt.item (tx (innerL fm mid)) (((if fm then 7 else 2) + offM mid q : Nat) : Int) == Str.ofString "\\") = true := by rw [hit, s_back]; simp
          rw [stepR5 q6 q1 q2 q3 q4]
          have hrl : (rdL (.ch 46)).length = 2 := rfl
          refine ⟨fin (by omega) ?_, by dsimp only; omega⟩
          have := hA'.sl1 1
          rw [show (((((if fm then 7 else 2) + offM mid q : Nat) : Int)) + 1 + ((1 : Nat) : Int)) = (((if fm then 7 else 2) + offM mid q : Nat) : Int) + 2 by omega] at this
          exact this
        · have hA' : AtHead (tx (innerL fm mid)) ((if fm then 7 else 2) + offM mid q) (c :: tailL fm mid q) := by
            have e : rdL (.ch c) = [c] := if_neg hc
            rw [e] at hA; exact hA
          have hsc : safeC c = true := hk1
          have hit := hA'.it _ _ rfl
          have q6 := ask6 hA' (by rintro rfl; revert hsc; decide)
          have q1 : (Txt.item (tx (innerL fm mid)) (((if fm then 7 else 2) + offM mid q : Nat) : Int) == Str.ofString ")") = false := by rw [hit, s_close]; exact tx_ne (by rintro rfl; revert hsc; decide)
          have q2 := ask2' hA' hc
          have q3 : (Txt.item (tx (innerL fm mid)) (((if fm then 7 else 2) + offM mid q : Nat) : Int) == Str.ofString ".") = false := by rw [hit, s_dot]; exact tx_ne hc
          have q4 : (Txt.item (tx (innerL fm mid)) (((if fm then 7 else 2) + offM mid q : Nat) : Int) == Str.ofString "\\") = false := by rw [hit, s_back]; exact tx_ne (by rintro rfl; revert hsc; decide)
          have q5 : (Txt.item (tx (innerL fm mid)) (((if fm then 7 else 2) + offM mid q : Nat) : Int) == Str.ofString "[") = false := by rw [hit, s_open]; exact tx_ne (by rintro rfl; revert hsc; decide)
          rw [stepR7 q6 q1 q2 q3 q4 q5]
          have hrl : (rdL (.ch c)).length = 1 := by rw [show rdL (.ch c) = [c] from if_neg hc]; rfl
          exact ⟨fin (by omega) hit, by dsimp only; omega⟩
      | br x =>
        have hA' : AtHead (tx (innerL fm mid)) ((if fm then 7 else 2) + offM mid q) (91 :: x :: (x - 32) :: 93 :: tailL fm mid q) := hA
        have hit := hA'.it _ _ rfl
        have q6 := ask6 hA' (by decide)
        have q1 : (Txt.item (tx (innerL fm mid)) (((if fm then 7 else 2) + offM mid q : Nat) : Int) == Str.ofString ")") = false := by rw [hit, s_close]; exact tx_ne (by decide)
        have q2 := ask2' hA' (by decide)
        have q3 : (Txt.item (tx (innerL fm mid)) (((if fm then 7 else 2) + offM mid q : Nat) : Int) == Str.ofString ".") = false := by rw [hit, s_dot]; exact tx_ne (by decide)
        have q4 : (Txt.item (tx (innerL fm mid)) (((if fm then 7 else 2) + offM mid q : Nat) : Int) == Str.ofString "\\") = false := by rw [hit, s_back]; exact tx_ne (by decide)
        have q5 : (Txt.item (tx (innerL fm mid)) (((if fm then 7 else 2) + offM mid q : Nat) : Int) == Str.ofString "[") = true := by rw [hit, s_open]; simp
        rw [stepR6 q6 q1 q2 q3 q4 q5]
        have hrl : (rdL (.br x)).length = 4 := rfl
        obtain ⟨f1, f2⟩ := hA'.br (by rcases hk1 with rfl | rfl | rfl | rfl <;> decide) (by rcases hk1 with rfl | rfl | rfl | rfl <;> decide)
        have f3 : brJ (tx (innerL fm mid)) (((if fm then 7 else 2) + offM mid q : Nat) : Int) = (((if fm then 7 else 2) + offM mid q : Nat) : Int) + 3 := by
          unfold brJ
          rw [f1, if_pos (by omega)]
        rw [f3]
        exact ⟨fin (by omega) f2, by dsimp only; omega⟩
    · have hqe : q = mid.length := by omega
      subst hqe
      cases fm with
      | false => rw [hl.2, if_neg (by decide)] at hp; lia
      | true =>
        have hA := head_close (mid := mid) rfl
        have hit := hA.it _ _ rfl
        have q6 := ask6 hA (by decide)
        have q1 : (Txt.item (tx (innerL true mid)) ((7 + offM mid mid.length : Nat) : Int) == Str.ofString ")") = true := by rw [hit, s_close]; simp
        rw [if_pos rfl, stepR2 q6 q1]
        refine ⟨.inr (.inr (.inr (.inl ⟨rfl, by dsimp only; lia, ?_⟩))), by dsimp only; lia⟩
        rw [List.take_of_length_le (by rw [List.length_map]; exact Nat.le_refl _)]
        rfl
  · have hA := head_end (mid := mid) rfl
    have hit := hA.it _ _ rfl
    have q6 := ask6 hA (by decide)
    have q1 : (Txt.item (tx (innerL true mid)) ((8 + offM mid mid.length : Nat) : Int) == Str.ofString ")") = false := by rw [hit, s_close]; exact tx_ne (by decide)
    have q2 := ask2T hA
    rw [stepR3 q6 q1 q2]
    exact ⟨.inr (.inr (.inr (.inr ⟨rfl, by dsimp only; lia, rfl⟩))), by dsimp only; lia⟩
  · rw [hl.1] at hp
    lia
structure RD where
  r : Addr
  s : Addr
  kind : Str
  signs : List Str
noncomputable def RD.abs (x : RD) : Rw := (x.kind, x.signs)
structure SR where
  pos : Int
  rs : List RD
  j : PV
noncomputable def ledR (rs : List RD) : Led := rs.flatMap fun x => [(x.r, .list [.str x.kind, .ref x.s]), (x.s, .strs x.signs)]
def F281 : FI where
  qual := Str.ofString "_law_read"
  scope := { kind := .function, names := [(Str.ofString "text", .local), (Str.ofString "inner", .local), (Str.ofString "rows", .local), (Str.ofString "i", .local), (Str.ofString "j", .local), (Str.ofString "len", .globalImplicit), (Str.ofString "max", .globalImplicit)], isGenerator := false, isCoroutine := false }
  f := 281
  cd := .ref 280
  locals := [Str.ofString "text", Str.ofString "inner", Str.ofString "rows", Str.ofString "i", Str.ofString "j"]
theorem bn_max : BName (Str.ofString "max") "max" := ⟨fun q => by k_is, by boot_fast, by decide, by decide⟩
noncomputable def ps281 (t I : Str) (top : Addr) (st : SR) : List PV := [.str t, .str I, .ref top, .int st.pos, st.j]
noncomputable def Wf281 (top : Addr) (st : SR) : Led := (top, .list (st.rs.reverse.map fun x => .ref x.r)) :: ledR st.rs
theorem reps_refs : ∀ {l : List Addr} {vs : List Value}, reps (l.map .ref) vs → vs = l.map .ref
  | [], [], _ => rfl
  | _ :: _, _ :: _, h => by rw [List.map_cons, ← reps_refs h.2, h.1]
  | [], _ :: _, h => h.elim
  | _ :: _, [], h => h.elim
theorem led_mem {rs : List RD} {x : RD} (h : x ∈ rs) : (x.r, AO.list [.str x.kind, .ref x.s]) ∈ ledR rs ∧ (x.s, AO.strs x.signs) ∈ ledR rs :=
  ⟨List.mem_flatMap.mpr ⟨x, h, .head _⟩, List.mem_flatMap.mpr ⟨x, h, .tail _ (.head _)⟩⟩
noncomputable def L281 (fm : Bool) (mid : List PTok) (p : PV) (W : Led) : Prop := ∃ top st, p = .ref top ∧ W = Wf281 top st ∧ (st.rs.map RD.abs).reverse = absRows fm mid
theorem L281.rows {F : FI} {N : Nat} {c : Cx F N} {ps : List PV} {W W' : Led} {a : Addr} {h : Heap} {fm : Bool} {mid : List PTok} (L : L281 fm mid (.ref a) W) (i : In c ps W' h) (hs : ∀ q ∈ W, q ∈ W') : ∃ rows, RowsAt h a rows ∧ rows.map RowD.abs = absRows fm mid := by
  obtain ⟨top, st, e, rfl, e0⟩ := L
  have e' : a = top := by injection e
  subst e'
  have hrow : ∀ x ∈ st.rs, ∃ d : RowD, d.abs = x.abs ∧ d.r = x.r ∧ h.IsList d.r #[.str d.kind d.u, .ref d.s] ∧ h.IsList d.s (strValues d.signs).toArray := fun x hx => by
    obtain ⟨h1, h2⟩ := led_mem hx
    obtain ⟨o1, g1, vs, n, rfl, hv⟩ := i.get (hs _ (.tail _ h1))
    obtain ⟨o2, g2, ys, n2, rfl, hy⟩ := i.get (hs _ (.tail _ h2))
    obtain ⟨v, u, rfl, ⟨tk, rfl⟩, rfl⟩ := reps2 hv
    exact ⟨⟨x.r, x.kind, tk, x.s, ys⟩, by unfold RowD.abs RD.abs; rw [hy], rfl, ⟨_, g1, rfl, n, rfl⟩, ⟨_, g2, rfl, n2, rfl⟩⟩
  have hall : ∀ rs : List RD, (∀ x ∈ rs, x ∈ st.rs) → ∃ ds : List RowD, ds.map RowD.abs = rs.map RD.abs ∧ ds.map (·.r) = rs.map (·.r) ∧ ∀ d ∈ ds, h.IsList d.r #[.str d.kind d.u, .ref d.s] ∧ h.IsList d.s (strValues d.signs).toArray := fun rs => by
    induction rs with
    | nil => exact fun _ => ⟨[], rfl, rfl, fun _ h => nomatch h⟩
    | cons x rs ih =>
      intro hs
      obtain ⟨ds, e1, e2, e3⟩ := ih fun y hy => hs y (.tail _ hy)
      obtain ⟨d, f1, f2, f3⟩ := hrow x (hs x (.head _))
      refine ⟨d :: ds, by rw [List.map_cons, List.map_cons, f1, e1], by rw [List.map_cons, List.map_cons, f2, e2], fun y hy => ?_⟩
      cases hy with
      | head => exact f3
      | tail _ hy => exact e3 y hy
  obtain ⟨ds, e1, e2, e3⟩ := hall st.rs.reverse fun x hx => List.mem_reverse.mp hx
  obtain ⟨o, g, vs, n, rfl, hv⟩ := i.get (hs _ (.head _))
  have hvs : vs = (ds.map (·.r)).map Value.ref := by
    rw [e2]
    exact reps_refs (by rw [List.map_map]; exact hv)
  exact ⟨ds, ⟨⟨_, g, rfl, n, by rw [hvs]⟩, e3⟩, by rw [e1, ← e0, List.map_reverse]⟩
theorem last_rev {α β : Type} {x : α} {xs : List α} {f : α → β} : ((x :: xs).reverse.map f)[((x :: xs).reverse.map f).length - 1]? = some (f x) := by simp
theorem En.row1 {F : FI} {N : Nat} {c : Cx F N} {ps : List PV} {W : Led} {e : PySem.Expr} {p2 p3 pos : Pos} {k : Str} (h : Ep c ps W e (.str k)) (hs : starEach [e, .List [] p2] c.env = (false, eval e c.env) :: starEach [.List [] p2] c.env := by rfl) :
    En c ps W (.List [.List [e, .List [] p2] p3] pos) (fun p W' => ∃ a r s, p = .ref a ∧ W' = (a, .list [.ref r]) :: (r, .list [.str k, .ref s]) :: (s, .strs []) :: W) := by
  intro hh tk Q E i hq
  refine List_ (args_cons (e := .List [e, .List [] p2] p3) (En.row h hs _ _ _ _ i fun p W' u h2 tk2 hk r2 i2 => args_nil ?_) rfl)
  obtain ⟨r, s, rfl, rfl⟩ := hk
  exact i2.newL (o := .list [.ref r]) ⟨_, 0, rfl, r2, trivial⟩ (by simp) fun a h3 tk3 i3 => hq _ _ _ _ _ ⟨a, r, s, rfl, rfl⟩ rfl i3
theorem perm3 {α : Type} {a b t : α} {R : List α} : (a :: b :: t :: R).Perm (t :: a :: b :: R) := List.perm_middle (l₁ := [a, b])
theorem wf_sign {top : Addr} {y : RD} {ys : List RD} {z : Str} {pos : Int} {j : PV} : ((top, AO.list ((y :: ys).reverse.map fun x => .ref x.r)) :: (y.r, .list [.str y.kind, .ref y.s]) :: (y.s, .strs (y.signs ++ [z])) :: ledR ys : Led) = Wf281 top ⟨pos, { y with signs := y.signs ++ [z] } :: ys, j⟩ := by
  unfold Wf281
  rw [List.reverse_cons, List.reverse_cons, List.map_append, List.map_append]
  rfl
theorem wf_row {top r s : Addr} {k : Str} {rs : List RD} {pos : Int} {j : PV} : ((r, AO.list [.str k, .ref s]) :: (s, .strs []) :: (top, AO.list ((rs.reverse.map fun x => .ref x.r) ++ [.ref r])) :: ledR rs : Led).Perm (Wf281 top ⟨pos, ⟨r, s, k, []⟩ :: rs, j⟩) := by
  refine perm3.trans (.of_eq ?_)
  unfold Wf281
  rw [List.reverse_cons, List.map_append]
  rfl
theorem t281 (fm : Bool) (mid : List PTok) (hok : ∀ t ∈ mid, t.ok ∧ t ≠ .star ∧ t ≠ .quest) (hml : mid.length < 200) (t : Str) (u0 : Tok) (hn : t.length < 500) (h4 : Txt.slice t none (some 4) = Str.ofString "(?s:") (h3 : Txt.slice t (some (-3)) none = Str.ofString ")\\Z") (hI : Txt.slice t (some 4) (some (-3)) = tx (innerL fm mid)) :
    Con 6 281 [.str t u0] (fun _ => True) (RLed (L281 fm mid)) := by
  refine Con.of (F := F281) (N := 5) (ps := [.str t, .unset, .unset, .unset, .unset]) (binds := [(Str.ofString "text", .str t u0)]) (fun q => by k_is) (fun q => by k_is) (fun s => BindsTo.of_eq (by kernel_rfl)) (locs rfl) rfl rfl (by decide) ⟨⟨_, rfl, _, rfl⟩, rfl, rfl, rfl, rfl, trivial⟩ fun c Φ E hE hP _ => ?_
  have hts : t.length ≤ sizeLine := by rw [sizeLine_eq]; lia
  have hIl : (innerL fm mid).length < 500 := by
    have := Txt.slice_le t (some 4) (some (-3))
    rw [hI, tx_len] at this
    lia
  have hIt : (tx (innerL fm mid)).length ≤ 1000000 := by rw [tx_len]; lia
  have hIs : (tx (innerL fm mid)).length ≤ sizeLine := by rw [sizeLine_eq]; lia
  refine .ifte (.bo (.or (.cmp (.slice (.name .n0) .none (.some .int) hts) .str .nes) fun _ => .or (.cmp (.slice (.name .n0) (.some (.neg .int)) .none hts) .str .nes) fun _ => .nilO)) (fun hb => ?_) (fun _ => .seq ?_)
  · rw [h4, h3] at hb
    simp at hb
  refine .assign (.slice (.name .n0) (.some .int) (.some (.neg .int)) hts) .n1 ?_
  rw [hI]
  refine .assignN (.row1 .str) fun p W' hk => ?_
  obtain ⟨top, r, s, rfl, rfl⟩ := hk
  refine ⟨_, .n2, .assign .int .n3 ?_⟩
  refine Sx.while (ps281 t (tx (innerL fm mid)) top) (Wf281 top) (fun st => P281 fm mid st.pos (st.rs.map RD.abs)) (fun st => ((innerL fm mid).length - st.pos).toNat) (fun st => decide (st.pos < ((tx (innerL fm mid)).length : Nat))) ⟨0, [⟨r, s, Str.ofString "here", []⟩], .unset⟩ hP (.inl ⟨rfl, rfl⟩) fun st hJ => ?_
  obtain ⟨pos, rs, j⟩ := st
  have hnn := P281.nn hJ
  refine ⟨.cmp (.name .n3) (.callB bn_len rfl (.cons (.name .n1) .nil) (.len hIt)) .lti, fun hb => ?_, fun hb => ?_⟩
  rotate_left
  · have hp := of_decide_eq_false hb
    rw [tx_len] at hp
    exact .ret hE (.name .n2) fun v h' hr hi => RLed.of hi ⟨top, _, rfl, rfl, P281.fin hok hJ hp⟩ hr
  have hp := of_decide_eq_true hb
  dsimp only at hJ hp hnn
  have hp' : pos < ((innerL fm mid).length : Nat) := by rw [← tx_len]; exact hp
  obtain ⟨hst, hlt⟩ := P281.step hok hJ hp'
  obtain ⟨h0, h4', x, xs, hx, hxl⟩ := hnn
  cases rs with
  | nil => cases hx
  | cons y ys =>
  cases hx
  have hsl : y.signs.length ≤ 1000000 := by have : y.signs.length ≤ mid.length + 1 := hxl; lia
  have hrl : ((y :: ys).reverse.map fun x => PV.ref x.r).length ≤ 1000000 := by
    rw [List.length_map, List.length_reverse, ← List.length_map (f := RD.abs)]; lia
  have hs1 : -((tx (innerL fm mid)).length : Int) ≤ pos := by lia
  have close : ∀ (rst : List Stmt) (ps' : List PV) (W' : Led) (st' : SR), ps' = ps281 t (tx (innerL fm mid)) top st' → W'.Perm (Wf281 top st') → stepR (tx (innerL fm mid)) pos ((y :: ys).map RD.abs) = (st'.pos, st'.rs.map RD.abs) →
      Sx c ps' W' [] (Lp c (ps281 t (tx (innerL fm mid)) top) (Wf281 top) (fun st => P281 fm mid st.pos (st.rs.map RD.abs)) (fun st => ((innerL fm mid).length - st.pos).toNat) (((innerL fm mid).length - pos).toNat) rst Φ E) E := fun rst ps' W' st' e1 e2 e3 => by
    rw [e3] at hst hlt
    exact .perm e2 (.lp st' e1 rfl hst (by dsimp only at hlt ⊢; lia))
  refine .ifte0 (.cmp (.slice (.name .n1) (.some (.name .n3)) (.some (.bin (.name .n3) .int .addi)) hIs) .str .eqs) (fun b1 => ?_) (fun b1 => ?_)
  · refine .appendN (.name .n2) (.head _) ⟨[], .inr ⟨_, rfl⟩⟩ (.row .str) fun p W1 hk => ?_
    obtain ⟨r', s', rfl, rfl⟩ := hk
    refine ⟨_, _, .list hrl, .tail (.tail .head), .aug .n3 nofun .int .addi .n3 ?_⟩
    refine close _ _ _ ⟨pos + 6, ⟨r', s', Str.ofString "first", []⟩ :: y :: ys, j⟩ rfl ?_ ?_
    · exact wf_row
    · rw [stepR1 b1]; rfl
  refine .ifte0 (.cmp (.sign (.name .n1) (.name .n3) hs1 hp hIt) .str .eqs) (fun b2 => ?_) (fun b2 => ?_)
  · refine .appendN (.name .n2) (.head _) ⟨[], .inr ⟨_, rfl⟩⟩ (.row .str) fun p W1 hk => ?_
    obtain ⟨r', s', rfl, rfl⟩ := hk
    refine ⟨_, _, .list hrl, .tail (.tail .head), .aug .n3 nofun .int .addi .n3 ?_⟩
    refine close _ _ _ ⟨pos + 1, ⟨r', s', Str.ofString "here", []⟩ :: y :: ys, j⟩ rfl ?_ ?_
    · exact wf_row
    · rw [stepR2 b1 b2]; rfl
  refine .ifte0 (.cmp (.slice (.name .n1) (.some (.name .n3)) (.some (.bin (.name .n3) .int .addi)) hIs) .str .eqs) (fun b3 => ?_) (fun b3 => ?_)
  · refine .appendN (.name .n2) (.head _) ⟨[], .inr ⟨_, rfl⟩⟩ (.row .str) fun p W1 hk => ?_
    obtain ⟨r', s', rfl, rfl⟩ := hk
    refine ⟨_, _, .list hrl, .tail (.tail .head), .aug .n3 nofun .int .addi .n3 ?_⟩
    refine close _ _ _ ⟨pos + 2, ⟨r', s', Str.ofString "end", []⟩ :: y :: ys, j⟩ rfl ?_ ?_
    · exact wf_row
    · rw [stepR3 b1 b2 b3]; rfl
  refine .ifte0 (.cmp (.sign (.name .n1) (.name .n3) hs1 hp hIt) .str .eqs) (fun b4 => ?_) (fun b4 => ?_)
  · refine .append (.item (.item (.name .n2) (.neg .int) (.head _) (.last last_rev)) .int (.tail _ (.head _)) (.list (by decide) (by decide) rfl)) .str (.tail (.tail .head)) ⟨_, .inl rfl⟩ (.strs hsl) (.aug .n3 nofun .int .addi .n3 ?_)
    refine close _ _ _ ⟨pos + 1, { y with signs := y.signs ++ [Str.ofString ""] } :: ys, j⟩ rfl ?_ ?_
    · exact .of_eq wf_sign
    · rw [stepR4 b1 b2 b3 b4]; rfl
  refine .ifte0 (.cmp (.sign (.name .n1) (.name .n3) hs1 hp hIt) .str .eqs) (fun b5 => ?_) (fun b5 => ?_)
  · refine .append (.item (.item (.name .n2) (.neg .int) (.head _) (.last last_rev)) .int (.tail _ (.head _)) (.list (by decide) (by decide) rfl)) (.slice (.name .n1) (.some (.bin (.name .n3) .int .addi)) (.some (.bin (.name .n3) .int .addi)) hIs) (.tail (.tail .head)) ⟨_, .inl rfl⟩ (.strs hsl) (.aug .n3 nofun .int .addi .n3 ?_)
    refine close _ _ _ ⟨pos + 2, { y with signs := y.signs ++ [Txt.slice (tx (innerL fm mid)) (some (pos + 1)) (some (pos + 2))] } :: ys, j⟩ rfl ?_ ?_
    · exact .of_eq wf_sign
    · rw [stepR5 b1 b2 b3 b4 b5]; rfl
  refine .ifte0 (.cmp (.sign (.name .n1) (.name .n3) hs1 hp hIt) .str .eqs) (fun b6 => ?_) (fun b6 => ?_)
  · refine .assign (.callB bn_max rfl (.cons (.bin (.name .n3) .int .addi) (.cons (.meth1 sm_find (.name .n1) (.cons .str (.cons (.name .n3) .nil)) .find3) .nil)) .max) .n4 ?_
    refine .append (.item (.item (.name .n2) (.neg .int) (.head _) (.last last_rev)) .int (.tail _ (.head _)) (.list (by decide) (by decide) rfl)) (.slice (.name .n1) (.some (.bin (.name .n3) .int .addi)) (.some (.name .n4)) hIs) (.tail (.tail .head)) ⟨_, .inl rfl⟩ (.strs hsl) (.assign (.bin (.name .n4) .int .addi) .n3 ?_)
    refine close _ _ _ ⟨brJ (tx (innerL fm mid)) pos + 1, { y with signs := y.signs ++ [Txt.slice (tx (innerL fm mid)) (some (pos + 1)) (some (brJ (tx (innerL fm mid)) pos))] } :: ys, .int (brJ (tx (innerL fm mid)) pos)⟩ rfl ?_ ?_
    · exact .of_eq wf_sign
    · rw [stepR6 b1 b2 b3 b4 b5 b6]; rfl
  · refine .append (.item (.item (.name .n2) (.neg .int) (.head _) (.last last_rev)) .int (.tail _ (.head _)) (.list (by decide) (by decide) rfl)) (.sign (.name .n1) (.name .n3) hs1 hp hIt) (.tail (.tail .head)) ⟨_, .inl rfl⟩ (.strs hsl) (.aug .n3 nofun .int .addi .n3 ?_)
    refine close _ _ _ ⟨pos + 1, { y with signs := y.signs ++ [Txt.item (tx (innerL fm mid)) pos] } :: ys, j⟩ rfl ?_ ?_
    · exact .of_eq wf_sign
    · rw [stepR7 b1 b2 b3 b4 b5 b6]; rfl
end
section
open PySem PySem.W PySem.Calls PyProof.Rows
section
variable {s : Shared} {A : Around} {E : Value → Shared → Prop}
theorem noBool_match : typeLookup (.type "re.Match") "__bool__" = pure none := by rw [typeLookup_type, builtinLookup_eq_fast]; kernel_rfl
theorem noLen_match : typeLookup (.type "re.Match") "__len__" = pure none := by rw [typeLookup_type, builtinLookup_eq_fast]; kernel_rfl
theorem truthy_match {M : Model} {a : Addr} {Q : Bool → Shared → Prop} (hm : IsMatch s.heap a) (h : Q true s) : wpAny M A (truthy (.ref a)) Q E s := by
  obtain ⟨o, ho, hc, hd⟩ := hm.is
  unfold truthy
  refine wpAny_bind ((wpAny_callSpecial?_none (name := Str.ofString "__bool__") (T := "re.Match") (show s.TypeIs (.ref a) "re.Match" from ⟨o, ho, hc⟩) noBool_match ?_))
  refine wpAny_bind ((wpAny_specialOf (name := Str.ofString "__len__") (T := "re.Match") (show s.TypeIs (.ref a) "re.Match" from ⟨o, ho, hc⟩) noLen_match ?_))
  exact wpAny_pure h
end
theorem Ok.lower {t : Str} (h : Ok t) : Ok (Txt.lower t) := by
  have e := lower_ascii (x := t) (fun c hc => (h.asc c hc).1)
  rw [e]
  refine ⟨?_, fun c hc => ?_⟩
  · show (t.cps.map lo1).size < 100
    rw [Array.size_map]; exact h.len
  · rw [Array.toList_map] at hc
    obtain ⟨d, hd, rfl⟩ := List.mem_map.mp hc
    have := h.asc d hd
    unfold lo1
    split
    · rename_i h1
      lia
    · exact this
theorem Ok.slice {t : Str} {l u : Option Int} (h : Ok t) : Ok (Txt.slice t l u) := by
  refine ⟨Nat.lt_of_le_of_lt (Txt.slice_le t l u) h.len, fun c hc => ?_⟩
  unfold Txt.slice at hc
  split at hc
  · exact h.asc c hc
  · obtain ⟨i, _, hi⟩ := List.mem_filterMap.mp hc
    exact h.asc c (by rw [Array.mem_toList_iff]; exact Array.mem_of_getElem? hi)
theorem mem_join {sep a : Str} {c : Nat} : ∀ {l : List Str}, a ∈ l → c ∈ a.cps.toList → c ∈ (Str.join sep l).cps.toList
  | [], ha, _ => nomatch ha
  | [x], ha, hc => by rw [List.mem_singleton.mp ha] at hc; exact hc
  | x :: y :: r, ha, hc => by
    have e : (Str.join sep (x :: y :: r)).cps = x.cps ++ sep.cps ++ (Str.join sep (y :: r)).cps := rfl
    rw [e, Array.toList_append, Array.toList_append]
    rcases List.mem_cons.mp ha with e | ha
    · subst e; exact List.mem_append_left _ (List.mem_append_left _ hc)
    · exact List.mem_append_right _ (mem_join (sep := sep) ha hc)
theorem Ok.split {t y a : Str} (h : Ok t) (ha : a ∈ Txt.split t y) : Ok a := by
  refine ⟨Nat.lt_of_le_of_lt (part_short ha) h.len, fun c hc => h.asc c ?_⟩
  have := mem_join (sep := y) ha hc
  rwa [StrLaws.join_split] at this
theorem nm43 : ∀ q, nsIn (Mine.hd.heap_39 q) mainGlobals (Str.ofString "IPV4_RE") = some (some (.ref 43)) := fun q => by k_is
section
variable {F : FI} {N : Nat} {c : Cx F N} {ps : List PV} {W : Led} {Φ : Flow → Shared → Prop} {E : Value → Shared → Prop} {rest : List Stmt}
theorem Et.search {pl : Sem Bool} {px ap pos : Pos} {e : PySem.Expr} {t : Str} (hk : F.scope.names.lookup (Str.ofString "IPV4_RE") = some .globalImplicit) (h : Ep c ps W e (.str t)) (hO : Ok t)
    (he : McOk c (.Name (Str.ofString "IPV4_RE") px) (Str.ofString "search") ap pos [e] pl := by exact rfl) (hst : starEach [e] c.env = (false, eval e c.env) :: starEach [] c.env := by rfl)
    (hp : ∀ whole, whole = eval (.Call (.Attribute (.Name (Str.ofString "IPV4_RE") px) (Str.ofString "search") ap) [e] [] pos) c.env → PySem.isTrue (.Call (.Attribute (.Name (Str.ofString "IPV4_RE") px) (Str.ofString "search") ap) [e] [] pos) c.env whole = (do let v ← whole; standAt (PySem.Expr.pos (.Call (.Attribute (.Name (Str.ofString "IPV4_RE") px) (Str.ofString "search") ap) [e] [] pos)); holding [v] (truthy v)) := by intro _ _; rfl) :
    Et c ps W (.Call (.Attribute (.Name (Str.ofString "IPV4_RE") px) (Str.ofString "search") ap) [e] [] pos) (ip4 t) := by
  intro whole hh tk Q E hw i hq
  refine isTrue_plain ?_ (hp whole hw)
  subst hw
  obtain ⟨m, news, hF, hN, hf, hl, nd⟩ := _root_.id i
  refine MethodCall_ (Cx.nmK hF (nm43 _) ?_ hk (by decide)) he
  refine getMethod_search hF c.X (look43 _) rfl rfl (callWith_method1 (args_cons (h _ _ _ _ i fun v h' tk' r i1 => args_nil ?_) hst) hst)
  obtain ⟨u, rfl⟩ := r
  obtain ⟨m, news, hF, hN, hf, hl, nd⟩ := i1
  refine search43 (s := c.st h' tk') hF c.X hN c.T hO (fun h0 tk2 => PyProof.Rows.truthy_none ?_) (fun h0 a h2 tk2 F2 N2 hM => truthy_match hM ?_)
  · rw [h0] at hq
    exact hq _ _ ⟨m, news, hF, hN, hf, hl, nd⟩
  · rw [h0] at hq
    exact hq _ _ ⟨m, news, F2, N2, hf, hl, nd⟩
end
noncomputable def isHDN (t : Str) : Bool := !ip4 t && !(t == Str.ofString "") && !(Txt.item t 0 == Str.ofString ".") && !(Txt.item t (-1) == Str.ofString ".")
def F50 : FI where
  qual := Str.ofString "is_HDN"
  scope := { kind := .function, names := [(Str.ofString "text", .local), (Str.ofString "IPV4_RE", .globalImplicit)], isGenerator := false, isCoroutine := false }
  f := 50
  cd := .ref 49
  locals := [Str.ofString "text"]
theorem bb1 : ∀ {x y : Bool}, (x || (y || false)) = true → (!false && !false && !x && !y) = false := by decide
theorem bb2 : ∀ {x y : Bool}, (x || (y || false)) = false → (!false && !false && !x && !y) = true := by decide
theorem bb3 : ∀ {x y s z : Bool}, (x || (y || false)) = true → (false || (true && !x && !y && s && z)) = false := by decide
theorem bb4 : ∀ {x y s : Bool}, (x || (y || false)) = false → (!s) = true → ∀ z, (false || (true && !x && !y && s && z)) = false := by decide
theorem bb5 : ∀ {x y s z : Bool}, (x || (y || false)) = false → (!s) = false → (!z) = true → (false || (true && !x && !y && s && z)) = false := by decide
theorem bb6 : ∀ {x y s z : Bool}, (x || (y || false)) = false → (!s) = false → (!z) = false → (false || (true && !x && !y && s && z)) = true := by decide
theorem bnot : ∀ {x : Bool}, (!x) = true → x = false := by decide
theorem bnot' : ∀ {x : Bool}, (!x) = false → x = true := by decide
theorem rep_b {a b : Bool} {v : Value} (h : (PV.bool a).rep v) (e : b = a) : v = .bool b := by rw [e]; exact h
theorem t50 (t : Str) (tk : Tok) (hO : Ok t) : Con 4 50 [.str t tk] (fun _ => True) (fun _ v _ => v = .bool (isHDN t)) := by
  have hn := hO.len
  refine Con.of (F := F50) (N := 3) (ps := [.str t]) (binds := [(Str.ofString "text", .str t tk)]) (fun q => by k_is) (fun q => by k_is) (fun s => BindsTo.of_eq (by kernel_rfl)) (locs rfl) rfl rfl (by decide) ⟨⟨_, rfl, _, rfl⟩, trivial⟩ fun c Φ E hE hP _ => ?_
  refine .ifte (.search rfl (.name .here) hO) (fun h1 => .ret hE.seq .bool fun v h' hv _ => rep_b hv (by unfold isHDN; rw [h1]; rfl)) (fun h1 => .seq ?_)
  refine .ifte (.cmp (.name .here) .str .eqs) (fun h2 => .ret hE.seq .bool fun v h' hv _ => rep_b hv (by unfold isHDN; rw [h1, h2]; rfl)) (fun h2 => .seq ?_)
  have hl : 0 < t.length := by
    rcases Nat.eq_zero_or_pos t.length with e | e
    · rw [empty_of_len (a := t) (by rw [e]; rfl)] at h2
      cases h2
    · exact e
  refine .ifte (.bo (.or (.cmp (.sign (.name .here) .int (by lia) (by lia) (by lia)) .str .eqs) fun _ => .or (.cmp (.sign (.name .here) (.neg .int) (by lia) (by lia) (by lia)) .str .eqs) fun _ => .nilO)) (fun h3 => .ret hE.seq .bool fun v h' hv _ => rep_b hv (by unfold isHDN; rw [h1, h2]; exact bb1 h3)) (fun h3 => .seq (.ret hE .bool fun v h' hv _ => rep_b hv (by unfold isHDN; rw [h1, h2]; exact bb2 h3)))
noncomputable def libHDN (t : Str) : Bool := !ip4 t
def F64 : FI where
  qual := Str.ofString "liberal_is_HDN"
  scope := { kind := .function, names := [(Str.ofString "text", .local), (Str.ofString "IPV4_RE", .globalImplicit)], isGenerator := false, isCoroutine := false }
  f := 64
  cd := .ref 63
  locals := [Str.ofString "text"]
theorem t64 (t : Str) (tk : Tok) (hO : Ok t) : Con 4 64 [.str t tk] (fun _ => True) (fun _ v _ => v = .bool (libHDN t)) := by
  refine Con.of (F := F64) (N := 3) (ps := [.str t]) (binds := [(Str.ofString "text", .str t tk)]) (fun q => by k_is) (fun q => by k_is) (fun s => BindsTo.of_eq (by kernel_rfl)) (locs rfl) rfl rfl (by decide) ⟨⟨_, rfl, _, rfl⟩, trivial⟩ fun c Φ E hE hP _ => ?_
  exact .ifte (.search rfl (.name .here) hO) (fun h1 => .ret hE.seq .bool fun v h' hv _ => rep_b hv (by unfold libHDN; rw [h1]; rfl)) (fun h1 => .seq (.ret hE .bool fun v h' hv _ => rep_b hv (by unfold libHDN; rw [h1]; rfl)))
theorem gn_hdn : GName (Str.ofString "is_HDN") 50 := ⟨fun q => by k_is, fun q => by k_is, by decide⟩
theorem gn_lib : GName (Str.ofString "liberal_is_HDN") 64 := ⟨fun q => by k_is, fun q => by k_is, by decide⟩
noncomputable def domMatch (x y : Str) : Bool := Txt.lower x == Txt.lower y || (isHDN (Txt.lower x) && !(Txt.rfind (Txt.lower x) (Txt.lower y) == -1) && !(Txt.rfind (Txt.lower x) (Txt.lower y) == 0) && Txt.startswith (Txt.lower y) (Str.ofString ".") && isHDN (Txt.slice (Txt.lower y) (some 1) none))
def F57 : FI where
  qual := Str.ofString "domain_match"
  scope := { kind := .function, names := [(Str.ofString "A", .local), (Str.ofString "B", .local), (Str.ofString "i", .local), (Str.ofString "is_HDN", .globalImplicit)], isGenerator := false, isCoroutine := false }
  f := 57
  cd := .ref 56
  locals := [Str.ofString "A", Str.ofString "B", Str.ofString "i"]
theorem t57 (x y : Str) (tk tk2 : Tok) (hO : Ok x) (hO2 : Ok y) : Con 6 57 [.str x tk, .str y tk2] (fun _ => True) (fun _ v _ => v = .bool (domMatch x y)) := by
  have hn := hO.len
  have hn2 := hO2.len
  have hn3 := hO2.lower.len
  refine Con.of (F := F57) (N := 5) (ps := [.str x, .str y, .unset]) (binds := [(Str.ofString "A", .str x tk), (Str.ofString "B", .str y tk2)]) (fun q => by k_is) (fun q => by k_is) (fun s => BindsTo.of_eq (by kernel_rfl)) (locs rfl) rfl rfl (by decide) ⟨⟨_, rfl, _, rfl⟩, ⟨_, rfl, _, rfl⟩, rfl, trivial⟩ fun c Φ E hE hP _ => ?_
  refine .assign (.meth0 sm_lower (.name .n0) (.lower (by lia))) .n0 (.assign (.meth0 sm_lower (.name .n1) (.lower (by lia))) .n1 ?_)
  refine .ifte (.cmp (.name .n0) (.name .n1) .eqs) (fun h1 => .ret hE.seq .bool fun v h' hv _ => rep_b hv (by unfold domMatch; rw [h1]; rfl)) (fun h1 => .seq ?_)
  refine .ifte (.not (.val (.con (n := 4) (p := .bool _) gn_hdn rfl (.cons (.name .n0) .nil) (Con.s1' fun u => t50 _ u hO.lower) (by decide) (fun _ _ => trivial) fun _ _ _ r => r) .bool)) (fun h2 => .ret hE.seq .bool fun v h' hv _ => rep_b hv (by unfold domMatch; rw [h1, bnot h2]; rfl)) (fun h2 => .seq ?_)
  refine .assign (.meth1 sm_rfind (.name .n0) (.cons (.name .n1) .nil) .rfind) .n2 ?_
  refine .ifte (.bo (.or (.cmp (.name .n2) (.neg .int) .eqi) fun _ => .or (.cmp (.name .n2) .int .eqi) fun _ => .nilO)) (fun h3 => .ret hE.seq .bool fun v h' hv _ => rep_b hv (by unfold domMatch; rw [h1, bnot' h2]; exact bb3 h3)) (fun h3 => .seq ?_)
  refine .ifte (.not (.val (.meth1 sm_starts (.name .n1) (.cons .str .nil) .starts) .bool)) (fun h4 => .ret hE.seq .bool fun v h' hv _ => rep_b hv (by unfold domMatch; rw [h1, bnot' h2]; exact bb4 h3 h4 _)) (fun h4 => .seq ?_)
  refine .ifte (.not (.val (.con (n := 4) (p := .bool _) gn_hdn rfl (.cons (.slice (.name .n1) (.some .int) .none (by rw [sizeLine_eq]; lia)) .nil) (Con.s1' fun u => t50 _ u hO2.lower.slice) (by decide) (fun _ _ => trivial) fun _ _ _ r => r) .bool)) (fun h5 => .ret hE.seq .bool fun v h' hv _ => rep_b hv (by unfold domMatch; rw [h1, bnot' h2]; exact bb5 h3 h4 h5)) (fun h5 => .seq (.ret hE .bool fun v h' hv _ => rep_b hv (by unfold domMatch; rw [h1, bnot' h2]; exact bb6 h3 h4 h5)))
noncomputable def usrMatch (x y : Str) : Bool := if !(libHDN (Txt.lower x) && libHDN (Txt.lower y)) then Txt.lower x == Txt.lower y else if Txt.startswith (Txt.lower y) (Str.ofString ".") then Txt.endswith (Txt.lower x) (Txt.lower y) else Txt.lower x == Txt.lower y
def F71 : FI where
  qual := Str.ofString "user_domain_match"
  scope := { kind := .function, names := [(Str.ofString "A", .local), (Str.ofString "B", .local), (Str.ofString "initial_dot", .local), (Str.ofString "liberal_is_HDN", .globalImplicit)], isGenerator := false, isCoroutine := false }
  f := 71
  cd := .ref 70
  locals := [Str.ofString "A", Str.ofString "B", Str.ofString "initial_dot"]
theorem ub1 : ∀ {a b e : Bool}, (!(a && (b && true))) = true → ∀ s q : Bool, (if !(a && b) then e else if s then q else e) = e := by decide
theorem ub2 : ∀ {a b s q : Bool}, (!(a && (b && true))) = false → (s && (q && true)) = true → ∀ e : Bool, (if !(a && b) then e else if s then q else e) = true := by decide
theorem ub3 : ∀ {a b s q e : Bool}, (!(a && (b && true))) = false → (s && (q && true)) = false → (!s && (e && true)) = true → (if !(a && b) then e else if s then q else e) = true := by decide
theorem ub4 : ∀ {a b s q e : Bool}, (!(a && (b && true))) = false → (s && (q && true)) = false → (!s && (e && true)) = false → (if !(a && b) then e else if s then q else e) = false := by decide
theorem t71 (x y : Str) (tk tk2 : Tok) (hO : Ok x) (hO2 : Ok y) : Con 6 71 [.str x tk, .str y tk2] (fun _ => True) (fun _ v _ => v = .bool (usrMatch x y)) := by
  have hn := hO.len
  have hn2 := hO2.len
  refine Con.of (F := F71) (N := 5) (ps := [.str x, .str y, .unset]) (binds := [(Str.ofString "A", .str x tk), (Str.ofString "B", .str y tk2)]) (fun q => by k_is) (fun q => by k_is) (fun s => BindsTo.of_eq (by kernel_rfl)) (locs rfl) rfl rfl (by decide) ⟨⟨_, rfl, _, rfl⟩, ⟨_, rfl, _, rfl⟩, rfl, trivial⟩ fun c Φ E hE hP _ => ?_
  refine .assign (.meth0 sm_lower (.name .n0) (.lower (by lia))) .n0 (.assign (.meth0 sm_lower (.name .n1) (.lower (by lia))) .n1 ?_)
  refine .ifte (.not (.bo (.and (.val (.con (n := 4) (p := .bool _) gn_lib rfl (.cons (.name .n0) .nil) (Con.s1' fun u => t64 _ u hO.lower) (by decide) (fun _ _ => trivial) fun _ _ _ r => r) .bool) fun _ => .and (.val (.con (n := 4) (p := .bool _) gn_lib rfl (.cons (.name .n1) .nil) (Con.s1' fun u => t64 _ u hO2.lower) (by decide) (fun _ _ => trivial) fun _ _ _ r => r) .bool) fun _ => .nilA))) (fun h1 => ?_) (fun h1 => .seq ?_)
  · exact .ifte (.cmp (.name .n0) (.name .n1) .eqs) (fun h2 => .ret hE.seq.seq .bool fun v h' hv _ => rep_b hv ((ub1 h1 _ _).trans h2)) (fun h2 => .seq (.ret hE.seq .bool fun v h' hv _ => rep_b hv ((ub1 h1 _ _).trans h2)))
  refine .assign (.meth1 sm_starts (.name .n1) (.cons .str .nil) .starts) .n2 ?_
  refine .ifte (.bo (.and (.val (.name .n2) .bool) fun _ => .and (.val (.meth1 sm_ends (.name .n0) (.cons (.name .n1) .nil) .ends) .bool) fun _ => .nilA)) (fun h2 => .ret hE.seq .bool fun v h' hv _ => rep_b hv (ub2 h1 h2 _)) (fun h2 => .seq ?_)
  exact .ifte (.bo (.and (.not (.val (.name .n2) .bool)) fun _ => .and (.cmp (.name .n0) (.name .n1) .eqs) fun _ => .nilA)) (fun h3 => .ret hE.seq .bool fun v h' hv _ => rep_b hv (ub3 h1 h2 h3)) (fun h3 => .seq (.ret hE .bool fun v h' hv _ => rep_b hv (ub4 h1 h2 h3)))
noncomputable def reachB (t : Str) : Str := Txt.slice t (some (Txt.find t (Str.ofString ".") + 1)) none
noncomputable def reachF (t : Str) : Str := if 0 ≤ Txt.find t (Str.ofString ".") ∧ isHDN t = true ∧ (0 ≤ Txt.find (reachB t) (Str.ofString ".") ∨ (reachB t == Str.ofString "local") = true) then Str.ofString "." ++ reachB t else t
def F78 : FI where
  qual := Str.ofString "reach"
  scope := { kind := .function, names := [(Str.ofString "h", .local), (Str.ofString "i", .local), (Str.ofString "b", .local), (Str.ofString "is_HDN", .globalImplicit)], isGenerator := false, isCoroutine := false }
  f := 78
  cd := .ref 77
  locals := [Str.ofString "h", Str.ofString "i", Str.ofString "b"]
theorem rb : ∀ {a b c : Bool}, (a && ((b || (c || false)) && true)) = true ↔ a = true ∧ (b = true ∨ c = true) := by decide
theorem t78 (t : Str) (tk : Tok) (hO : Ok t) : Con 6 78 [.str t tk] (fun _ => True) (fun _ v _ => ∃ tk, v = .str (reachF t) tk) := by
  have hn := hO.len
  have hz : t.length ≤ sizeLine := by rw [sizeLine_eq]; lia
  have hb : (reachB t).length ≤ t.length := Txt.slice_le _ _ _
  refine Con.of (F := F78) (N := 5) (ps := [.str t, .unset, .unset]) (binds := [(Str.ofString "h", .str t tk)]) (fun q => by k_is) (fun q => by k_is) (fun s => BindsTo.of_eq (by kernel_rfl)) (locs rfl) rfl rfl (by decide) ⟨⟨_, rfl, _, rfl⟩, rfl, rfl, trivial⟩ fun c Φ E hE hP _ => ?_
  refine .assign (.meth1 sm_find (.name .n0) (.cons .str .nil) .find) .n1 ?_
  refine .ifte (.cmp (.name .n1) .int .gei) (fun h1 => ?_) (fun h1 => .seq (.ret hE (.name .n0) fun v h' hv _ => ?_))
  · refine .assign (p := .str (reachB t)) (.slice (.name .n0) (.some (.bin (.name .n1) .int .addi)) .none hz) .n2 (.assign (.meth1 sm_find (.name .n2) (.cons .str .nil) .find) .n1 ?_)
    refine .ifte0 (.bo (.and (.val (.con (n := 4) (p := .bool _) gn_hdn rfl (.cons (.name .n0) .nil) (Con.s1' fun u => t50 _ u hO) (by decide) (fun _ _ => trivial) fun _ _ _ r => r) .bool) fun _ => .and (.bo (.or (.cmp (.name .n1) .int .gei) fun _ => .or (.cmp (.name .n2) .str .eqs) fun _ => .nilO)) fun _ => .nilA)) (fun h2 => .ret hE.seq (.bin .str (.name .n2) (.adds (by rw [dot_len, sizeLine_eq]; lia))) fun v h' hv _ => ?_) (fun h2 => .seq (.ret hE (.name .n0) fun v h' hv _ => ?_))
    · have h3 := rb.mp h2
      rw [decide_eq_true_eq] at h1 h3
      obtain ⟨t', e⟩ := hv
      exact ⟨t', by rw [e]; unfold reachF; rw [if_pos ⟨h1, h3⟩]⟩
    · obtain ⟨t', e⟩ := hv
      refine ⟨t', ?_⟩
      rw [e]; unfold reachF; rw [if_neg]
      intro h3
      have h4 := h3.2
      rw [← decide_eq_true_eq (p := 0 ≤ Txt.find (reachB t) (Str.ofString "."))] at h4
      rw [rb.mpr h4] at h2
      cases h2
  · obtain ⟨t', e⟩ := hv
    refine ⟨t', ?_⟩
    rw [e]; unfold reachF; rw [if_neg]
    intro h3
    exact of_decide_eq_false h1 h3.1
end
section
open PySem PySem.W PySem.Calls PyProof.Rows
noncomputable def spellLabel (a : Str) : Str :=
  (if (Txt.lower (Txt.slice a none (some 1)) != Txt.upper (Txt.slice a none (some 1))) = true then Str.ofString "[" ++ Txt.lower (Txt.slice a none (some 1)) ++ Txt.upper (Txt.slice a none (some 1)) ++ Str.ofString "]" else Txt.slice a none (some 1)) ++ Txt.slice a (some 1) none
noncomputable def lawSpelled (t : Str) : Str := Txt.join (Str.ofString ".") ((Txt.split t (Str.ofString ".")).map spellLabel)
theorem spell_le (a : Str) (h : a.length ≤ 100) : (spellLabel a).length ≤ 1000 := by
  have h1 := Txt.slice_le a none (some 1)
  have h2 := Txt.slice_le a (some 1) none
  have h3 := len_lower (Txt.slice a none (some 1))
  have h4 := fact_upper (Txt.slice a none (some 1))
  have e1 : (Str.ofString "[").length = 1 := by decide +kernel
  have e2 : (Str.ofString "]").length = 1 := by decide +kernel
  unfold spellLabel
  rw [app_length]
  split
  · simp only [app_length, e1, e2]; lia
  · lia
structure S3 where
  outs : List Str
  label : PV
  front : PV
def F274 : FI where
  qual := Str.ofString "_law_spelled"
  scope := { kind := .function, names := [(Str.ofString "text", .local), (Str.ofString "spelled", .local), (Str.ofString "label", .local), (Str.ofString "front", .local)], isGenerator := false, isCoroutine := false }
  f := 274
  cd := .ref 273
  locals := [Str.ofString "text", Str.ofString "spelled", Str.ofString "label", Str.ofString "front"]
theorem t274 (t : Str) (u0 : Tok) (hO : Ok t) : Con 4 274 [.str t u0] (fun _ => True) (fun h v h' => ∃ tk, v = .str (lawSpelled t) tk) := by
  have hn := hO.len
  have hts : t.length + 2 ≤ sizeLine := by rw [sizeLine_eq]; lia
  refine Con.of (F := F274) (N := 3) (ps := [.str t, .unset, .unset, .unset]) (binds := [(Str.ofString "text", .str t u0)]) (fun q => by k_is) (fun q => by k_is) (fun s => BindsTo.of_eq (by kernel_rfl)) (locs rfl) rfl rfl (by decide) ⟨⟨_, rfl, _, rfl⟩, rfl, rfl, rfl, trivial⟩ fun c Φ E hE hP _ => ?_
  refine .assignN .list0 fun p W' hk => ?_
  obtain ⟨sp, rfl, rfl⟩ := hk
  have hsl := split_len t (Str.ofString ".")
  refine ⟨_, .n1, Sx.forA (fun st : S3 => [.str t, .ref sp, st.label, st.front]) (fun st v => [.str t, .ref sp, .str v, st.front]) (fun st => [(sp, .strs st.outs)]) (fun i st => st.outs = ((Txt.split t (Str.ofString ".")).take i).map spellLabel) ⟨[], .unset, .unset⟩ hP (.split (.name .n0) .str (by decide +kernel) hts) (fun st v => .n2) (fun _ => rfl) rfl (fun i v st I o a lo hv hJ => ?_) (fun st hJ => ?_)⟩
  · have hvl := part_short (List.mem_of_getElem? hv)
    obtain ⟨outs, lb, fr⟩ := st
    dsimp only at hJ
    subst hJ
    have hol : (((Txt.split t (Str.ofString ".")).take i).map spellLabel).length ≤ 1000000 := by rw [List.length_map, List.length_take]; lia
    have h1 := Txt.slice_le v none (some 1)
    have h2 := Txt.slice_le v (some 1) none
    have h3 := len_lower (Txt.slice v none (some 1))
    have h4 := fact_upper (Txt.slice v none (some 1))
    have e1 : (Str.ofString "[").length = 1 := by decide +kernel
    have e2 : (Str.ofString "]").length = 1 := by decide +kernel
    have hz := sizeLine_eq
    have hvs : v.length ≤ sizeLine := by lia
    have hlo : (Txt.slice v none (some 1)).length ≤ 1000000 := by lia
    have hfin : ∀ f : Str, f = (if (Txt.lower (Txt.slice v none (some 1)) != Txt.upper (Txt.slice v none (some 1))) = true then Str.ofString "[" ++ Txt.lower (Txt.slice v none (some 1)) ++ Txt.upper (Txt.slice v none (some 1)) ++ Str.ofString "]" else Txt.slice v none (some 1)) →
        ((Txt.split t (Str.ofString ".")).take i).map spellLabel ++ [f ++ Txt.slice v (some 1) none] = ((Txt.split t (Str.ofString ".")).take (i + 1)).map spellLabel := fun f e => by
      rw [List.take_add_one, hv, List.map_append, e]; rfl
    refine .assign (.slice (.name .n2) .none (.some .int) hvs) .n3 (.ifte (.cmp (.meth0 sm_lower (.name .n3) (.lower hlo)) (.meth0 sm_upper (.name .n3) (.upper hlo)) .nes) (fun hb => .assign (.bin (.bin (.bin .str (.meth0 sm_lower (.name .n3) (.lower hlo)) (.adds (by lia))) (.meth0 sm_upper (.name .n3) (.upper hlo)) (.adds (by rw [app_length]; lia))) .str (.adds (by rw [app_length, app_length]; lia))) .n3 (.seq ?_)) (fun hb => .seq ?_))
    · exact .append (.name .n1) (.bin (.name .n3) (.slice (.name .n2) (.some .int) .none hvs) (.adds (by rw [app_length, app_length, app_length]; lia))) (.tail (.tail .head)) ⟨_, .inl rfl⟩ (.strs hol) (.fp ⟨_, .str v, .str _⟩ rfl rfl (hfin _ (if_pos hb).symm))
    · exact .append (.name .n1) (.bin (.name .n3) (.slice (.name .n2) (.some .int) .none hvs) (.adds (by lia))) (.tail (.tail .head)) ⟨_, .inl rfl⟩ (.strs hol) (.fp ⟨_, .str v, .str _⟩ rfl rfl (hfin _ (if_neg (by rw [hb]; decide)).symm))
  · obtain ⟨outs, lb, fr⟩ := st
    dsimp only at hJ
    rw [List.take_of_length_le (Nat.le_refl _)] at hJ
    subst hJ
    refine .ret hE (.meth1 sm_join .str (.cons (.name .n1) .nil) (.join (.head _) (.of (fun a ha => ?_) ?_) (by decide +kernel))) fun v h' hr _ => hr
    · obtain ⟨b, hb, rfl⟩ := List.mem_map.mp ha
      exact spell_le b (Nat.le_of_lt (hO.split hb).len)
    · rw [List.length_map]; lia
end
section
open PySem PySem.W PySem.Calls PyProof.Rows
theorem reps_vals : ∀ ys : List (Str × Tok), reps ((ys.map (·.1)).map .str) (strValues ys)
  | [] => trivial
  | _ :: r => ⟨⟨_, rfl⟩, reps_vals r⟩
noncomputable def compFI (env0 : Env) (cl : List (Str × Addr)) (sc sc' : Scope) (locs : List Str) (kf : sc'.kind = .function) (lk : locs.all (fun x => sc'.names.lookup x == some .local && !(x == Str.ofString "__debug__")) = true) (nd : locs.Nodup) (hr : relabel sc env0 = sc') (hg : env0.globals = mainGlobals) (hb : env0.builtins = builtinsNs) : FI :=
  { qual := Str.empty, scope := sc', f := 0, cd := .none, locals := locs, en := fun C => compEnvC sc cl C env0, kf := kf, lk := lk, nd := nd, hsc := fun _ => hr, hgl := fun _ => hg, hbu := fun _ => hb }
noncomputable def OkKeep (b : Bool) (s₃ : Shared) (ok : Bool) (s₄ : Shared) : Prop := ok = b ∧ Keeps s₃ s₄
noncomputable def ElKeep (tf : Value → Value → Prop) (v : Value) (s₃ : Shared) (y : Value) (s₄ : Shared) : Prop := tf v y ∧ Keeps s₃ s₄
theorem OkKeep.self {b ok : Bool} {s₃ : Shared} (e : ok = b) : OkKeep b s₃ ok s₃ := ⟨e, s₃.heap, s₃.toks, rfl, fun _ _ e => e⟩
noncomputable abbrev ifsRun (ifs : List PySem.Expr) (env : Env) : Sem Bool := forIn ifs true fun c r => if r = true then do let ok ← isTrue c env (eval c env); pure (ForInStep.yield ok) else pure (ForInStep.yield r)
theorem tests_one {M : Model} {A : Around} {env : Env} {s₃ : Shared} {E' : Value → Shared → Prop} {c : PySem.Expr} {b : Bool}
    (h : wpAny M A (isTrue c env (eval c env)) (OkKeep b s₃) E' s₃) : wpAny M A (ifsRun [c] env) (OkKeep b s₃) E' s₃ :=
  wpAny_bind (wpAny_bind (wpAny_mono h (fun ok s₄ q => wpAny_pure (wpAny_pure q)) fun _ _ e => e))
section
variable {F : FI} {N : Nat} {c : Cx F N} {ps : List PV} {W : Led} {Φ : Flow → Shared → Prop} {E : Value → Shared → Prop} {rest : List Stmt}
noncomputable def Ek (c : Cx F N) (ps : List PV) (e : PySem.Expr) (K : Value → Heap → Prop) : Prop :=
  ∀ (h : Heap) (tk : Nat) (Q E : Value → Shared → Prop), In c ps [] h → (∀ v h' tk', h.StaysIn h' → In c ps [] h' → K v h' → Q v (c.st h' tk')) → wpAny c.M c.A (eval e c.env) Q E (c.st h tk)
noncomputable def PV.k (p : PV) (v : Value) (_ : Heap) : Prop := p.rep v
noncomputable def lsK (l : List Str) (v : Value) (h : Heap) : Prop := ∃ a ys, v = .ref a ∧ h.IsList a (strValues ys).toArray ∧ ys.map (·.1) = l
theorem Ek.mono {e : PySem.Expr} {K K' : Value → Heap → Prop} (h : Ek c ps e K) (hk : ∀ v h, In c ps [] h → K v h → K' v h) : Ek c ps e K' := fun _ _ _ _ i hq => h _ _ _ _ i fun v h' tk' st i' k => hq v h' tk' st i' (hk v h' i' k)
theorem Ek.name {x : Str} {p : PV} {pos : Pos} (hx : At F.locals ps x p) (hp : p ≠ .unset := by nofun) : Ek c ps (.Name x pos) p.k := by
  intro h tk Q E i hq
  obtain ⟨m, news, hF, hN, hf, hl, nd⟩ := _root_.id i
  obtain ⟨v, hv, hr⟩ := frep_at hx hf hp
  exact Cx.nm hF hv (hq v h tk (fun _ _ e => e) i hr) hx.mem
theorem Ek.str {x : Str} {k : Nat} {pos : Pos} : Ek c ps (.Constant (.str x) k pos) (PV.str x).k := fun _ _ _ _ i hq => Constant_str (hq _ _ _ (fun _ _ e => e) i ⟨_, rfl⟩)
theorem Ek.adds {l r : PySem.Expr} {pos : Pos} {x y : Str} (h1 : Ek c ps l (PV.str x).k) (h2 : Ek c ps r (PV.str y).k) (hs : x.length + y.length ≤ sizeLine) : Ek c ps (.BinOp l .Add r pos) (PV.str (x ++ y)).k :=
  fun _ _ _ _ i hq => wpAny_BinOp (h1 _ _ _ _ i fun _ _ _ s1 i1 r1 => h2 _ _ _ _ i1 fun _ _ _ s2 i2 r2 => BinOk.adds hs _ _ _ _ _ _ _ r1 r2 fun _ _ r3 => hq _ _ _ (fun _ _ e => s2 _ _ (s1 _ _ e)) i2 r3)
theorem Ek.con {n : Nat} {f : Addr} {P : Heap → Prop} {R : Heap → Value → Heap → Prop} {x : Str} {px pos : Pos} {e : PySem.Expr} {y : Str} {K : Value → Heap → Prop} (g : GName x f) (hk : F.scope.names.lookup x = some .globalImplicit) (ha : Ek c ps e (PV.str y).k) (C : ∀ u, Con n f [.str y u] P R) (hn : n ≤ N)
    (hP : ∀ h, P h) (hR : ∀ h v h', R h v h' → K v h')
    (he : CallEq c (.Name x px) [e] pos := by exact rfl) (hst : starEach [e] c.env = (false, eval e c.env) :: starEach [] c.env := by rfl) : Ek c ps (.Call (.Name x px) [e] [] pos) K := by
  intro h tk Q E i hq
  obtain ⟨m, news, hF, hN, hf, hl, nd⟩ := _root_.id i
  refine Call_ (Cx.nmK hF (g.n _) ?_ hk g.d) he
  refine callWith_K c.X (g.k _) (args_cons (ha _ _ _ _ i fun v h' tk' s1 i' hr => args_nil ⟨?_, ?_⟩) hst) hst rfl
  · obtain ⟨_, _, hF', _⟩ := _root_.id i'
    exact c.X.keeps hF'.keep
  · obtain ⟨t, rfl⟩ := hr
    exact i'.call (C t) hn (hP _) fun v h2 tk2 i2 st r => hq _ _ _ (fun _ _ e => st _ _ (s1 _ _ e)) i2 (hR _ _ _ r)
theorem lsK.ofR {l : List Str} {h h' : Heap} {v : Value} (r : RList l h v h') : lsK l v h' := by
  obtain ⟨D, n, ys, rfl, _, ho, e⟩ := r
  exact ⟨D, ys, rfl, isList_of ho, e⟩
theorem Ek.join {pl : Sem Bool} {o e : PySem.Expr} {ap pos : Pos} {x : Str} {l : List Str} (h1 : Ek c ps o (PV.str x).k) (h2 : Ek c ps e (lsK l)) (hW : Light l) (hx : x.length ≤ 16) (he : McOk c o (Str.ofString "join") ap pos [e] pl := by exact rfl) (hst : starEach [e] c.env = (false, eval e c.env) :: starEach [] c.env := by rfl) :
    Ek c ps (.Call (.Attribute o (Str.ofString "join") ap) [e] [] pos) (PV.str (Txt.join x l)).k := by
  intro h tk Q E i hq
  refine MethodCall_ (h1 _ _ _ _ i fun v h' tk' s1 i1 r1 => ?_) he
  obtain ⟨t, rfl⟩ := r1
  refine GM.join (callWith_method1 (args_cons (h2 _ _ _ _ i1 fun u h2' tk2 s2 i2 r2 => args_nil ?_) hst) hst)
  obtain ⟨a, ys, rfl, hl, rfl⟩ := r2
  exact join_strs (s := c.st h2' tk2) hl hW hx fun t k => hq _ _ _ (fun _ _ e => s2 _ _ (s1 _ _ e)) i2 ⟨_, rfl⟩
noncomputable def Tk (c : Cx F N) (ps : List PV) (e : PySem.Expr) (b : Bool) : Prop :=
  ∀ (whole : Sem Value) (h : Heap) (tk : Nat) (Q : Bool → Shared → Prop) (E : Value → Shared → Prop), whole = eval e c.env → In c ps [] h → (∀ h' tk', h.StaysIn h' → In c ps [] h' → Q b (c.st h' tk')) → wpAny c.M c.A (PySem.isTrue e c.env whole) Q E (c.st h tk)
theorem Tk.cmp {l r : PySem.Expr} {op : CmpOp} {pos : Pos} {p q : PV} {b : Bool} (h1 : Ek c ps l p.k) (h2 : Ek c ps r q.k) (o : CmpOk op p q b) (hb : behindInMarks op r = false := by rfl) : Tk c ps (.Compare l [op] [r] pos) b :=
  fun _ _ _ _ _ _ i hq => wpAny_isTrue_Compare1 (h1 _ _ _ _ i fun _ _ _ s1 i1 r1 => h2 _ _ _ _ i1 fun _ _ _ s2 i2 r2 => o _ _ _ _ _ _ _ r1 r2 fun _ => wpAny_truthy_bool (hq _ _ (fun _ _ e => s2 _ _ (s1 _ _ e)) i2)) hb
noncomputable def Ts (c : Cx F N) (ps : List PV) (ifs : List PySem.Expr) (b : Bool) : Prop :=
  ∀ (h : Heap) (tk : Nat) (E : Value → Shared → Prop), In c ps [] h → wpAny c.M c.A (ifsRun ifs c.env) (OkKeep b (c.st h tk)) E (c.st h tk)
theorem Ts.nil : Ts c ps [] true := fun _ _ _ _ => wpAny_pure (OkKeep.self rfl)
theorem heap_next (h : Heap) : h.get? h.objs.size = Option.none := by
  cases e : h.get? h.objs.size with
  | none => rfl
  | some o => exact absurd (Heap.lt_size e) (Nat.lt_irrefl _)
theorem none_of {h h' : Heap} {D : Addr} (k : h.StaysIn h') (e : h'.get? D = Option.none) : h.get? D = Option.none := by
  cases q : h.get? D with
  | none => rfl
  | some o => rw [k _ _ q] at e; cases e
theorem ne_none {h : Heap} {a D : Addr} {o : Obj} (h1 : h.get? a = some o) (h2 : h.get? D = Option.none) : a ≠ D := by
  rintro rfl
  rw [h1] at h2
  cases h2
theorem ns_ne {h : Heap} {a D : Addr} {m : Str → Option Value} (hn : h.Ns a m) (hD : h.get? D = Option.none) : D ≠ a := by
  rintro rfl
  obtain ⟨o, _, _, ho, _⟩ := hn
  rw [hD] at ho
  cases ho
theorem eq_of_at {vs' vs : List Value} (hl : vs'.length = vs.length) (h : ∀ (j : Nat) v, vs'[j]? = some v → vs[j]? = some v) : vs' = vs := by
  apply List.ext_getElem?
  intro j
  cases e : vs'[j]? with
  | none => exact (List.getElem?_eq_none (hl ▸ List.getElem?_eq_none_iff.mp e)).symm
  | some v => exact (h j v e).symm
theorem push_lt {h : Heap} {l : Addr} {o : Obj} (hl : l < h.objs.size) : ∀ b ∈ [h.objs.size, l], b < (h.push o).objs.size := by
  intro b hb
  rw [Heap.size_push]
  rcases List.mem_cons.mp hb with e | hb
  · exact e ▸ Nat.lt_succ_self _
  · exact (List.mem_singleton.mp hb) ▸ Nat.lt_succ_of_lt hl
theorem hide_st {h : Heap} {o : Obj} : h.StaysIn (hideAll (h.push o) [h.objs.size]) := fun b o' e => hideAll_get _ (Heap.get?_push_of_some _ e) (fun hb => ne_none e (heap_next h) (List.mem_singleton.mp hb))
theorem hide_fr {h : Heap} {o : Obj} {C : Addr} {h₃ : Heap} {m₃ : Str → Option Value} (hC : (h.push o).objs.size ≤ C) (hn : h₃.Ns C m₃) (hk : ∀ b o', b ∉ [h.objs.size] → (h.push o).get? b = some o' → h₃.get? b = some o') : Fr (hideAll (h.push o) [h.objs.size]) C h₃ m₃ :=
  ⟨hn, fun b o' hb => hk b o' (fun hm => by rw [hideAll_none _ hm] at hb; cases hb) (of_hideAll _ hb), by rw [hideAll_size]; exact hC⟩
theorem new_led {h₀ h h' : Heap} {L D : Addr} {m m' : Str → Option Value} {news : List (Addr × Obj)} {o : Obj} (F : Fr h₀ L h m) (N : News h₀ L h news) (st : ∀ b o, b ≠ L → h.get? b = some o → h'.get? b = some o) (hn : h'.Ns L m') (hD : h.get? D = Option.none) (ho : h'.get? D = some o) : Fr h₀ L h' m' ∧ News h₀ L h' ((D, o) :: news) ∧ ∀ q ∈ news, q.1 ≠ D :=
  ⟨⟨hn, fun b o e => st b o (Nat.ne_of_lt (Nat.lt_of_lt_of_le (Heap.lt_size e) F.above)) (F.keep b o e), F.above⟩, fun q hq => by
    rcases List.mem_cons.mp hq with rfl | hq
    · exact ⟨ho, ns_ne F.ns hD, none_of F.keep hD⟩
    · exact ⟨st _ _ (N q hq).2.1 (N q hq).1, (N q hq).2⟩, fun q hq => ne_none (N q hq).1 hD⟩
noncomputable def StrV (fV : Value → Str) (v y : Value) : Prop := ∃ t, y = .str (fV v) t
theorem strV_list {fV : Value → Str} : ∀ {l zs : List Value}, Paired (StrV fV) l zs → ∃ l' : List (Str × Tok), zs = strValues l' ∧ l'.map (·.1) = l.map fV
  := by
  intro l zs h
  induction h with
  | nil => exact ⟨[], rfl, rfl⟩
  | @cons v _ _ _ h _ ih =>
    obtain ⟨t1, rfl⟩ := h
    obtain ⟨l', rfl, e⟩ := ih
    exact ⟨(fV v, t1) :: l', rfl, by rw [List.map_cons, e]; rfl⟩
theorem strV_arr {fV : Value → Str} {l : List Value} {ys : Array Value} (h : Paired (StrV fV) l ys.toList) : ∃ l' : List (Str × Tok), ys = (strValues l').toArray ∧ l'.map (·.1) = l.map fV := by
  obtain ⟨l', e1, e2⟩ := strV_list h
  exact ⟨l', by rw [← e1, Array.toArray_toList], e2⟩
theorem reps_mem : ∀ {qs : List PV} {vs : List Value} {v : Value}, reps qs vs → v ∈ vs → ∃ u ∈ qs, u.rep v
  | q :: _, _ :: _, v, h, hv => by
    rcases List.mem_cons.mp hv with rfl | hv
    · exact ⟨q, .head _, h.1⟩
    · obtain ⟨u, h1, h2⟩ := reps_mem h.2 hv
      exact ⟨u, .tail _ h1, h2⟩
  | [], [], _, _, hv => nomatch hv
  | [], _ :: _, _, h, _ => h.elim
  | _ :: _, [], _, h, _ => h.elim
noncomputable def Cx.sub {Fc : FI} (c : Cx F N) (g : Heap) (C : Addr) (s : Shared) (X : (Mine.hd.heap_39 c.w.params).In g) (T : Top c.p c.loose c.mean c.mg c.mb g) : Cx Fc N :=
  { w := c.w, p := c.p, loose := c.loose, mean := c.mean, mg := c.mg, mb := c.mb, A := c.A, h₀ := g, L := C, s := s, X := X, T := T, hh := c.hh, hd := c.hd, hu := c.hu }
section
variable {sc : Scope} {cl : List (Str × Addr)} {x y : Str} {ifs : List PySem.Expr} {elt iter : PySem.Expr} {gs : List Comprehension} {Fc : FI} {qs : List PV} {out : List Str} {qV : Value → Bool} {fV : Value → Str} {px pos py spos : Pos} {h : Heap} {Pv : Value → Prop} {tp : Value → Bool} {s : Shared}
structure ScOk (env : Env) (sc : Scope) (cl : List (Str × Addr)) (x : Str) (iter : PySem.Expr) : Prop where
  hclos : closureFor sc env = pure cl
  hcell : ∀ y ∈ sc.names, y.2 ≠ .cell
  hkind : sc.kind = .function
  hnames : ∀ y ∈ sc.names, y.2 = .local → sc.names.lookup y.1 = some .local
  hx : sc.names.lookup x = some .local
  hs : ∀ z, foldedSetIterable iter env z = pure z
theorem sub_in {g : Heap} {C : Addr} {s₃ : Shared} {m₃ : Str → Option Value} {u : PV} {v : Value} {X : (Mine.hd.heap_39 c.w.params).In g} {T : Top c.p c.loose c.mean c.mg c.mb g} (hlo : Fc.locals = [x]) (hen : ∀ C, Fc.en C = compEnvC sc cl C c.env) (F' : Fr g C s₃.heap m₃) (hx : m₃ x = some v) (hr : u.rep v) : In (Cx.sub (Fc := Fc) c g C s₃ X T) [u] [] s₃.heap := by
  have e : (Cx.sub (Fc := Fc) c g C s₃ X T).env.locals = C := by
    show (Fc.en C).locals = C
    rw [hen]; rfl
  have hf : frep Fc.locals [u] m₃ := by
    rw [hlo]
    refine ⟨?_, trivial⟩
    split
    · exact hr.elim
    · exact ⟨v, hx, hr⟩
  exact ⟨_, [], by rw [e]; exact F', News.nil, hf, trivial, List.nodup_nil⟩
structure CEl (c : Cx F N) (h : Heap) (sc : Scope) (cl : List (Str × Addr)) (x : Str) (ifs : List PySem.Expr) (elt : PySem.Expr) (Fc : FI) (Pv : Value → Prop) (tp : Value → Bool) (KE : Value → Shared → Value → Shared → Prop) : Prop where
  hen : ∀ C, Fc.en C = compEnvC sc cl C c.env
  hlo : Fc.locals = [x]
  both : ∀ (c' : Cx Fc N) (v : Value), Pv v → h.StaysIn c'.h₀ → ∃ u : PV, u.rep v ∧ Ts c' [u] ifs (tp v) ∧ (tp v = true → ∀ (h : Heap) (tk : Nat) (E : Value → Shared → Prop), In c' [u] [] h → wpAny c'.M c'.A (eval elt c'.env) (KE v (c'.st h tk)) E (c'.st h tk))
theorem CEl.go {KE : Value → Shared → Value → Shared → Prop} (k : CEl c h sc cl x ifs elt Fc Pv tp KE) (i : c.h₀.StaysIn h) {o : Obj} {C : Addr} {s₃ : Shared} {m₃ : Str → Option Value} {v : Value} (hv : Pv v) (hC : (h.push o).objs.size ≤ C) (hn : s₃.heap.Ns C m₃) (hx : m₃ x = some v) (hk : ∀ b o', b ∉ [h.objs.size] → (h.push o).get? b = some o' → s₃.heap.get? b = some o') :
    (∀ E', wpAny c.M c.A (ifsRun ifs (compEnvC sc cl C c.env)) (OkKeep (tp v) s₃) E' s₃) ∧ (tp v = true → ∀ E', wpAny c.M c.A (eval elt (compEnvC sc cl C c.env)) (KE v s₃) E' s₃) := by
  have st := hide_st (h := h) (o := o)
  have st0 : c.h₀.StaysIn (hideAll (h.push o) [h.objs.size]) := fun b o' e => st b o' (i b o' e)
  have F' := hide_fr hC hn hk
  obtain ⟨u, hu, ht, he⟩ := k.both (Cx.sub c _ C s₃ (c.X.keeps st0) (c.T.keeps st0)) v hv st
  have j := sub_in (X := c.X.keeps st0) (T := c.T.keeps st0) k.hlo k.hen F' hx hu
  have e : (Cx.sub (Fc := Fc) c _ C s₃ (c.X.keeps st0) (c.T.keeps st0)).env = compEnvC sc cl C c.env := k.hen C
  unfold Ts at ht
  rw [e] at ht he
  exact ⟨fun E' => ht _ s₃.toks E' j, fun hp E' => he hp _ s₃.toks E' j⟩
structure CWalk (c : Cx F N) (h : Heap) (o : Obj) (fp : List Addr) (n : Nat) (P : Nat → Value → Prop) (St : Nat → Heap → Prop) : Prop where
  W : Walks PySem.Challenge.pw_in0083_01 c.w c.A h.objs.size fp [h.objs.size] n P St
  hst : St 0 (h.push o)
  hfp : ∀ b ∈ fp, b < (h.push o).objs.size
  hsz : n ≤ sizeLine
noncomputable def CRest (c : Cx F N) (use : Option (Value → Sem Unit)) (elt : PySem.Expr) (gs : List Comprehension) (sc : Scope) (cl : List (Str × Addr)) (pos : Pos) (Q : Value → Shared → Prop) (E : Value → Shared → Prop) (it : Value) (s₂ : Shared) : Prop :=
  wpAny c.M c.A (newList []) (fun acc s₃ => wpAny c.M c.A (newFunctionEnv sc c.env.globals cl [] c.env.qual Option.none .none (some c.env)) (fun cenv s₄ =>
    codeAny c.M c.A (.compStart (.ListComp elt gs sc pos) 0 it acc { cenv with scope := relabel sc c.env }) (compPost c.M c.A E use Q acc cenv.locals) s₄) E s₃) E s₂
theorem lc_post {Q E : Value → Shared → Prop} (k : ScOk c.env sc cl x iter) (h : wpAny c.M c.A (eval iter c.env) (fun xv s₁ => wpAny c.M c.A (pyIter xv) (CRest c Option.none elt (⟨.Name x px, iter, ifs, 0⟩ :: gs) sc cl pos Q E) E s₁) E s) :
    wpAny c.M c.A (eval (.ListComp elt (⟨.Name x px, iter, ifs, 0⟩ :: gs) sc pos) c.env) Q E s := by
  rw [eval_ListComp]
  exact wpAny_comprehension_free (use := Option.none) rfl k.hs k.hclos k.hkind k.hnames h
theorem la_post {Q : Flow → Shared → Prop} (k : ScOk c.env sc cl x iter) (hsw : swapsWith (.ListComp elt [⟨.Name x px, iter, ifs, 0⟩] sc pos) (some (.Name y py)) spos.line c.env = pure true)
    (h : wpAny c.M c.A (eval iter c.env) (fun xv s₁ => wpAny c.M c.A (pyIter xv) (CRest c (some (PySem.assign (.Name y py) c.env)) elt [⟨.Name x px, iter, ifs, 0⟩] sc cl pos (fun _ s' => Q .next s') E) E s₁) E s) :
    wpAny c.M c.A (exec (.Assign [.Name y py] (.ListComp elt [⟨.Name x px, iter, ifs, 0⟩] sc pos) spos) c.env) Q E s := by
  rw [exec_Assign_Name_used _ _ _ _ hsw]
  refine wpAny_bind (wpAny_standAt (wpAny_bind ?_))
  show wpAny _ c.A (do let _ ← comprehension (.ListComp elt [⟨.Name x px, iter, ifs, 0⟩] sc pos) sc c.env _ (newList []) false (eval iter c.env) (some (PySem.assign (.Name y py) c.env))) _ _ s
  exact wpAny_bind (wpAny_mono (wpAny_comprehension_free (use := some (PySem.assign (.Name y py) c.env)) (Q := fun _ s' => Q .next s') rfl k.hs k.hclos k.hkind k.hnames h) (fun _ s' hq => wpAny_pure (wpAny_pure hq)) fun _ _ e => e)
theorem store_y {D C : Addr} {h' : Heap} {tk : Nat} {m m' : Str → Option Value} {Q : Shared → Prop} (hy : y ∈ F.locals) (hn : h'.Ns c.env.locals m) (hC : C ≠ c.env.locals) (hnC : h'.Ns C m')
    (k : ∀ h₃ tk', h₃.Ns c.env.locals (fun z => if z = y then some (.ref D) else m z) → (∀ b o, b ≠ c.env.locals → b ≠ C → h'.get? b = some o → h₃.get? b = some o) → Q (c.st h₃ tk')) :
    compPost c.M c.A E (some (PySem.assign (.Name y py) c.env)) (fun _ s' => Q s') (.ref D) C (.ok .next) (c.st h' tk) := by
  show wpAny _ c.A (PySem.assign (.Name y py) c.env (.ref D)) _ _ _
  refine wpAny_assign_Name (wpAny_storeName_local (c.kl hy) hn (fun h₂ hn₂ hs₂ => ?_) c.nocls)
  exact ⟨m', hnC.sameBut hs₂ hC, fun h₃ hs₃ => k h₃ _ (hn₂.sameBut hs₃ (Ne.symm hC)) fun b o h1 h2 e => hs₃.extBut b o h2 (hs₂.extBut b o h1 e)⟩
section
variable {o : Obj} {fp : List Addr} {n tk : Nat} {P : Nat → Value → Prop} {St : Nat → Heap → Prop} {tf : Value → Value → Prop} {m : Str → Option Value} {news : List (Addr × Obj)}
theorem push_stays : h.StaysIn (h.push o) := fun _ _ e => Heap.get?_push_of_some _ e
theorem CEl.quiet (k : CEl c h sc cl x ifs elt Fc Pv tp (ElKeep tf)) (i : c.h₀.StaysIn h) (hPv : ∀ j v, P j v → Pv v) : QuietOnC PySem.Challenge.pw_in0083_01 c.w c.A c.env sc cl x ifs elt [h.objs.size] P tp tf (c.st (h.push o) tk) :=
  ⟨fun _ _ _ _ _ E' hC hP hn hx hk _ => (k.go i (hPv _ _ hP) hC hn hx hk).1 E', fun _ _ _ _ _ E' hC hP hp hn hx hk _ => (k.go i (hPv _ _ hP) hC hn hx hk).2 hp E'⟩
theorem of_push {h' : Heap} (hk : ∀ b o', b ∉ [h.objs.size] → (h.push o).get? b = some o' → h'.get? b = some o') : h.StaysIn h' := fun b o' e => hk b o' (fun hb => ne_none e (heap_next h) (List.mem_singleton.mp hb)) (Heap.get?_push_of_some _ e)
theorem crest {Q : Value → Shared → Prop} (k : CEl c h sc cl x ifs elt Fc Pv tp (ElKeep tf)) (w : CWalk c h o fp n P St) (hPv : ∀ j v, P j v → Pv v) (s : ScOk c.env sc cl x iter) (F₁ : Fr c.h₀ c.env.locals h m) (N₁ : News c.h₀ c.env.locals h news)
    (done : ∀ D n' h' tk' ys (vs : List Value), Fr c.h₀ c.env.locals h' m → News c.h₀ c.env.locals h' ((D, { cls := .type "list", data := .seq ys n' }) :: news) → (∀ q ∈ news, q.1 ≠ D) → h.StaysIn h' → h.get? D = Option.none → vs.length = n → (∀ j v, vs[j]? = some v → P j v) → Paired tf (vs.filter tp) ys.toList → Q (.ref D) (c.st h' tk')) :
    CRest c Option.none elt [⟨.Name x px, iter, ifs, 0⟩] sc cl pos Q E (.ref h.objs.size) (c.st (h.push o) tk) := by
  refine comp_block_walkC (RR := fun acc C => compPost c.M c.A E Option.none Q acc C) w.W w.hsz tp tf s.hcell s.hkind s.hx w.hst w.hfp (k.quiet F₁.keep hPv) ?_
  intro D C h' tk' m' ys vs hD hC hDC hn hl ⟨n', hpl⟩ hlen hP hF hk
  have hDs := none_of push_stays hD
  have st := of_push hk
  refine ⟨m', hn, fun h'' hs => ?_⟩
  have st2 : h.StaysIn h'' := fun b o e => hs.extBut b o (ne_none e (none_of push_stays hC)) (st b o e)
  obtain ⟨F2, N2, hne⟩ := new_led F₁ N₁ (fun b o _ e => st2 b o e) (F₁.ns.keeps st2) hDs (hs.extBut _ _ hDC hpl)
  exact done D n' h'' tk' ys vs F2 N2 hne st2 hDs hlen hP hF
theorem crestA {Q : Shared → Prop} (k : CEl c h sc cl x ifs elt Fc Pv tp (ElKeep tf)) (w : CWalk c h o fp n P St) (hPv : ∀ j v, P j v → Pv v) (s : ScOk c.env sc cl x iter) (hy : y ∈ F.locals) (F₁ : Fr c.h₀ c.env.locals h m) (N₁ : News c.h₀ c.env.locals h news)
    (done : ∀ D n' h' tk' ys (vs : List Value), Fr c.h₀ c.env.locals h' (fun z => if z = y then some (.ref D) else m z) → News c.h₀ c.env.locals h' ((D, { cls := .type "list", data := .seq ys n' }) :: news) → (∀ q ∈ news, q.1 ≠ D) → vs.length = n → (∀ j v, vs[j]? = some v → P j v) → Paired tf (vs.filter tp) ys.toList → Q (c.st h' tk')) :
    CRest c (some (PySem.assign (.Name y py) c.env)) elt [⟨.Name x px, iter, ifs, 0⟩] sc cl pos (fun _ s' => Q s') E (.ref h.objs.size) (c.st (h.push o) tk) := by
  refine comp_block_walkC (RR := fun acc C => compPost c.M c.A E (some (PySem.assign (.Name y py) c.env)) (fun _ s' => Q s') acc C) w.W w.hsz tp tf s.hcell s.hkind s.hx w.hst w.hfp (k.quiet F₁.keep hPv) ?_
  intro D C h' tk' m' ys vs hD hC hDC hn hl ⟨n', hpl⟩ hlen hP hF hk
  have hDs := none_of push_stays hD
  have hCs := none_of push_stays hC
  have st := of_push hk
  refine store_y hy (F₁.ns.keeps st) (ns_ne F₁.ns hCs) hn fun h₃ tk₃ n₃ e₃ => ?_
  obtain ⟨F2, N2, hne⟩ := new_led F₁ N₁ (fun b o hb e => e₃ b o hb (ne_none e hCs) (st b o e)) n₃ hDs (e₃ _ _ (ns_ne F₁.ns hDs) hDC hpl)
  exact done D n' h₃ tk₃ ys vs F2 N2 hne hlen hP hF
theorem CWalk.list {l : Addr} {vs : List Value} (hl : h.IsList l vs.toArray) (hn : vs.length ≤ 1000) : CWalk c h { cls := .type "list_iterator", data := .fields #[.ref l, .int 0 0] } [h.objs.size, l] vs.length (fun i v => vs.toArray[i]? = some v) (fun i h' => h'.IsListIter h.objs.size l i ∧ h'.IsList l vs.toArray) := by
  obtain ⟨ol, hol, _⟩ := id hl
  have hlt : l < h.objs.size := Heap.lt_size hol
  have W := Walks.list (prog := PySem.Challenge.pw_in0083_01) (w := c.w) c.hh h.objs.size l (Nat.ne_of_lt hlt) vs.toArray
  rw [List.size_toArray] at W
  exact ⟨W, ⟨⟨_, Heap.get?_push_size _ rfl, rfl, rfl⟩, hl.at fun o e => Heap.get?_push_of_some _ e⟩, push_lt hlt, by rw [sizeLine_eq]; exact Nat.le_trans hn (by decide)⟩
end
structure CompOk (c : Cx F N) (W : Led) (sc : Scope) (cl : List (Str × Addr)) (x : Str) (ifs : List PySem.Expr) (elt : PySem.Expr) (Fc : FI) (qs : List PV) (out : List Str) (qV : Value → Bool) (fV : Value → Str) : Prop where
  hen : ∀ C, Fc.en C = compEnvC sc cl C c.env
  hlo : Fc.locals = [x]
  hres : ∀ vs, reps qs vs → (vs.filter qV).map fV = out
  tests : ∀ (c' : Cx Fc N) (u : PV) (v : Value), u ∈ qs → u.rep v → (∀ a o, (a, o) ∈ W → ∃ ob, c'.h₀.get? a = some ob ∧ o.rep ob) → Ts c' [u] ifs (qV v)
  elts : ∀ (c' : Cx Fc N) (u : PV) (v : Value), u ∈ qs → u.rep v → qV v = true → (∀ a o, (a, o) ∈ W → ∃ ob, c'.h₀.get? a = some ob ∧ o.rep ob) → Ek c' [u] elt (PV.str (fV v)).k
noncomputable def strOf : Value → Str
  | .str b _ => b
  | _ => Str.empty
theorem strOf_filter {q : Str → Bool} {ys : List (Str × Tok)} : ((strValues ys).filter (isS q)).map strOf = (ys.map (·.1)).filter q := by
  rw [strs_filter, ← map_filter_fst]
  unfold strValues
  rw [List.map_map]
  rfl
theorem Ek.keep {u : PV} {v : Value} (k : Ek c [u] elt (PV.str (fV v)).k) (h : Heap) (tk : Nat) (E : Value → Shared → Prop) (i : In c [u] [] h) : wpAny c.M c.A (eval elt c.env) (ElKeep (StrV fV) v (c.st h tk)) E (c.st h tk) :=
  k h tk _ E i fun _ h' tk' s1 _ r => ⟨r, h', tk', rfl, s1⟩
theorem CompOk.el (k : CompOk c W sc cl x ifs elt Fc qs out qV fV) {h : Heap} {vs : List Value} (i : In c ps W h) (hr : reps qs vs) : CEl c h sc cl x ifs elt Fc (· ∈ vs) qV (ElKeep (StrV fV)) :=
  ⟨k.hen, k.hlo, fun c' v hv st => by
    obtain ⟨u, hu, hur⟩ := reps_mem hr hv
    have hW : ∀ a o, (a, o) ∈ W → ∃ ob, c'.h₀.get? a = some ob ∧ o.rep ob := fun a o ho => by
      obtain ⟨ob, h1, h2⟩ := i.get ho
      exact ⟨ob, st _ _ h1, h2⟩
    exact ⟨u, hur, k.tests c' u v hu hur hW, fun hq => (k.elts c' u v hu hur hq hW).keep⟩⟩
noncomputable def CSrc (c : Cx F N) (sc : Scope) (cl : List (Str × Addr)) (x : Str) (ifs : List PySem.Expr) (elt : PySem.Expr) (p : PV) (W : Led) (out : List Str) : Prop :=
  ∃ (a : Addr) (o : AO) (qs : List PV) (qV : Value → Bool) (fV : Value → Str) (Fc : FI), p = .ref a ∧ (a, o) ∈ W ∧ (∀ ob, o.rep ob → (AO.list qs).rep ob) ∧ qs.length ≤ 1000 ∧ CompOk c W sc cl x ifs elt Fc qs out qV fV
theorem CSrc.strs {q : Str → Bool} {f : Str → Str} {l : List Str} {a : Addr} (hm : (a, AO.strs l) ∈ W) (hn : l.length ≤ 1000) (hen : ∀ C, Fc.en C = compEnvC sc cl C c.env) (hlo : Fc.locals = [x])
    (tests : ∀ (c' : Cx Fc N) (b : Str), b ∈ l → (∀ a o, (a, o) ∈ W → ∃ ob, c'.h₀.get? a = some ob ∧ o.rep ob) → Ts c' [.str b] ifs (q b))
    (elts : ∀ (c' : Cx Fc N) (b : Str), b ∈ l → q b = true → (∀ a o, (a, o) ∈ W → ∃ ob, c'.h₀.get? a = some ob ∧ o.rep ob) → Ek c' [.str b] elt (PV.str (f b)).k) : CSrc c sc cl x ifs elt (.ref a) W ((l.filter q).map f) := by
  refine ⟨a, _, l.map .str, isS q, fun v => match v with | .str b _ => f b | _ => Str.empty, Fc, rfl, hm, fun ob ho => ?_, by rw [List.length_map]; exact hn, hen, hlo, fun vs hv => ?_, fun c' u v hu hr hb => ?_, fun c' u v hu hr hq hb => ?_⟩
  · obtain ⟨ys, n, rfl, rfl⟩ := ho
    exact ⟨strValues ys, n, rfl, reps_vals ys⟩
  · obtain ⟨ys, rfl, rfl⟩ := reps_strs hv
    rw [strs_filter, ← map_filter_fst]
    unfold strValues
    rw [List.map_map, List.map_map]
    rfl
  · obtain ⟨b, h1, rfl⟩ := List.mem_map.mp hu
    obtain ⟨t, rfl⟩ := hr
    exact tests c' b h1 hb
  · obtain ⟨b, h1, rfl⟩ := List.mem_map.mp hu
    obtain ⟨t, rfl⟩ := hr
    exact elts c' b h1 hq hb
theorem CSrc.map {f : Str → Str} {l : List Str} {a : Addr} (hm : (a, AO.strs l) ∈ W) (hn : l.length ≤ 1000) (hen : ∀ C, Fc.en C = compEnvC sc cl C c.env) (hlo : Fc.locals = [x])
    (elts : ∀ (c' : Cx Fc N) (b : Str), b ∈ l → (∀ a o, (a, o) ∈ W → ∃ ob, c'.h₀.get? a = some ob ∧ o.rep ob) → Ek c' [.str b] elt (PV.str (f b)).k) : CSrc c sc cl x [] elt (.ref a) W (l.map f) := by
  have := CSrc.strs (q := fun _ => true) (ifs := []) hm hn hen hlo (fun c' b _ _ => Ts.nil) (fun c' b h _ hb => elts c' b h hb)
  rwa [List.filter_eq_self.mpr (fun _ _ => rfl)] at this
theorem CSrc.filter {q : Str → Bool} {l : List Str} {a : Addr} (hm : (a, AO.strs l) ∈ W) (hn : l.length ≤ 1000) (hen : ∀ C, Fc.en C = compEnvC sc cl C c.env) (hlo : Fc.locals = [x])
    (tests : ∀ (c' : Cx Fc N) (b : Str), b ∈ l → (∀ a o, (a, o) ∈ W → ∃ ob, c'.h₀.get? a = some ob ∧ o.rep ob) → Ts c' [.str b] ifs (q b))
    (elts : ∀ (c' : Cx Fc N) (b : Str), b ∈ l → q b = true → (∀ a o, (a, o) ∈ W → ∃ ob, c'.h₀.get? a = some ob ∧ o.rep ob) → Ek c' [.str b] elt (PV.str b).k) : CSrc c sc cl x ifs elt (.ref a) W (l.filter q) := by
  have := CSrc.strs (f := id) hm hn hen hlo tests elts
  rwa [List.map_id] at this
theorem En.lcomp {K : PV → Led → Prop} (s : ScOk c.env sc cl x iter) (hi : En c ps W iter K) (k : ∀ p W', K p W' → (W'.map (·.1)).Nodup → CSrc c sc cl x ifs elt p W' out) :
    En c ps W (.ListComp elt [⟨.Name x px, iter, ifs, 0⟩] sc pos) (fun p W'' => ∃ p0 W' D, K p0 W' ∧ p = .ref D ∧ W'' = (D, .strs out) :: W') := by
  intro h tk Q E i hq
  refine lc_post s (hi _ _ _ _ i fun p W' v h' tk' hk hr i' => ?_)
  obtain ⟨m, news, hF, hN, hf, hl, nd⟩ := _root_.id i'
  obtain ⟨a, o, qs, qV, fV, Fc, rfl, hm, ho, hn, k⟩ := k p W' hk nd
  cases hr
  obtain ⟨ob, g1, g2⟩ := i'.get hm
  obtain ⟨vs, n, rfl, hvs⟩ := ho ob g2
  have hls : h'.IsList a vs.toArray := ⟨_, g1, rfl, n, rfl⟩
  refine wpAny_pyIter_list (s := c.st h' tk') hls (crest (k.el i' hvs) (CWalk.list hls (by rw [reps_len hvs]; exact hn)) (fun j v hv => List.mem_of_getElem? (i := j) (by simpa using hv)) s hF hN fun D n' h2 tk2 ys vs' F2 N2 hne _ _ hlen hP hp => ?_)
  obtain rfl := eq_of_at hlen fun j v e => by simpa using hP j v e
  obtain ⟨l', rfl, e⟩ := strV_arr hp
  rw [k.hres vs' hvs] at e
  exact hq _ _ _ _ _ ⟨_, _, D, hk, rfl, rfl⟩ rfl (In.fresh F2 N2 hf hl nd ⟨l', n', rfl, e⟩ hne)
theorem Sx.assignC {y : Str} {K : PV → Led → Prop} {ps' : Addr → List PV} (s : ScOk c.env sc cl x iter) (hi : En c ps W iter K) (hset : ∀ D, SetAt F.locals ps y (.ref D) (ps' D)) (k : ∀ p W', K p W' → (W'.map (·.1)).Nodup → ∃ out, CSrc c sc cl x ifs elt p W' out ∧ ∀ D, Sx c (ps' D) ((D, .strs out) :: W') rest Φ E)
    (hsw : swapsWith (.ListComp elt [⟨.Name x px, iter, ifs, 0⟩] sc pos) (some (.Name y py)) spos.line c.env = pure true := by rfl) : Sx c ps W (.Assign [.Name y py] (.ListComp elt [⟨.Name x px, iter, ifs, 0⟩] sc pos) spos :: rest) Φ E := by
  refine ⟨fun h tk i => ?_⟩
  refine wpAny_execs_cons (la_post s hsw (hi _ _ _ _ i fun p W' v h' tk' hk hr i' => ?_))
  obtain ⟨m, news, hF, hN, hf, hl, nd⟩ := _root_.id i'
  obtain ⟨out, ⟨a, o, qs, qV, fV, Fc, rfl, hm, ho, hn, k⟩, kk⟩ := k p W' hk nd
  cases hr
  obtain ⟨ob, g1, g2⟩ := i'.get hm
  obtain ⟨vs, n, rfl, hvs⟩ := ho ob g2
  have hls : h'.IsList a vs.toArray := ⟨_, g1, rfl, n, rfl⟩
  refine wpAny_pyIter_list (s := c.st h' tk') hls (crestA (k.el i' hvs) (CWalk.list hls (by rw [reps_len hvs]; exact hn)) (fun j v hv => List.mem_of_getElem? (i := j) (by simpa using hv)) s (hset 0).mem hF hN fun D n' h2 tk2 ys vs' F2 N2 hne hlen hP hp => ?_)
  obtain rfl := eq_of_at hlen fun j v e => by simpa using hP j v e
  obtain ⟨l', rfl, e⟩ := strV_arr hp
  rw [k.hres vs' hvs] at e
  exact (kk D).run _ _ (In.fresh F2 N2 (frep_set (hset D) F.nd hf rfl) hl nd ⟨l', n', rfl, e⟩ hne)
end
end
end
section
open PySem PySem.W PySem.Calls PyProof.Rows
noncomputable def lcp : List Str → List Str → Nat
  | a :: r, b :: q => if a == b then lcp r q + 1 else 0
  | _, _ => 0
theorem lcp_lt : ∀ (s1 s2 : List Str) (k : Nat) (a b : Str), k ≤ lcp s1 s2 → s1[k]? = some a → s2[k]? = some b → ((a == b) = true ↔ k < lcp s1 s2)
  | [], _, _, _, _, _, h1, _ => by simp at h1
  | _ :: _, [], _, _, _, _, _, h2 => by simp at h2
  | x :: r, y :: q, 0, a, b, _, h1, h2 => by
    simp at h1 h2
    subst h1 h2
    unfold lcp
    split <;> simp_all
  | x :: r, y :: q, k + 1, a, b, hk, h1, h2 => by
    unfold lcp at hk ⊢
    split at hk
    · rename_i e
      rw [if_pos e]
      have := lcp_lt r q k a b (by lia) (by simpa using h1) (by simpa using h2)
      rw [this]; lia
    · lia
theorem lcp_le1 : ∀ (s1 s2 : List Str), lcp s1 s2 ≤ s1.length
  | [], _ => by simp [lcp]
  | _ :: _, [] => by simp [lcp]
  | x :: r, y :: q => by
    unfold lcp
    have := lcp_le1 r q
    split <;> simp <;> lia
theorem lcp_le2 : ∀ (s1 s2 : List Str), lcp s1 s2 ≤ s2.length
  | [], _ => by simp [lcp]
  | _ :: _, [] => by simp [lcp]
  | x :: r, y :: q => by
    unfold lcp
    have := lcp_le2 r q
    split <;> simp <;> lia
noncomputable def lawShared (s1 s2 : List Str) : Str := Str.ofString "/" ++ Txt.join (Str.ofString "/") (s1.take (lcp s1 s2))
theorem pick_upto (vs : List Value) {y : Int} (h : 0 ≤ y) : slicePick vs.toArray none (some y) none = (vs.take y.toNat).toArray := by
  have e : sliceBounds none (some y) none vs.toArray.size = (((0 : Nat) : Int), ((min y.toNat vs.toArray.size : Nat) : Int), 1) := by
    simp only [sliceBounds, Option.getD_none, show (1 : Int) > 0 by decide, if_true, if_neg (Int.not_lt.mpr h)]
    congr 1
    congr 1
    obtain ⟨a, rfl⟩ := Int.eq_ofNat_of_zero_le h
    exact clipN a _
  rw [kmk_pick_nat _ e]
  show ((vs.drop 0).take (min y.toNat vs.toArray.size - 0)).toArray = _
  rw [List.drop_zero, Nat.sub_zero, List.size_toArray, kmk_take_min]
theorem Ea.uptoS {F : FI} {N : Nat} {c : Cx F N} {ps : List PV} {W : Led} {v e : PySem.Expr} {p pos : Pos} {a : Addr} {y : Int} {ys : List (Str × Tok)} (h1 : Ep c ps W v (.ref a)) (h2 : Ep c ps W e (.int y)) (hb : c.h₀.IsList a (strValues ys).toArray) (hy : 0 ≤ y) (hn : ys.length ≤ 1000000)
    (hs : ∀ d, subscripted (.Slice Option.none (some e) Option.none p) false (.ref a) (.ref d) = operate [.ref d, .ref a] (getItem (.ref a) (.ref d)) := by intro _; rfl) (ht : ∀ r, letTemporaryGo v (.ref a) r = pure () := by intro _; rfl) :
    Ea c ps W (.Subscript v (.Slice Option.none (some e) Option.none p) pos) (.strs ((ys.map (·.1)).take y.toNat)) := by
  intro h tk Q E i hq
  refine Subscript_ (h1 _ _ _ _ i fun o h' tk' ho i1 => wpAny_Slice (evalPart_none_step (evalPart_some_step (h2 _ _ _ _ i1 fun u h2' tk2 r2 i2 => evalPart_none_step ?_))))
  cases ho
  obtain ⟨t, rfl⟩ := r2
  have hb' := i2.base hb
  obtain ⟨m, news, hF, hN, hf, hl, nd⟩ := i2
  have hvl : (strValues ys).length = ys.length := List.length_map _
  refine kmk_slice (s := c.st h2' tk2) hF hN hb' .none (.int _ _) (fun D h3 F' N' lt => hq _ _ _ ⟨m, _, F', N', hf, ⟨⟨rfl, ys.take y.toNat, 0, by rw [pick_upto _ hy]; unfold strValues; rw [List.map_take], by rw [List.map_take]⟩, hl⟩, ?_⟩) (hs _) ht (by rw [List.size_toArray, hvl, sizeLine_eq]; lia)
  rw [List.map_cons, List.nodup_cons]
  refine ⟨fun hm => ?_, nd⟩
  rw [lrep_map hl] at hm
  obtain ⟨q, hq, e⟩ := List.mem_map.mp hm
  exact absurd (lt q hq) (by rw [e]; exact Nat.lt_irrefl _)
theorem En.joinA {F : FI} {N : Nat} {c : Cx F N} {ps : List PV} {W : Led} {pl : Sem Bool} {o e : PySem.Expr} {ap pos : Pos} {x : Str} {l : List Str} (h1 : Ep c ps W o (.str x)) (h2 : Ea c ps W e (.strs l)) (hl : Light l) (hx : x.length ≤ 16) (he : McOk c o (Str.ofString "join") ap pos [e] pl := by exact rfl) (hst : starEach [e] c.env = (false, eval e c.env) :: starEach [] c.env := by rfl) :
    En c ps W (.Call (.Attribute o (Str.ofString "join") ap) [e] [] pos) (fun p W' => p = .str (Txt.join x l) ∧ ∃ a, W' = (a, .strs l) :: W) := by
  intro h tk Q E i hq
  refine MethodCall_ (h1 _ _ _ _ i fun v h' tk' r i1 => ?_) he
  obtain ⟨t, rfl⟩ := r
  exact GM.join (callWith_method1 (args_cons (h2 _ _ _ _ i1 fun a h2' tk2 i2 => args_nil (FunOk.join (.head _) hl hx _ _ _ _ _ i2 ⟨⟨_, rfl⟩, rfl, trivial⟩ fun v h3 tk3 hr i3 => hq _ _ _ _ _ ⟨rfl, a, rfl⟩ hr i3)) hst) hst)
theorem En.binR {F : FI} {N : Nat} {c : Cx F N} {ps : List PV} {W : Led} {l r : PySem.Expr} {op : Operator} {pos : Pos} {p : PV} {K K' : PV → Led → Prop} (h1 : Ep c ps W l p) (h2 : En c ps W r K) (o : ∀ q W', K q W' → ∃ z, BinOk op p q z ∧ K' z W') : En c ps W (.BinOp l op r pos) K' :=
  fun _ _ _ _ i hq => wpAny_BinOp (h1 _ _ _ _ i fun _ _ _ r1 i1 => h2 _ _ _ _ i1 fun q W' _ _ _ hk r2 i2 => by
    obtain ⟨z, ho, hz⟩ := o q W' hk
    exact ho _ _ _ _ _ _ _ r1 r2 fun _ _ r3 => hq _ _ _ _ _ hz r3 i2)
def F302 : FI where
  qual := Str.ofString "_law_shared"
  scope := { kind := .function, names := [(Str.ofString "one", .local), (Str.ofString "two", .local), (Str.ofString "k", .local), (Str.ofString "len", .globalImplicit)], isGenerator := false, isCoroutine := false }
  f := 302
  cd := .ref 301
  locals := [Str.ofString "one", Str.ofString "two", Str.ofString "k"]
theorem sv_at {ys : List (Str × Tok)} {k : Nat} (h : k < ys.length) : ∃ t, (strValues ys)[((k : Nat) : Int).toNat]? = some (.str ys[k].1 t) := by
  refine ⟨ys[k].2, ?_⟩
  rw [Int.toNat_natCast, strValues, List.getElem?_map, List.getElem?_eq_getElem h]
  rfl
theorem t302 (l1 l2 : Addr) (s1 s2 : List (Str × Tok)) (hs : s1.length < 100) (hs2 : s2.length < 100) (hq : ∀ q ∈ s1, q.1.length < 1000) : Con 4 302 [.ref l1, .ref l2] (fun h => h.IsList l1 (strValues s1).toArray ∧ h.IsList l2 (strValues s2).toArray) (fun h v h' => ∃ tk, v = .str (lawShared (s1.map (·.1)) (s2.map (·.1))) tk) := by
  refine Con.of (F := F302) (N := 3) (ps := [.ref l1, .ref l2, .unset]) (binds := [(Str.ofString "one", .ref l1), (Str.ofString "two", .ref l2)]) (fun q => by k_is) (fun q => by k_is) (fun s => BindsTo.of_eq (by kernel_rfl)) (locs rfl) rfl rfl (by decide) ⟨⟨_, rfl, rfl⟩, ⟨_, rfl, rfl⟩, rfl, trivial⟩ fun c Φ E hE hP hl => ?_
  obtain ⟨hl1, hl2⟩ := hl
  have hv1 : (strValues s1).length = s1.length := List.length_map _
  have hv2 : (strValues s2).length = s2.length := List.length_map _
  have n1 : (strValues s1).length ≤ 1000000 := hv1 ▸ Nat.le_trans (Nat.le_of_lt hs) (by decide)
  have n2 : (strValues s2).length ≤ 1000000 := hv2 ▸ Nat.le_trans (Nat.le_of_lt hs2) (by decide)
  have b1 := lcp_le1 (s1.map (·.1)) (s2.map (·.1))
  have b2 := lcp_le2 (s1.map (·.1)) (s2.map (·.1))
  rw [List.length_map] at b1 b2
  refine .assign .int .n2 (Sx.while (fun k : Nat => [.ref l1, .ref l2, .int k]) (fun _ => []) (fun k => k ≤ lcp (s1.map (·.1)) (s2.map (·.1))) (fun k => 100 - k) (fun k => decide (k < lcp (s1.map (·.1)) (s2.map (·.1)))) 0 hP (Nat.zero_le _) fun k hk => ⟨?_, fun hb => .aug .n2 nofun .int .addi .n2 (.lp (k + 1) rfl rfl (of_decide_eq_true hb) (Nat.sub_lt_sub_left (Nat.lt_of_lt_of_le (of_decide_eq_true hb) (Nat.le_trans b1 (Nat.le_of_lt hs))) (Nat.lt_succ_self k))), fun hb => ?_⟩)
  · by_cases h1 : k < s1.length
    · by_cases h2 : k < s2.length
      · obtain ⟨t1, e1⟩ := sv_at h1
        obtain ⟨t2, e2⟩ := sv_at h2
        refine .cast (b := true && (true && ((s1[k].1 == s2[k].1) && true))) (.bo (.and (.cast (.cmp (.name .n2) (.callB bn_len rfl (.cons (.name .n0) .nil) (.lenB hl1 n1)) .lti) (decide_eq_true (by lia))) fun _ => .and (.cast (.cmp (.name .n2) (.callB bn_len rfl (.cons (.name .n1) .nil) (.lenB hl2 n2)) .lti) (decide_eq_true (by lia))) fun _ => .and (.cmp (.itemB (.name .n0) (.name .n2) hl1 (by lia) (by lia) e1 (show (PV.str _).rep _ from ⟨_, rfl⟩)) (.itemB (.name .n1) (.name .n2) hl2 (by lia) (by lia) e2 (show (PV.str _).rep _ from ⟨_, rfl⟩)) .eqs) fun _ => .nilA)) ?_
        have := lcp_lt (s1.map (·.1)) (s2.map (·.1)) k s1[k].1 s2[k].1 hk (by rw [List.getElem?_map, List.getElem?_eq_getElem h1]; rfl) (by rw [List.getElem?_map, List.getElem?_eq_getElem h2]; rfl)
        rw [Bool.true_and, Bool.true_and, Bool.and_true, Bool.eq_iff_iff, this, decide_eq_true_eq]
      · refine .cast (b := true && (false && false)) (.bo (.and (.cast (.cmp (.name .n2) (.callB bn_len rfl (.cons (.name .n0) .nil) (.lenB hl1 n1)) .lti) (decide_eq_true (by lia))) fun _ => .and (.cast (.cmp (.name .n2) (.callB bn_len rfl (.cons (.name .n1) .nil) (.lenB hl2 n2)) .lti) (decide_eq_false (by lia))) nofun)) (decide_eq_false (by lia)).symm
    · exact .cast (b := false && false) (.bo (.and (.cast (.cmp (.name .n2) (.callB bn_len rfl (.cons (.name .n0) .nil) (.lenB hl1 n1)) .lti) (decide_eq_false (by lia))) nofun)) (decide_eq_false (by lia)).symm
  · have hke : k = lcp (s1.map (·.1)) (s2.map (·.1)) := Nat.le_antisymm hk (Nat.le_of_not_lt (of_decide_eq_false hb))
    subst hke
    have hlen : (s1.map (·.1)).length = s1.length := List.length_map _
    have hla : ∀ a ∈ (s1.map (·.1)).take (lcp (s1.map (·.1)) (s2.map (·.1))), a.length ≤ 1000 := fun a ha => by
      obtain ⟨q, hq', rfl⟩ := List.mem_map.mp (List.mem_of_mem_take ha)
      exact Nat.le_of_lt (hq q hq')
    have hln : ((s1.map (·.1)).take (lcp (s1.map (·.1)) (s2.map (·.1)))).length ≤ 100 := by rw [List.length_take, hlen]; lia
    have hjl := join_len slash_len hla hln
    have h16 := slash_len
    refine Rets.retN hE (K := fun p _ => p = .str (lawShared (s1.map (·.1)) (s2.map (·.1)))) (.binR .str (.joinA (l := (s1.map (·.1)).take (lcp (s1.map (·.1)) (s2.map (·.1)))) .str (.uptoS (.name .n0) (.name .n2) hl1 (by lia) (by lia)) (.of (fun a ha => hla a ha) (by lia)) (by lia)) fun q W' hk => ?_) fun p W' v h' hk hv _ => ?_
    · obtain ⟨rfl, _⟩ := hk
      exact ⟨_, .adds (by rw [sizeLine_eq]; lia), rfl⟩
    · cases hk
      exact hv
end
section
open PySem PySem.W PySem.Calls PyProof.Rows
theorem compTurn_in (elt t0 i0 t1 i1 : Expr) (scope : Scope) (pos : Pos) (it acc : Value) (env : Env) :
    compTurn (.ListComp elt [⟨t0, i0, [], 0⟩, ⟨t1, i1, [], 0⟩] scope pos) 1 it acc env = (standAt i1.pos >>= fun _ => pyNext it >>= fun r => match r with
      | none => pure (.done .next)
      | some v => letOwnedTupleGo t1 it v >>= fun _ => assign t1 env v >>= fun _ =>
        (eval elt env >>= fun x => call (.builtin "list.append") [acc, x] >>= fun _ => pure ()) >>= fun _ =>
          again (.compLoop (.ListComp elt [⟨t0, i0, [], 0⟩, ⟨t1, i1, [], 0⟩] scope pos) 1 it acc env)) := by rfl
theorem compTurn_out (elt t0 i0 t1 i1 : Expr) (scope : Scope) (pos : Pos) (it acc : Value) (env : Env) :
    compTurn (.ListComp elt [⟨t0, i0, [], 0⟩, ⟨t1, i1, [], 0⟩] scope pos) 0 it acc env = (standAt i0.pos >>= fun _ => pyNext it >>= fun r => match r with
      | none => pure (.done .next)
      | some v => letOwnedTupleGo t0 it v >>= fun _ => assign t0 env v >>= fun _ => eval i1 env >>= fun x => standAt i1.pos >>= fun _ =>
        foldedSetIterable i1 env x >>= fun x => holding [x] (pyIter x) >>= fun it1 =>
        runOwn (.compStart (.ListComp elt [⟨t0, i0, [], 0⟩, ⟨t1, i1, [], 0⟩] scope pos) 1 it1 acc env) env >>= fun _ =>
          again (.compLoop (.ListComp elt [⟨t0, i0, [], 0⟩, ⟨t1, i1, [], 0⟩] scope pos) 0 it acc env)) := by rfl
noncomputable def KeepBut (C D : Addr) (wr : List Addr) (h h' : Heap) : Prop := ∀ b o, b ≠ C → b ∉ wr → b ≠ D → h.get? b = some o → h'.get? b = some o
theorem KeepBut.turn {C D : Addr} {wr : List Addr} {h H h₁ h₂ h₃ : Heap} (k : KeepBut C D wr h H) (k1 : ∀ b o, b ∉ wr → H.get? b = some o → h₁.get? b = some o) (k2 : Heap.ExtBut C h₁ h₂) (k3 : h₂.StaysIn h₃) : KeepBut C D wr h h₃ := fun b o h1 h2 h3 e => k3 b o (k2 b o h1 (k1 b o h2 (k b o h1 h2 h3 e)))
theorem at_snoc {P : Nat → Value → Prop} {us : List Value} {u : Value} (h : ∀ (j : Nat) v, us[j]? = some v → P j v) (hu : P us.length u) : ∀ (j : Nat) v, (us ++ [u])[j]? = some v → P j v := fun j z hj => by
  rcases Nat.lt_trichotomy j us.length with hl | hl | hl
  · exact h j z (by rwa [List.getElem?_append_left hl] at hj)
  · subst hl
    rw [List.getElem?_concat_length] at hj
    exact Option.some.inj hj ▸ hu
  · rw [List.getElem?_eq_none (by rw [List.length_append, List.length_singleton]; exact hl)] at hj
    cases hj
theorem len_snoc {us : List Value} {u : Value} : (us ++ [u]).length = us.length + 1 := by rw [List.length_append, List.length_singleton]
section
variable {prog : Program} {w : World} {A : Around} {R : Result → Shared → Prop} {s : Shared}
inductive InInv (s : Shared) (C D : Addr) (x : Str) (v : Value) (wr : List Addr) (n : Nat) (P : Nat → Value → Prop) (St : Nat → Heap → Prop) (F : Value → Value → Prop) (ys0 : Array Value) : Nat → Shared → Prop
  | mk {h' : Heap} {tk : Nat} {m' : Str → Option Value} {zs : Array Value} {us : List Value} (hst : St us.length h') (hacc : h'.PlainList D (ys0 ++ zs)) (hn : h'.Ns C m') (hmx : m' x = some v) (hP : ∀ (j : Nat) u, us[j]? = some u → P j u) (hF : Paired F us zs.toList) (hi : us.length ≤ n) (hk : KeepBut C D wr s.heap h') : InInv s C D x v wr n P St F ys0 (n + 1 - us.length) { s with heap := h', toks := tk }
theorem InInv.next {C D : Addr} {x : Str} {v : Value} {wr : List Addr} {n tk : Nat} {P : Nat → Value → Prop} {St : Nat → Heap → Prop} {F : Value → Value → Prop} {ys0 zs : Array Value} {h' : Heap} {m' : Str → Option Value} {us : List Value} {u z : Value} (hst : St (us.length + 1) h') (hacc : h'.PlainList D ((ys0 ++ zs).push z)) (hn : h'.Ns C m') (hmx : m' x = some v) (hP : ∀ (j : Nat) u, us[j]? = some u → P j u) (hu : P us.length u) (hF : Paired F us zs.toList) (hz : F u z) (hi : us.length < n) (hk : KeepBut C D wr s.heap h') : ∃ m, m < n + 1 - us.length ∧ InInv s C D x v wr n P St F ys0 m { s with heap := h', toks := tk } := by
  refine ⟨n + 1 - (us ++ [u]).length, by rw [len_snoc]; exact Nat.sub_lt_sub_left (Nat.lt_succ_of_lt hi) (Nat.lt_succ_self _), .mk (zs := zs.push z) (by rw [len_snoc]; exact hst) (by rw [Array.push_append] at hacc; exact hacc) hn hmx (at_snoc hP hu) ?_ (by rw [len_snoc]; exact hi) hk⟩
  rw [Array.toList_push]
  exact hF.snoc hz
theorem in_loop {elt i0 t0 i1 : Expr} {x y : Str} {py : Pos} {scope : Scope} {pos : Pos} {I C D : Addr} {fp wr : List Addr} {n : Nat} {P : Nat → Value → Prop} {St : Nat → Heap → Prop} {cenv : Env} {m0 : Str → Option Value} {ys0 : Array Value} {v : Value}
    (W : Walks prog w A I fp wr n P St) (F : Value → Value → Prop) (hC : cenv.locals = C) (hy : cenv.kindOf y = some .local) (hp : (cenv.scope.kind == .class || (cenv.scope.kind == .module && cenv.locals != cenv.globals)) = false)
    (hDC : D ≠ C) (hDf : D ∉ fp) (hCf : C ∉ fp) (hst : St 0 s.heap) (hacc : s.heap.PlainList D ys0) (hn : s.heap.Ns C m0) (hmx : m0 x = some v) (hxy : x ≠ y)
    (helt : ∀ i u s₂ m₂ E', P i u → s₂.heap.Ns C m₂ → m₂ x = some v → m₂ y = some u → KeepBut C D wr s.heap s₂.heap → wpAny (model prog w) A (eval elt cenv) (ElKeep F u s₂) E' s₂)
    (hR : ∀ h' tk m' zs us, h'.Ns C m' → h'.PlainList D (ys0 ++ zs) → us.length = n → (∀ (j : Nat) u, us[j]? = some u → P j u) → Paired F us zs.toList → KeepBut C D wr s.heap h' → R (.ok .next) { s with heap := h', toks := tk })
    (hsz : ys0.size + n ≤ sizeLine) :
    codeAny (model prog w) A (.compLoop (.ListComp elt [⟨t0, i0, [], 0⟩, ⟨.Name y py, i1, [], 0⟩] scope pos) 1 (.ref I) (.ref D) cenv) R s := by
  subst hC
  refine codeAny_loop rfl (InInv s cenv.locals D x v wr n P St F ys0) ?_ (n + 1) (.mk (us := []) (zs := #[]) hst (by rwa [Array.append_empty]) hn hmx (fun j _ e => nomatch e) .nil (Nat.zero_le _) (fun _ _ _ _ _ e => e))
  rintro k s' ⟨hst', hacc', hn', hmx', hP, hF, hi, hk⟩
  rename_i H tk m' zs us
  have hCw : cenv.locals ∉ wr := fun h => hCf (W.sub _ h)
  have hDw : D ∉ wr := fun h => hDf (W.sub _ h)
  show wpAny _ A ((compTurn _ 1 (.ref I) (.ref D) cenv).onRaise (fun x => do noteFrame x cenv; theTreesLotGoes x)) _ _ _
  refine wpAny_noted ?_
  rw [compTurn_in]
  refine wpAny_bind (wpAny_standAt (wpAny_bind ?_))
  by_cases hlt : us.length < n
  · refine W.item us.length _ _ _ hlt hst' fun u h₁ tk₁ hPv hst₁ hk₁ => ?_
    refine wpAny_bind (wpAny_of_eq (show letOwnedTupleGo (.Name y py) (.ref I) u = pure () from rfl) ?_)
    refine wpAny_bind (wpAny_assign_Name (wpAny_storeName_local hy (hn'.at' fun o e => hk₁ _ o hCw e) (fun h₂ hn₂ hs₂ => ?_) hp))
    refine wpAny_bind (wpAny_bind (wpAny_mono (helt us.length u _ _ _ hPv hn₂ ((if_neg hxy).trans hmx') (if_pos rfl) (hk.turn hk₁ hs₂.extBut fun _ _ e => e)) (fun z s₃ h₃ => ?_) fun _ _ e => e))
    obtain ⟨hFz, h₃, tk₃, rfl, hk₃⟩ := h₃
    have hzs : (ys0 ++ zs).size ≤ sizeLine := by
      have e1 := hF.length
      rw [Array.length_toList] at e1
      rw [Array.size_append]
      exact Nat.le_trans (Nat.add_le_add_left (Nat.le_trans (Nat.le_of_eq e1.symm) hi) _) hsz
    have hD₃ : h₃.PlainList D (ys0 ++ zs) := hacc'.at fun o e => hk₃ _ o (hs₂.extBut _ _ hDC (hk₁ _ _ hDw e))
    refine wpAny_bind (wpAny_list_append_plain (hsz := hzs) hD₃ fun h₄ hl₄ hs₄ => ?_)
    exact wpAny_pure (wpAny_pure ⟨rfl, InInv.next (W.frame _ _ h₄ hst₁ fun b hb o e => hs₄.extBut b o (fun h => hDf (h ▸ hb)) (hk₃ b o (hs₂.extBut b o (fun h => hCf (h ▸ hb)) e))) hl₄ ((hn₂.keeps hk₃).sameBut hs₄ (Ne.symm hDC)) ((if_neg hxy).trans hmx') hP hPv hF hFz hlt fun b o h1 h2 h3 e => hs₄.extBut b o h3 (hk.turn hk₁ hs₂.extBut hk₃ b o h1 h2 h3 e)⟩)
  · have hin : us.length = n := Nat.le_antisymm hi (Nat.not_lt.mp hlt)
    refine W.done _ _ _ (hin ▸ hst') fun h₁ tk₁ hk₁ => wpAny_pure ?_
    exact hR h₁ tk₁ m' zs us (hn'.at' fun o e => hk₁ _ o hCw e) (hacc'.at fun o e => hk₁ _ o hDw e) hin hP hF fun b o h1 h2 h3 e => hk₁ b o h2 (hk b o h1 h2 h3 e)
theorem start_in {elt t0 i0 t1 i1 : Expr} {scope : Scope} {pos : Pos} {it acc : Value} {env : Env}
    (h0 : codeAny (model prog w) A (.compLoop (.ListComp elt [⟨t0, i0, [], 0⟩, ⟨t1, i1, [], 0⟩] scope pos) 1 it acc env) R s)
    (h : wpAny (model prog w) A (pyIter it) (fun it' s' => codeAny (model prog w) A (.compLoop (.ListComp elt [⟨t0, i0, [], 0⟩, ⟨t1, i1, [], 0⟩] scope pos) 1 it' acc env) R s')
      (notedBy (model prog w) A env fun x s' => R (.error x) s') s) :
    codeAny (model prog w) A (.compStart (.ListComp elt [⟨t0, i0, [], 0⟩, ⟨t1, i1, [], 0⟩] scope pos) 1 it acc env) R s := by
  refine codeAny_of_tree ?_
  show wpAny _ _ ((compStart (.ListComp elt [⟨t0, i0, [], 0⟩, ⟨t1, i1, [], 0⟩] scope pos) 1 it acc env).onRaise (fun x => do noteFrame x env; standAt theWindowsPlace)) _ _ s
  refine wpAny_notedAt ?_
  unfold compStart
  show wpAny _ _ (ask >>= _) _ _ s
  refine wpAny_bind (wpAny_askSetting (wpAny_ite ?_))
  split
  · first
      | exact wpAny_bind (wpAny_pure (wpAny_pure (And.intro rfl h0)))
      | exact wpAny_pure (And.intro rfl h0)
  · first
      | exact wpAny_bind (wpAny_rule (wpAny_bind (wpAny_standAt (wpAny_bind (wpAny_mono h (fun it' s' h' => wpAny_pure (And.intro rfl h')) fun _ _ x => x)))))
      | (refine wpAny_bind (wpAny_rule ?_); show wpAny _ _ (standAt i1.pos >>= _) _ _ s; exact wpAny_bind (wpAny_standAt (wpAny_bind (wpAny_mono h (fun it' s' h' => wpAny_pure (And.intro rfl h')) fun _ _ x => x))))
theorem inner_go {elt t0 i0 i1 : Expr} {x y : Str} {py : Pos} {scope : Scope} {pos : Pos} {C D T : Addr} {cenv : Env} {m0 : Str → Option Value} {ys0 : Array Value} {v : Value} {vals : List Value} {Q : Shared → Prop} {E : Value → Shared → Prop}
    (hh : A.handled = none) (F : Value → Value → Prop) (hC : cenv.locals = C) (hy : cenv.kindOf y = some .local) (hp : (cenv.scope.kind == .class || (cenv.scope.kind == .module && cenv.locals != cenv.globals)) = false)
    (hDC : D ≠ C) (hT : s.heap.IsTuple T vals.toArray) (hacc : s.heap.PlainList D ys0) (hn : s.heap.Ns C m0) (hmx : m0 x = some v) (hxy : x ≠ y)
    (helt : ∀ u s₂ m₂ E', u ∈ vals → s₂.heap.Ns C m₂ → m₂ x = some v → m₂ y = some u → (∀ b o, b ≠ C → b ≠ D → s.heap.get? b = some o → s₂.heap.get? b = some o) → wpAny (model prog w) A (eval elt cenv) (ElKeep F u s₂) E' s₂)
    (hQ : ∀ h' tk m' zs, h'.Ns C m' → h'.PlainList D (ys0 ++ zs) → Paired F vals zs.toList → (∀ b o, b ≠ C → b ≠ D → s.heap.get? b = some o → h'.get? b = some o) → Q { s with heap := h', toks := tk })
    (hsz : ys0.size + vals.length ≤ sizeLine) :
    wpAny (model prog w) A (pyIter (.ref T)) (fun it1 s₁ => wpAny (model prog w) A (runOwn (.compStart (.ListComp elt [⟨t0, i0, [], 0⟩, ⟨.Name y py, i1, [], 0⟩] scope pos) 1 it1 (.ref D) cenv) cenv) (fun _ s₂ => Q s₂) E s₁) E s := by
  refine wpAny_pyIter_tuple hT ?_
  obtain ⟨oT, hoT, hcT, nT, hdT⟩ := id hT
  obtain ⟨nD, hoD⟩ := id hacc
  obtain ⟨oC, esC, epC, hoC, hdC, _⟩ := id hn
  have hTD : T ≠ D := fun e => by rw [e, hoD] at hoT; cases hoT; injection hcT with h5; exact absurd h5 (by decide)
  have hTC : T ≠ C := fun e => by rw [e, hoC] at hoT; cases hoT; rw [hdC] at hdT; cases hdT
  have W2 := Walks.tuple (prog := prog) (w := w) hh s.heap.objs.size T (ne_none hoT (heap_next _)) vals.toArray
  rw [List.size_toArray] at W2
  have nin : ∀ {b o}, s.heap.get? b = some o → b ∉ [s.heap.objs.size] := fun e hb => ne_none e (heap_next _) (List.mem_singleton.mp hb)
  have no2 : ∀ {b o}, s.heap.get? b = some o → T ≠ b → b ∉ [s.heap.objs.size, T] := fun e h hb => by
    rcases List.mem_cons.mp hb with hb | hb
    · exact ne_none e (heap_next _) hb
    · exact h (List.mem_singleton.mp hb).symm
  have kp : s.heap.StaysIn (s.heap.push { cls := .type "tuple_iterator", data := .fields #[.ref T, .int 0 0] }) := fun b o e => Heap.get?_push_of_some _ e
  have loop : ∀ (R' : Result → Shared → Prop), (∀ s', Q s' → R' (.ok .next) s') → codeAny (model prog w) A (.compLoop (.ListComp elt [⟨t0, i0, [], 0⟩, ⟨.Name y py, i1, [], 0⟩] scope pos) 1 (.ref s.heap.objs.size) (.ref D) cenv) R' { s with heap := s.heap.push { cls := .type "tuple_iterator", data := .fields #[.ref T, .int 0 0] } } := fun R' hR' => by
    refine in_loop W2 F hC hy hp hDC (no2 hoD hTD) (no2 hoC hTC) ⟨⟨_, Heap.get?_push_size _ rfl, rfl, rfl⟩, hT.at fun o e => kp _ _ e⟩ (hacc.at fun o e => kp _ _ e) (hn.keeps kp) hmx hxy (fun i u s₂ m₂ E' hu hn₄ hx₄ hy₄ hk₄ => ?_) (fun h' tk m' zs us hn5 hl5 hus hPus hF5 hk5 => ?_) hsz
    · exact helt u s₂ m₂ E' (List.mem_of_getElem? (i := i) (by rwa [List.getElem?_toArray] at hu)) hn₄ hx₄ hy₄ fun b o h1 h2 e => hk₄ b o h1 (nin e) h2 (kp b o e)
    · obtain rfl := eq_of_at hus fun j u e => by have := hPus j u e; rwa [List.getElem?_toArray] at this
      exact hR' _ (hQ h' tk m' zs hn5 hl5 hF5 fun b o h1 h2 e => hk5 b o h1 (nin e) h2 (kp b o e))
  refine wpAny_runOwn ?_
  rw [show A.mark none = A from rfl]
  exact start_in (loop _ fun _ q => q) (W2.self 0 _ _ _ ⟨⟨_, Heap.get?_push_size _ rfl, rfl, rfl⟩, hT.at fun o e => kp _ _ e⟩ (loop _ fun _ q => q))
noncomputable def Fruit (F : Value → Value → Value → Prop) (VP : List Value → Prop) (vs zs : List Value) : Prop := ∃ zss : List (List Value), zs = zss.flatten ∧ Paired (fun v l => ∃ vals, VP vals ∧ Paired (F v) vals l) vs zss
theorem Fruit.snoc {F : Value → Value → Value → Prop} {VP : List Value → Prop} {vals vs zs l : List Value} {v : Value} (h : Fruit F VP vs zs) (hV : VP vals) (hv : Paired (F v) vals l) : Fruit F VP (vs ++ [v]) (zs ++ l) := by
  obtain ⟨zss, rfl, hp⟩ := h
  exact ⟨zss ++ [l], by simp, hp.snoc ⟨vals, hV, hv⟩⟩
theorem Fruit.length {F : Value → Value → Value → Prop} {VP : List Value → Prop} {kk : Nat} (hkk : ∀ vals, VP vals → vals.length = kk) {vs zs : List Value} (h : Fruit F VP vs zs) : zs.length = vs.length * kk := by
  obtain ⟨zss, rfl, hp⟩ := h
  induction hp with
  | nil => rw [List.length_nil, Nat.zero_mul]; rfl
  | cons h t ih =>
    obtain ⟨vals, hV, h⟩ := h
    rw [List.flatten_cons, List.length_append, ih, ← h.length, hkk _ hV, List.length_cons, Nat.add_mul, Nat.one_mul, Nat.add_comm]
inductive ItK (VP : List Value → Prop) (s₂ : Shared) : Value → Shared → Prop
  | mk {T : Addr} {vals : List Value} {h₃ : Heap} {tk₃ : Nat} (hT : h₃.IsTuple T vals.toArray) (hV : VP vals) (hk : s₂.heap.StaysIn h₃) : ItK VP s₂ (.ref T) { s₂ with heap := h₃, toks := tk₃ }
inductive OutInv (s : Shared) (C D : Addr) (wr : List Addr) (n : Nat) (P : Nat → Value → Prop) (St : Nat → Heap → Prop) (F : Value → Value → Value → Prop) (VP : List Value → Prop) : Nat → Shared → Prop
  | mk {h' : Heap} {tk : Nat} {m' : Str → Option Value} {zs : Array Value} {vs : List Value} (hst : St vs.length h') (hacc : h'.PlainList D zs) (hn : h'.Ns C m') (hP : ∀ (j : Nat) u, vs[j]? = some u → P j u) (hF : Fruit F VP vs zs.toList) (hi : vs.length ≤ n) (hk : KeepBut C D wr s.heap h') : OutInv s C D wr n P St F VP (n + 1 - vs.length) { s with heap := h', toks := tk }
theorem OutInv.next {C D : Addr} {wr : List Addr} {n tk : Nat} {P : Nat → Value → Prop} {St : Nat → Heap → Prop} {F : Value → Value → Value → Prop} {VP : List Value → Prop} {zs zs2 : Array Value} {h' : Heap} {m' : Str → Option Value} {vs vals : List Value} {v : Value} (hst : St (vs.length + 1) h') (hacc : h'.PlainList D (zs ++ zs2)) (hn : h'.Ns C m') (hP : ∀ (j : Nat) u, vs[j]? = some u → P j u) (hu : P vs.length v) (hF : Fruit F VP vs zs.toList) (hV : VP vals) (hz : Paired (F v) vals zs2.toList) (hi : vs.length < n) (hk : KeepBut C D wr s.heap h') : ∃ m, m < n + 1 - vs.length ∧ OutInv s C D wr n P St F VP m { s with heap := h', toks := tk } := by
  refine ⟨n + 1 - (vs ++ [v]).length, by rw [len_snoc]; exact Nat.sub_lt_sub_left (Nat.lt_succ_of_lt hi) (Nat.lt_succ_self _), .mk (by rw [len_snoc]; exact hst) hacc hn (at_snoc hP hu) ?_ (by rw [len_snoc]; exact hi) hk⟩
  rw [Array.toList_append]
  exact hF.snoc hV hz
theorem out_loop {elt i0 i1 : Expr} {x y : Str} {px py : Pos} {scope : Scope} {pos : Pos} {I C D : Addr} {fp wr : List Addr} {n : Nat} {P : Nat → Value → Prop} {St : Nat → Heap → Prop} {cenv : Env} {m0 : Str → Option Value} {VP : List Value → Prop} {kk : Nat}
    (hkk : ∀ vals, VP vals → vals.length = kk) (hh : A.handled = none) (W : Walks prog w A I fp wr n P St) (F : Value → Value → Value → Prop) (hC : cenv.locals = C) (hx : cenv.kindOf x = some .local) (hy : cenv.kindOf y = some .local) (hp : (cenv.scope.kind == .class || (cenv.scope.kind == .module && cenv.locals != cenv.globals)) = false)
    (hDC : D ≠ C) (hDf : D ∉ fp) (hCf : C ∉ fp) (hst : St 0 s.heap) (hacc : s.heap.PlainList D #[]) (hn : s.heap.Ns C m0) (hxy : x ≠ y)
    (hfold : ∀ z, foldedSetIterable i1 cenv z = pure z) (hiter : ∀ s₂ E', wpAny (model prog w) A (eval i1 cenv) (ItK VP s₂) E' s₂)
    (helt : ∀ i v u vals s₂ m₂ E', P i v → VP vals → u ∈ vals → s₂.heap.Ns C m₂ → m₂ x = some v → m₂ y = some u → KeepBut C D wr s.heap s₂.heap → wpAny (model prog w) A (eval elt cenv) (ElKeep (F v) u s₂) E' s₂)
    (hR : ∀ h' tk m' zs vs, h'.Ns C m' → h'.PlainList D zs → vs.length = n → (∀ (j : Nat) v, vs[j]? = some v → P j v) → Fruit F VP vs zs.toList → KeepBut C D wr s.heap h' → R (.ok .next) { s with heap := h', toks := tk })
    (hsz : (n + 1) * kk ≤ sizeLine) :
    codeAny (model prog w) A (.compLoop (.ListComp elt [⟨.Name x px, i0, [], 0⟩, ⟨.Name y py, i1, [], 0⟩] scope pos) 0 (.ref I) (.ref D) cenv) R s := by
  subst hC
  refine codeAny_loop rfl (OutInv s cenv.locals D wr n P St F VP) ?_ (n + 1) (.mk (vs := []) (zs := #[]) hst hacc hn (fun j _ e => nomatch e) ⟨[], rfl, .nil⟩ (Nat.zero_le _) (fun _ _ _ _ _ e => e))
  rintro k s' ⟨hst', hacc', hn', hP, hF, hi, hk⟩
  rename_i H tk m' zs vs
  have hCw : cenv.locals ∉ wr := fun h => hCf (W.sub _ h)
  have hDw : D ∉ wr := fun h => hDf (W.sub _ h)
  show wpAny _ A ((compTurn _ 0 (.ref I) (.ref D) cenv).onRaise (fun x => do noteFrame x cenv; theTreesLotGoes x)) _ _ _
  refine wpAny_noted ?_
  rw [compTurn_out]
  refine wpAny_bind (wpAny_standAt (wpAny_bind ?_))
  by_cases hlt : vs.length < n
  · refine W.item vs.length _ _ _ hlt hst' fun v h₁ tk₁ hPv hst₁ hk₁ => ?_
    refine wpAny_bind (wpAny_of_eq (show letOwnedTupleGo (.Name x px) (.ref I) v = pure () from rfl) ?_)
    refine wpAny_bind (wpAny_assign_Name (wpAny_storeName_local hx (hn'.at' fun o e => hk₁ _ o hCw e) (fun h₂ hn₂ hs₂ => ?_) hp))
    refine wpAny_bind (wpAny_mono (hiter _ _) (fun xv s₃ h₃ => ?_) fun _ _ e => e)
    obtain ⟨hT, hV, hk₃⟩ := h₃
    rename_i T vals h₃ tk₃
    refine wpAny_bind (wpAny_standAt (wpAny_bind (wpAny_of_eq (hfold _) (wpAny_bind (wpAny_holding ?_)))))
    have hk3 := hk.turn hk₁ hs₂.extBut hk₃
    refine wpAny_mono (inner_go (Q := fun s'' => ∃ m, m < n + 1 - vs.length ∧ OutInv s cenv.locals D wr n P St F VP m s'') hh (F v) rfl hy hp hDC hT (hacc'.at fun o e => hk₃ _ o (hs₂.extBut _ _ hDC (hk₁ _ _ hDw e))) (hn₂.keeps hk₃) (if_pos rfl) hxy (fun u s₂ m₂ E' hu hn₄ hx₄ hy₄ hk₄ => ?_) (fun h' tk' m'' zs2 hn5 hl5 hF5 hk5 => ?_) ?_) (fun it1 s' h => wpAny_bind (wpAny_mono h (fun _ s'' q => wpAny_pure ⟨rfl, q⟩) fun _ _ e => e)) fun _ _ e => e
    · exact helt vs.length v u vals s₂ m₂ E' hPv hV hu hn₄ hx₄ hy₄ fun b o h1 h2 h3 e => hk₄ b o h1 h3 (hk3 b o h1 h2 h3 e)
    · exact OutInv.next (W.frame _ _ h' hst₁ fun b hb o e => hk5 b o (fun h => hCf (h ▸ hb)) (fun h => hDf (h ▸ hb)) (hk₃ b o (hs₂.extBut b o (fun h => hCf (h ▸ hb)) e))) hl5 hn5 hP hPv hF hV hF5 hlt fun b o h1 h2 h3 e => hk5 b o h1 h3 (hk3 b o h1 h2 h3 e)
    · have e1 := hF.length hkk
      rw [Array.length_toList] at e1
      rw [e1, hkk vals hV, ← Nat.succ_mul]
      exact Nat.le_trans (Nat.mul_le_mul_right _ (Nat.succ_le_succ hi)) hsz
  · have hin : vs.length = n := Nat.le_antisymm hi (Nat.not_lt.mp hlt)
    refine W.done _ _ _ (hin ▸ hst') fun h₁ tk₁ hk₁ => wpAny_pure ?_
    exact hR h₁ tk₁ m' zs vs (hn'.at' fun o e => hk₁ _ o hCw e) (hacc'.at fun o e => hk₁ _ o hDw e) hin hP hF fun b o h1 h2 h3 e => hk₁ b o h2 (hk b o h1 h2 h3 e)
end
section
variable {G : FI} {N : Nat} {c : Cx G N} {h : Heap} {E : Value → Shared → Prop}
theorem crest2 {elt i1 iter : Expr} {x y : Str} {px py pos : Pos} {sc : Scope} {cl : List (Str × Addr)} {o : Obj} {fp : List Addr} {n tk : Nat} {P : Nat → Value → Prop} {St : Nat → Heap → Prop} {m : Str → Option Value} {news : List (Addr × Obj)} {VP : List Value → Prop} {kk : Nat} {Q : Value → Shared → Prop} (hkk : ∀ vals, VP vals → vals.length = kk) (tf : Value → Value → Value → Prop) (w : CWalk c h o fp n P St) (hsz : (n + 1) * kk ≤ sizeLine) (s : ScOk c.env sc cl x iter) (hy : sc.names.lookup y = some .local) (hxy : x ≠ y) (hfold : ∀ C z, foldedSetIterable i1 (compEnvC sc cl C c.env) z = pure z) (F₁ : Fr c.h₀ c.env.locals h m) (N₁ : News c.h₀ c.env.locals h news)
    (hiter : ∀ C s₂ E', wpAny c.M c.A (eval i1 (compEnvC sc cl C c.env)) (ItK VP s₂) E' s₂)
    (helt : ∀ i v u vals C s₃ m₃ E', P i v → VP vals → u ∈ vals → Fr (hideAll (h.push o) [h.objs.size]) C s₃.heap m₃ → m₃ x = some v → m₃ y = some u → wpAny c.M c.A (eval elt (compEnvC sc cl C c.env)) (ElKeep (tf v) u s₃) E' s₃)
    (done : ∀ D n' h' tk' ys (vs : List Value), Fr c.h₀ c.env.locals h' m → News c.h₀ c.env.locals h' ((D, { cls := .type "list", data := .seq ys n' }) :: news) → (∀ q ∈ news, q.1 ≠ D) → vs.length = n → (∀ (j : Nat) v, vs[j]? = some v → P j v) → Fruit tf VP vs ys.toList → Q (.ref D) (c.st h' tk')) :
    CRest c none elt [⟨.Name x px, iter, [], 0⟩, ⟨.Name y py, i1, [], 0⟩] sc cl pos Q E (.ref h.objs.size) (c.st (h.push o) tk) := by
  refine wpAny_newObj_type (wpAny_newFunctionEnv s.hcell (fun _ hy => nomatch hy) (fun h₁ hns₁ hsb₁ => ?_) s.hkind)
  dsimp only at hns₁ hsb₁ ⊢
  generalize hH2 : (h.push o).push { cls := .type "list", dict := none, data := .seq ([] : List Value).toArray } = H2 at hns₁ hsb₁ ⊢
  have old2 : (h.push o).StaysIn H2 := hH2 ▸ push_stays
  have hC : H2.objs.size = (h.push o).objs.size + 1 := by rw [← hH2, Heap.size_push]
  have hDC : (h.push o).objs.size ≠ H2.objs.size := by rw [hC]; exact Nat.ne_of_lt (Nat.lt_succ_self _)
  have hCle : (h.push o).objs.size ≤ H2.objs.size := by rw [hC]; exact Nat.le_succ _
  have below : ∀ {b o'}, (h.push o).get? b = some o' → b ≠ H2.objs.size := fun e => ne_none (old2 _ _ e) (heap_next _)
  have hDf : (h.push o).objs.size ∉ fp := fun hm => Nat.lt_irrefl _ (w.hfp _ hm)
  have hCf : H2.objs.size ∉ fp := fun hm => by have := w.hfp _ hm; rw [hC] at this; exact Nat.lt_irrefl _ (Nat.lt_of_succ_lt this)
  have old : (h.push o).StaysIn h₁ := fun b o' e => hsb₁.extBut b o' (below e) (push_stays _ _ (old2 _ _ e))
  have hC0 : (h.push o).get? H2.objs.size = none := none_of old2 (heap_next _)
  have hacc : h₁.PlainList (h.push o).objs.size #[] := ⟨_, hsb₁.extBut _ _ hDC (push_stays _ _ (hH2 ▸ Heap.get?_push_size _ rfl))⟩
  have hst₁ : St 0 h₁ := w.W.frame _ _ _ w.hst fun b _ o' e => old b o' e
  have loop : codeAny c.M c.A (.compLoop (.ListComp elt [⟨.Name x px, iter, [], 0⟩, ⟨.Name y py, i1, [], 0⟩] sc pos) 0 (.ref h.objs.size) (.ref (h.push o).objs.size) (compEnvC sc cl H2.objs.size c.env)) (compPost c.M c.A E none Q (.ref (h.push o).objs.size) H2.objs.size) { c.st (h.push o) tk with heap := h₁, toks := tk + ([] : List (Str × Value)).length } := by
    refine out_loop hkk c.hh w.W tf rfl (lookup_relabel_local s.hx) (lookup_relabel_local hy) (by simp [compEnvC, relabel, s.hkind]) hDC hDf hCf hst₁ hacc hns₁ hxy (hfold _) (hiter _) (fun i v u vals s₃ m₃ E' hv hV hu hn hm hmy hk => ?_) (fun h' tk m' zs vs hn ha hlen hP hF hk => ?_) hsz
    · exact helt i v u vals _ s₃ m₃ E' hv hV hu (hide_fr hCle hn fun b o' hb e => hk b o' (below e) hb (ne_none e (heap_next _)) (old _ _ e)) hm hmy
    · have st : h.StaysIn h' := of_push fun b o' hb e => hk b o' (below e) hb (ne_none e (heap_next _)) (old _ _ e)
      refine ⟨m', hn, fun h'' hs => ?_⟩
      have st2 : h.StaysIn h'' := fun b o' e => hs.extBut b o' (below (push_stays _ _ e)) (st b o' e)
      obtain ⟨n', hpl⟩ := ha
      obtain ⟨F2, N2, hne⟩ := new_led F₁ N₁ (fun b o _ e => st2 b o e) (F₁.ns.keeps st2) (none_of push_stays (heap_next _)) (hs.extBut _ _ hDC hpl)
      exact done _ n' h'' _ _ vs F2 N2 hne hlen hP hF
  exact codeAny_compStart_list loop (w.W.self 0 _ _ _ hst₁ loop)
end
end
section
open PySem PySem.W PySem.Calls PyProof.Rows
theorem At.s {y x : Str} {q p : PV} {ks : List Str} {ps : List PV} (h : At ks ps x p) : At (y :: ks) (q :: ps) x p := .there h
theorem cps_eqS {x y : Str} : (x.cps.toList == y.cps.toList) = (x == y) := by
  rw [Bool.eq_iff_iff, beq_iff_eq, beq_iff_eq]
  constructor
  · intro e
    cases x; cases y
    congr 1
    exact Array.toList_inj.mp e
  · intro e; rw [e]
theorem CmpOk.isNot {a b : Bool} : CmpOk .IsNot (.bool a) (.bool b) (a != b) := by
  rintro w A s u v Q E rfl rfl hq
  refine wpAny_isNot_plain (by cases a <;> cases b <;> rfl) ?_
  have e : (!(Value.bool a == Value.bool b)) = (a != b) := by cases a <;> cases b <;> decide
  rw [e]
  exact hq _
section
variable {F : FI} {N : Nat} {c : Cx F N} {ps : List PV} {W : Led} {Φ : Flow → Shared → Prop} {E : Value → Shared → Prop} {rest : List Stmt}
theorem In.addR {h h' : Heap} {L : PV → Led → Prop} {v : Value} (i₀ : In c ps W h) (i : In c ps W h') (r : RLed L h v h') : ∃ p W1, L p W1 ∧ p.rep v ∧ In c ps (W1 ++ W) h' := by
  obtain ⟨p, W1, nw, hL, hv, hl1, nd1, hq⟩ := r
  obtain ⟨m₀, news₀, hF₀, hN₀, _, hl₀, _⟩ := i₀
  obtain ⟨m, news, hF, hN, hf, hl, nd⟩ := i
  refine ⟨p, W1, hL, hv, m, nw ++ news, hF, fun q hm => ?_, hf, lrep_app hl1 hl, ?_⟩
  · rcases List.mem_append.mp hm with hm | hm
    · refine ⟨(hq q hm).2, fun e => ?_, ?_⟩
      · obtain ⟨oL, _, _, hL, _⟩ := hF₀.ns
        have := (hq q hm).1
        rw [e, hL] at this
        cases this
      · cases e : c.h₀.get? q.1 with
        | none => rfl
        | some o' => have := hF₀.keep _ _ e; rw [(hq q hm).1] at this; cases this
    · exact hN q hm
  · rw [List.map_append]
    refine List.nodup_append.mpr ⟨nd1, nd, fun a ha b hb e => ?_⟩
    subst e
    rw [lrep_map hl1] at ha
    rw [lrep_map hl₀] at hb
    obtain ⟨q1, h1, e1⟩ := List.mem_map.mp ha
    obtain ⟨q2, h2, e2⟩ := List.mem_map.mp hb
    have h3 := (hq q1 h1).1
    have h4 := (hN₀ q2 h2).1
    rw [e1] at h3
    rw [e2, h3] at h4
    cases h4
theorem En.conR {n : Nat} {f : Addr} {P : Heap → Prop} {L : PV → Led → Prop} {x : Str} {px pos : Pos} {e : PySem.Expr} {es : List PySem.Expr} {qs : List PV} (g : GName x f) (hk : F.scope.names.lookup x = some .globalImplicit) (ha : Es c ps W (e :: es) qs) (C : ∀ vs, reps qs vs → Con n f vs P (RLed L)) (hn : n ≤ N) (hP : ∀ h, In c ps W h → P h)
    (he : CallEq c (.Name x px) (e :: es) pos := by exact rfl) (hst : starEach (e :: es) c.env = (false, eval e c.env) :: starEach es c.env := by rfl) (hpl : (backTo pos (starEach es c.env)).any (·.1) = false := by rfl) : En c ps W (.Call (.Name x px) (e :: es) [] pos) (fun p W' => ∃ W1, L p W1 ∧ W' = W1 ++ W) :=
  fun _ _ _ _ i hq => Es.con g hk ha C hn hP i (fun h₁ v h' tk' i₁ i' _ r => by
    obtain ⟨p, W1, hL, hv, i2⟩ := i₁.addR i' r
    exact hq _ _ _ _ _ ⟨W1, hL, rfl⟩ hv i2) he hst hpl
theorem Ep.drop {e : PySem.Expr} {p : PV} {K : PV → Led → Prop} (h : En c ps W e K) (hk : ∀ q W', K q W' → q = p ∧ ∃ W1, W' = W1 ++ W) : Ep c ps W e p := fun _ _ _ _ i hq => h _ _ _ _ i fun q W' v h' tk' k r i' => by
  obtain ⟨rfl, W1, rfl⟩ := hk q W' k
  exact hq _ _ _ r i'.drop
theorem Ep.conE {n : Nat} {f : Addr} {x : Str} {px pos : Pos} {e : PySem.Expr} {es : List PySem.Expr} {K : List PV → Led → Prop} {p : PV} (g : GName x f) (hk : F.scope.names.lookup x = some .globalImplicit) (ha : Ens c ps W (e :: es) K) (hn : n ≤ N)
    (C : ∀ h qs W' vs, K qs W' → In c ps W' h → reps qs vs → ∃ P R, Con n f vs P R ∧ P h ∧ ∀ h v h', R h v h' → p.rep v) (hd : ∀ qs W', K qs W' → ∃ W1, W' = W1 ++ W)
    (he : CallEq c (.Name x px) (e :: es) pos := by exact rfl) (hst : starEach (e :: es) c.env = (false, eval e c.env) :: starEach es c.env := by rfl) (hpl : (backTo pos (starEach es c.env)).any (·.1) = false := by rfl) : Ep c ps W (.Call (.Name x px) (e :: es) [] pos) p := by
  intro h tk Q E i hq
  obtain ⟨m, news, hF, hN, hf, hl, nd⟩ := _root_.id i
  refine Call_ (Cx.nmK hF (g.n _) ?_ hk g.d) he
  refine callWith_K c.X (g.k _) (ha _ _ _ _ _ i fun qs W' vs h' tk' hK hr i' => ⟨?_, ?_⟩) hst hpl
  · obtain ⟨_, _, hF', _⟩ := _root_.id i'
    exact c.X.keeps hF'.keep
  · obtain ⟨P, R, C', hP, hR⟩ := C h' qs W' vs hK i' hr
    obtain ⟨W1, rfl⟩ := hd qs W' hK
    exact i'.call C' hn hP fun v h2 tk2 i2 _ r => hq _ _ _ (hR _ v h2 r) i2.drop
theorem ne_same {prog : Program} {w : World} {A : Around} {E : Value → Shared → Prop} {s : Shared} {l b : Addr} {xs ys : List (Str × Tok)} {Q : Value → Shared → Prop} (hl : s.heap.IsList l (strValues xs).toArray) (hb : s.heap.IsList b (strValues ys).toArray) (e : xs.map (·.1) = ys.map (·.1)) (hu : A.units < cLine)
    (h : Q (.bool false) s) : wpAny (model prog w) A (compareOp .NotEq (.ref l) (.ref b)) Q E s := by
  have hlen : xs.length = ys.length := by have := congrArg List.length e; simpa using this
  have hsz : (strValues xs).toArray.size = (strValues ys).toArray.size := by simp [strValues, hlen]
  refine PySem.SeqAt.RcNeAt.lists (e := fun _ => true) hl hb hsz hu (fun j h1 h2 => ?_) prog w E Q ?_
  · have i1 : j < xs.length := by simpa [strValues] using h1
    have i2 : j < ys.length := by lia
    have e1 : (strValues xs).toArray[j] = .str xs[j].1 xs[j].2 := by simp [strValues]
    have e2 : (strValues ys).toArray[j] = .str ys[j].1 ys[j].2 := by simp [strValues]
    have e3 : xs[j].1 = ys[j].1 := by
      have h3 : (xs.map (·.1))[j]? = (ys.map (·.1))[j]? := by rw [e]
      rw [List.getElem?_map, List.getElem?_map, List.getElem?_eq_getElem i1, List.getElem?_eq_getElem i2] at h3
      exact Option.some.inj h3
    rw [e1, e2, e3]
    have := (SeqRoads2.EqGives.str xs[j].1 ys[j].1 xs[j].2 ys[j].2).at A.in1 s
    rwa [e3, beq_self_eq_true] at this
  · rw [List.all_eq_true.mpr (fun _ _ => rfl)]; exact h
theorem Et.neL {e1 e2 : PySem.Expr} {pos : Pos} {a : Addr} {l : List Str} {K : PV → Led → Prop} (h1 : Ep c ps W e1 (.ref a)) (hm : (a, AO.strs l) ∈ W) (h2 : En c ps W e2 K) (hK : ∀ p W', K p W' → ∃ D, p = .ref D ∧ W' = (D, .strs l) :: W) (hb : behindInMarks .NotEq e2 = false := by rfl) : Et c ps W (.Compare e1 [.NotEq] [e2] pos) false := by
  intro whole hh tk Q E _ i hq
  refine wpAny_isTrue_Compare1 (h1 _ _ _ _ i fun v h' tk' r1 i1 => h2 _ _ _ _ i1 fun p W' u h2' tk2 hk r2 i2 => ?_) hb
  obtain ⟨D, rfl, rfl⟩ := hK p W' hk
  cases r1
  cases r2
  obtain ⟨ob, g1, ys, n, rfl, e1⟩ := i2.get (.tail _ hm)
  obtain ⟨ob2, g2, zs, n2, rfl, e2⟩ := i2.get (.head _)
  exact ne_same (s := c.st h2' tk2) (xs := ys) (ys := zs) ⟨_, g1, rfl, n, rfl⟩ ⟨_, g2, rfl, n2, rfl⟩ (e1.trans e2.symm) (by have := c.hu; lia) (wpAny_truthy_bool (hq _ _ i2.weak))
theorem En.addL {e1 e2 : PySem.Expr} {pos : Pos} {l1 l2 : List Str} (h1 : Ea c ps W e1 (.strs l1)) (h2 : ∀ a, Ea c ps ((a, .strs l1) :: W) e2 (.strs l2)) (hz : l1.length + l2.length ≤ 1000) : En c ps W (.BinOp e1 .Add e2 pos) (fun p W' => ∃ d a b, p = .ref d ∧ W' = (d, .strs (l1 ++ l2)) :: (b, .strs l2) :: (a, .strs l1) :: W) := by
  intro hh tk Q E i hq
  refine wpAny_BinOp (h1 _ _ _ _ i fun a h' tk' i1 => h2 a _ _ _ _ i1 fun b h2' tk2 i2 => ?_)
  obtain ⟨ob, g1, ys, n, rfl, e1⟩ := i2.get (.tail _ (.head _))
  obtain ⟨ob2, g2, zs, n2, rfl, e2⟩ := i2.get (.head _)
  obtain ⟨m, news, hF, hN, hf, hl, nd⟩ := _root_.id i2
  subst e1 e2
  rw [List.length_map, List.length_map] at hz
  have hs : (strValues ys).length + (strValues zs).length ≤ sizeLine := by unfold strValues; rw [List.length_map, List.length_map, sizeLine_eq]; lia
  refine add_lists (s := c.st h2' tk2) (vs := strValues ys) (ws := strValues zs) (hsz := hs) hF hN ⟨_, g1, rfl, n, rfl⟩ ⟨_, g2, rfl, n2, rfl⟩ fun h3 F3 N3 => hq _ _ _ _ tk2 ⟨_, a, b, rfl, rfl⟩ rfl (In.fresh F3 N3 hf hl nd ⟨ys ++ zs, 0, by unfold strValues; rw [List.map_append], by rw [List.map_append]⟩ fun q hq e => ?_)
  exact absurd (Heap.lt_size (hN q hq).1) (by rw [e]; exact Nat.lt_irrefl _)
theorem Et.notInL {e2 : PySem.Expr} {x : Str} {k : Nat} {px pos : Pos} {K : PV → Led → Prop} {l : List Str} (h2 : En c ps W e2 K) (hK : ∀ p W', K p W' → ∃ D W1, p = .ref D ∧ W' = (D, .strs l) :: (W1 ++ W)) (hb : behindInMarks .NotIn e2 = false := by rfl) : Et c ps W (.Compare (.Constant (.str x) k px) [.NotIn] [e2] pos) (!l.any (· == x)) := by
  intro whole hh tk Q E _ i hq
  refine wpAny_isTrue_Compare1 (Constant_str (h2 _ _ _ _ i fun p W' u h2' tk2 hk r2 i2 => ?_)) hb
  obtain ⟨D, W1, rfl, rfl⟩ := hK p W' hk
  cases r2
  obtain ⟨ob, g1, zs, n, rfl, rfl⟩ := i2.get (.head _)
  refine PySem.SeqAt.notIn_listAt (s := c.st h2' tk2) (isS fun a => a == x) ⟨_, g1, rfl, n, rfl⟩ (fun y hy => ?_) (wpAny_truthy_bool ?_)
  · have hy' : y ∈ strValues zs := by simpa using hy
    obtain ⟨q, hq, rfl⟩ := List.mem_map.mp hy'
    have := (SeqRoads2.EqGives.str q.1 x q.2 (c.st hh tk).toks).at c.A.in1 (c.st h2' tk2)
    rwa [cps_eqS] at this
  · have e : (strValues zs).toArray.any (isS fun a => a == x) = (zs.map (·.1)).any (· == x) := by
      rw [List.any_toArray]
      unfold strValues
      rw [List.any_map, List.any_map]
      rfl
    rw [e]
    exact hq _ _ i2.weak.drop
theorem slicePick_drop {ys : List (Str × Tok)} {k : Nat} : slicePick (strValues ys).toArray (some (k : Int)) none none = (strValues (ys.drop k)).toArray := by
  rw [slicePick_from']
  simp [strValues]
theorem Ea.dropS {v : PySem.Expr} {p pos : Pos} {k : Nat} {kk : Nat} {pk : Pos} {a : Addr} {l : List Str} (h1 : Ep c ps W v (.ref a)) (hm : (a, AO.strs l) ∈ W) (hn : l.length ≤ 1000000)
    (hs : ∀ d, subscripted (.Slice (some (.Constant (.int (k : Int)) kk pk)) Option.none Option.none p) false (.ref a) (.ref d) = operate [.ref d, .ref a] (getItem (.ref a) (.ref d)) := by intro _; rfl) (ht : ∀ r, letTemporaryGo v (.ref a) r = pure () := by intro _; rfl) :
    Ea c ps W (.Subscript v (.Slice (some (.Constant (.int (k : Int)) kk pk)) Option.none Option.none p) pos) (.strs (l.drop k)) := by
  intro h tk Q E i hq
  refine Subscript_ (h1 _ _ _ _ i fun o h' tk' ho i1 => wpAny_Slice (evalPart_some_step (wpAny_Constant_int (evalPart_none_step (evalPart_none_step ?_)))))
  cases ho
  obtain ⟨ob, g1, ys, n, rfl, rfl⟩ := i1.get hm
  obtain ⟨m, news, hF, hN, hf, hl, nd⟩ := i1
  rw [List.length_map] at hn
  refine kmk_slice (s := { c.st h' tk' with toks := _ }) hF hN ⟨_, g1, rfl, n, rfl⟩ (.int _ _) .none (fun D h3 F' N' lt => hq _ _ _ (In.fresh (ob := PySem.W.listOf (strValues (ys.drop k)).toArray 0) F' (by rw [slicePick_drop] at N'; exact N') hf hl nd ⟨ys.drop k, 0, rfl, by rw [List.map_drop]⟩ fun q hq e => ?_)) (hs _) ht (by simp [strValues, sizeLine_eq]; lia)
  exact absurd (lt q hq) (by rw [e]; exact Nat.lt_irrefl _)
end
end
section
open PySem PySem.W PySem.Calls PyProof.Rows
section
variable {F : FI} {N : Nat} {c : Cx F N} {ps : List PV} {W : Led} {Φ : Flow → Shared → Prop} {E : Value → Shared → Prop} {rest : List Stmt}
noncomputable def two (s1 s2 : Str) : List Str → List Str
  | [] => []
  | x :: r => (s1 ++ x) :: (s2 ++ x) :: two s1 s2 r
noncomputable def TwV (s1 s2 : Str) (vals : List Value) : Prop := ∃ t1 t2, vals = [Value.str s1 t1, .str s2 t2]
noncomputable def TwF : Value → Value → Value → Prop
  | .str a _, .str b _, z => ∃ t, z = .str (b ++ a) t
  | _, _, _ => False
theorem two_one {s1 s2 : Str} {v : Value} {l : List Value} {q : Str × Tok} (hv : v = .str q.1 q.2) : (∃ vals, TwV s1 s2 vals ∧ Paired (TwF v) vals l) → ∃ t3 t4, l = strValues [(s1 ++ q.1, t3), (s2 ++ q.1, t4)] := by
  rintro ⟨_, ⟨t1, t2, rfl⟩, h⟩
  subst hv
  cases h with
  | cons a1 h => cases h with
    | cons a2 h => cases h with
      | nil =>
        obtain ⟨t3, rfl⟩ := a1
        obtain ⟨t4, rfl⟩ := a2
        exact ⟨t3, t4, rfl⟩
theorem two_of {s1 s2 : Str} : ∀ {ys : List (Str × Tok)} {zss : List (List Value)}, Paired (fun v l => ∃ vals, TwV s1 s2 vals ∧ Paired (TwF v) vals l) (strValues ys) zss → ∃ zs : List (Str × Tok), zss.flatten = strValues zs ∧ zs.map (·.1) = two s1 s2 (ys.map (·.1))
  | [], _, .nil => ⟨[], rfl, rfl⟩
  | q :: r, _, .cons h t => by
    obtain ⟨zs, e1, e2⟩ := two_of (ys := r) t
    obtain ⟨t3, t4, rfl⟩ := two_one rfl h
    exact ⟨(s1 ++ q.1, t3) :: (s2 ++ q.1, t4) :: zs, by rw [List.flatten_cons, e1]; rfl, by rw [List.map_cons, List.map_cons, e2]; rfl⟩
theorem TwV.mem {s1 s2 : Str} {vals : List Value} {u : Value} {n : Nat} (h : TwV s1 s2 vals) (hu : u ∈ vals) (h1 : s1.length ≤ n) (h2 : s2.length ≤ n) : ∃ b t', u = Value.str b t' ∧ b.length ≤ n := by
  obtain ⟨t1, t2, rfl⟩ := h
  rcases List.mem_cons.mp hu with rfl | hu
  · exact ⟨_, _, rfl, h1⟩
  · rw [List.mem_singleton.mp hu]; exact ⟨_, _, rfl, h2⟩
theorem sub_in2 {Fc : FI} {sc : Scope} {cl : List (Str × Addr)} {x y a b : Str} {ta tb : Tok} {g : Heap} {C : Addr} {s₃ : Shared} {m₃ : Str → Option Value} {X : (Mine.hd.heap_39 c.w.params).In g} {T : Top c.p c.loose c.mean c.mg c.mb g} (hlo : Fc.locals = [y, x]) (hen : ∀ C, Fc.en C = compEnvC sc cl C c.env) (F' : Fr g C s₃.heap m₃) (hx : m₃ x = some (.str a ta)) (hy : m₃ y = some (.str b tb)) : In (Cx.sub (Fc := Fc) c g C s₃ X T) [.str b, .str a] [] s₃.heap := by
  have e : (Cx.sub (Fc := Fc) c g C s₃ X T).env.locals = C := by
    show (Fc.en C).locals = C
    rw [hen]; rfl
  exact ⟨_, [], by rw [e]; exact F', News.nil, by rw [hlo]; exact ⟨⟨_, hy, _, rfl⟩, ⟨_, hx, _, rfl⟩, trivial⟩, trivial, List.nodup_nil⟩
theorem two_elt {Fc : FI} {sc : Scope} {cl : List (Str × Addr)} {x y a b : Str} {ta tb : Tok} {g : Heap} {C : Addr} {s₃ : Shared} {m₃ : Str → Option Value} {E' : Value → Shared → Prop} {py2 px2 pb : Pos} (X : (Mine.hd.heap_39 c.w.params).In g) (T : Top c.p c.loose c.mean c.mg c.mb g) (hlo : Fc.locals = [y, x]) (hen : ∀ C, Fc.en C = compEnvC sc cl C c.env) (F' : Fr g C s₃.heap m₃) (hx : m₃ x = some (.str a ta)) (hy : m₃ y = some (.str b tb)) (hs : b.length + a.length ≤ sizeLine) :
    wpAny c.M c.A (eval (.BinOp (.Name y py2) .Add (.Name x px2) pb) (compEnvC sc cl C c.env)) (ElKeep (TwF (.str a ta)) (.str b tb) s₃) E' s₃ := by
  have a1 : At Fc.locals [.str b, .str a] y (.str b) := by rw [hlo]; exact .here
  have a2 : At Fc.locals [.str b, .str a] x (.str a) := by rw [hlo]; exact .there .here
  have := Ek.adds (c := Cx.sub (Fc := Fc) c g C s₃ X T) (pos := pb) (Ek.name (pos := py2) a1) (Ek.name (pos := px2) a2) hs s₃.heap s₃.toks (ElKeep (TwF (.str a ta)) (.str b tb) s₃) E' (sub_in2 hlo hen F' hx hy) (fun z h4 tk4 st4 _ r => ⟨r, h4, tk4, rfl, st4⟩)
  rw [show (Cx.sub (Fc := Fc) c g C s₃ X T).env = compEnvC sc cl C c.env from hen C] at this
  exact this
theorem Ea.comp2 {sc : Scope} {cl : List (Str × Addr)} {x y s1 s2 : Str} {iter : PySem.Expr} {Fc : FI} {px py px2 py2 pt pb pos k1 k2 : Pos} {n1 n2 n3 : Nat} {l : List Str} {a : Addr} (s : ScOk c.env sc cl x iter) (hy : sc.names.lookup y = some .local) (hxy : x ≠ y) (hi : Ep c ps W iter (.ref a)) (hm : (a, AO.strs l) ∈ W) (hl : l.length ≤ 1000) (hs1 : s1.length ≤ 1000) (hs2 : s2.length ≤ 1000) (hll : ∀ b ∈ l, b.length ≤ 1000)
    (hen : ∀ C, Fc.en C = compEnvC sc cl C c.env) (hlo : Fc.locals = [y, x])
    (hfold : ∀ C z, foldedSetIterable (.Tuple [.Constant (.str s1) n1 k1, .Constant (.str s2) n2 k2] n3 pt) (compEnvC sc cl C c.env) z = pure z := by intro _ _; rfl) :
    Ea c ps W (.ListComp (.BinOp (.Name y py2) .Add (.Name x px2) pb) [⟨.Name x px, iter, [], 0⟩, ⟨.Name y py, .Tuple [.Constant (.str s1) n1 k1, .Constant (.str s2) n2 k2] n3 pt, [], 0⟩] sc pos) (.strs (two s1 s2 l)) := by
  intro h tk Q E i hq
  refine lc_post s (hi _ _ _ _ i fun v h' tk' hr i' => ?_)
  cases hr
  obtain ⟨ob, g1, ys, n, rfl, rfl⟩ := i'.get hm
  rw [List.length_map] at hl
  obtain ⟨m, news, hF, hN, hf, hlr, nd⟩ := _root_.id i'
  have hls : h'.IsList a (strValues ys).toArray := ⟨_, g1, rfl, n, rfl⟩
  have hyl : (strValues ys).length ≤ 1000 := by unfold strValues; rw [List.length_map]; exact hl
  have st0 : c.h₀.StaysIn (hideAll (h'.push { cls := .type "list_iterator", data := .fields #[.ref a, .int 0 0] }) [h'.objs.size]) := fun b o e => hide_st b o (hF.keep b o e)
  refine wpAny_pyIter_list (s := c.st h' tk') hls (crest2 (VP := TwV s1 s2) (kk := 2) (fun _ ⟨_, _, e⟩ => by rw [e]; rfl) TwF (CWalk.list hls hyl) (by rw [sizeLine_eq]; exact Nat.le_trans (Nat.mul_le_mul_right _ (Nat.succ_le_succ hyl)) (by decide)) s hy hxy hfold hF hN (fun C s₂ E' => ?_) (fun i v u vals C s₃ m₃ E' hv hV hu F' hx hyv => ?_) fun D n' h2 tk2 zs vs F2 N2 hne hlen hP hp => ?_)
  · refine Tuple_ (args_cons (e := .Constant (.str s1) n1 k1) (Constant_str (args_cons (e := .Constant (.str s2) n2 k2) (Constant_str (args_nil ?_)) rfl)) rfl)
    exact wpAny_newObj_type (.mk (vals := [_, _]) ⟨_, Heap.get?_push_size _ rfl, rfl, _, rfl⟩ ⟨_, _, rfl⟩ push_stays)
  · obtain ⟨q, hq, rfl⟩ := List.mem_map.mp (List.mem_of_getElem? (i := i) (by rwa [List.getElem?_toArray] at hv))
    obtain ⟨b, t', rfl, hb⟩ := hV.mem hu hs1 hs2
    exact two_elt (c.X.keeps st0) (c.T.keeps st0) hlo hen F' hx hyv (by rw [sizeLine_eq]; exact Nat.le_trans (Nat.add_le_add hb (hll q.1 (List.mem_map_of_mem hq))) (by decide))
  · obtain rfl := eq_of_at hlen fun j v e => by have := hP j v e; rwa [List.getElem?_toArray] at this
    obtain ⟨zss, e, hp⟩ := hp
    obtain ⟨ws, e1, e2⟩ := two_of hp
    have e3 : zs = (strValues ws).toArray := by rw [← e1, ← e, Array.toArray_toList]
    subst e3
    exact hq _ _ _ (In.fresh F2 N2 hf hlr nd ⟨ws, n', rfl, e2⟩ hne)
end
end
section
open PySem PySem.W PySem.Calls PyProof.Rows
section
variable {F : FI} {N : Nat} {c : Cx F N} {ps : List PV} {W : Led} {Φ : Flow → Shared → Prop} {E : Value → Shared → Prop} {rest : List Stmt}
theorem En.rev {v : PySem.Expr} {kk : Nat} {pk pu p pos : Pos} {l : List Str} (h1 : Ea c ps W v (.strs l)) (hn : l.length ≤ 1000000)
    (hs : ∀ a d : Addr, ∃ ops, subscripted (.Slice Option.none Option.none (some (.UnaryOp .USub (.Constant (.int 1) kk pk) pu)) p) false (.ref a) (.ref d) = operate ops (getItem (.ref a) (.ref d)) := by intro _ _; exact ⟨_, rfl⟩) :
    En c ps W (.Subscript v (.Slice Option.none Option.none (some (.UnaryOp .USub (.Constant (.int 1) kk pk) pu)) p) pos) (fun q W' => ∃ a b, q = .ref b ∧ W' = (b, .strs l.reverse) :: (a, .strs l) :: W) := by
  intro h tk Q E i hq
  refine Subscript_ (h1 _ _ _ _ i fun a h' tk' i1 => wpAny_Slice (evalPart_none_step (evalPart_none_step (evalPart_some_step (UnaryOp_ (wpAny_Constant_int (neg_int ?_)))))))
  obtain ⟨ob, g1, ys, n, rfl, rfl⟩ := i1.get (.head _)
  obtain ⟨m, news, hF, hN, hf, hl, nd⟩ := i1
  rw [List.length_map] at hn
  obtain ⟨ops, ho⟩ := hs a h'.objs.size
  refine kba_turn (value' := .Name Str.empty p) (fun r => rfl) (slice_list3 (s := { c.st h' tk' with toks := _ }) hF hN ⟨_, g1, rfl, n, rfl⟩ .none .none (.int _ _) (by decide) (fun h3 F' N' => ?_) ho (fun r => rfl) (by simp [strValues, sizeLine_eq]; lia))
  refine hq _ _ _ _ _ ⟨a, _, rfl, rfl⟩ rfl (In.fresh (ob := PySem.W.listOf (strValues ys.reverse).toArray 0) F' (by rw [slicePick_rev, strValues_reverse] at N'; exact N') hf hl nd ⟨ys.reverse, 0, rfl, by rw [List.map_reverse]⟩ fun q hq e => ?_)
  have := Heap.lt_size (hN q hq).1
  rw [e] at this
  exact absurd this (Nat.not_lt.mpr (Nat.le_succ _))
end
theorem RList.of {F : FI} {N : Nat} {c : Cx F N} {ps : List PV} {W : Led} {D : Addr} {l : List Str} {v : Value} {h : Heap} (i : In c ps ((D, .strs l) :: W) h) (hv : (PV.ref D).rep v) : RList l c.h₀ v h := by
  cases hv
  obtain ⟨m, news, hF, hN, hf, hl, nd⟩ := i
  cases news with
  | nil => exact hl.elim
  | cons n nw =>
    obtain ⟨n1, n2⟩ := n
    obtain ⟨⟨e, ys, n, e2, e3⟩, _⟩ := hl
    have e' : D = n1 := e
    have e2' : n2 = _ := e2
    subst e' e2'
    exact .intro (hN _ (.head _)).2.2 (hN _ (.head _)).1 e3
noncomputable abbrev cfi {F : FI} {N : Nat} (c : Cx F N) (sc : Scope) (locs : List Str) (kf : sc.kind = .function) (lk : locs.all (fun x => sc.names.lookup x == some .local && !(x == Str.ofString "__debug__")) = true) (nd : locs.Nodup) (hr : relabel sc c.env = sc) : FI :=
  compFI c.env [] sc sc locs kf lk nd hr (by rw [Cx.env, F.hgl]) (by rw [Cx.env, F.hbu])
theorem Ts.one {F : FI} {N : Nat} {c : Cx F N} {ps : List PV} {e : PySem.Expr} {b : Bool} (h : Tk c ps e b) : Ts c ps [e] b := by
  intro hh tk E i
  exact tests_one (h _ _ _ _ _ rfl i fun h' tk' st _ => ⟨rfl, h', tk', rfl, st⟩)
def F260 : FI where
  qual := Str.ofString "_law_names"
  scope := { kind := .function, names := [(Str.ofString "text", .local)], isGenerator := false, isCoroutine := false, more := [(Str.ofString "fast", .str (Str.ofString "text")), (Str.ofString "fast", .str (Str.ofString "piece"))] }
  f := 260
  cd := .ref 259
  locals := [Str.ofString "text"]
noncomputable def ScP : Scope := { kind := .function, names := [(Str.ofString ".0", .local), (Str.ofString "piece", .local)], isGenerator := false, isCoroutine := false }
theorem t260 (t : Str) (tk : Tok) (hO : Ok t) : Con 4 260 [.str t tk] (fun _ => True) (fun h v h' => RList (lawNames t) h v h') := by
  have hn := hO.len
  have hn2 := hO.lower.len
  have hsl := split_len (Txt.lower t) (Str.ofString ".")
  refine Con.of (F := F260) (N := 3) (ps := [.str t]) (binds := [(Str.ofString "text", .str t tk)]) (fun q => by k_is) (fun q => by k_is) (fun s => BindsTo.of_eq (by kernel_rfl)) (locs rfl) rfl rfl (by decide) ⟨⟨_, rfl, _, rfl⟩, trivial⟩ fun c Φ E hE hP _ => ?_
  refine Rets.retN hE (.lcomp (sc := ScP) (out := lawNames t) ⟨by rfl, by decide, rfl, by decide +kernel, by decide +kernel, by intro _; rfl⟩ (.rev (.split (.meth0 sm_lower (.name .here) (.lower (by lia))) .str (by decide +kernel) (by rw [sizeLine_eq]; lia)) (by lia)) fun p W' hk nd => ?_) fun p W' v h' hk hv i => ?_
  · obtain ⟨a, b, rfl, rfl⟩ := hk
    exact .filter (q := fun a => !(a == Str.ofString "")) (Fc := cfi c ScP [Str.ofString "piece"] rfl (by decide +kernel) (by decide) rfl) (.head _) (by rw [List.length_reverse]; lia) (fun _ => rfl) rfl (fun c' b _ _ => .one (.cmp (.name (.ix 0 rfl rfl)) .str .nes)) (fun c' b _ _ _ => .name (.ix 0 rfl rfl))
  · obtain ⟨p0, W0, D, _, rfl, rfl⟩ := hk
    exact .of i hv
end
section
open PySem PySem.W PySem.Calls PyProof.Rows
noncomputable def signsOf (X : Str) : List Str := X.cps.toList.map fun c => ⟨#[c]⟩
theorem signs_vals {X : Str} {vs : List Value} (hl : vs.length = X.cps.size) (hv : ∀ j v, vs[j]? = some v → SignAt X j v) : ∃ l : List (Str × Tok), vs = strValues l ∧ l.map (·.1) = signsOf X := by
  obtain ⟨cps⟩ := X
  have : ∀ (cs : List Nat) (vs : List Value), vs.length = cs.length → (∀ (j : Nat) (v : Value), vs[j]? = some v → ∃ (c : Nat) (u : Tok), cs[j]? = some c ∧ v = Value.str ⟨#[c]⟩ u) → ∃ l : List (Str × Tok), vs = strValues l ∧ l.map (·.1) = cs.map fun c => (⟨#[c]⟩ : Str) := by
    intro cs
    induction cs with
    | nil => intro vs hl _; exact ⟨[], List.eq_nil_of_length_eq_zero hl, rfl⟩
    | cons c r ih =>
      intro vs hl hv
      cases vs with
      | nil => cases hl
      | cons v vs =>
        obtain ⟨c', u, hc, rfl⟩ := hv 0 v rfl
        obtain ⟨l, rfl, e⟩ := ih vs (Nat.succ.inj hl) (fun j v h => hv (j + 1) v h)
        cases hc
        exact ⟨(⟨#[c]⟩, u) :: l, rfl, by rw [List.map_cons, e, List.map_cons]⟩
  exact this cps.toList vs hl (fun j v h => by
    obtain ⟨c, u, hc, e⟩ := hv j v h
    exact ⟨c, u, by rw [← hc]; exact Array.getElem?_toList, e⟩)
section
variable {F : FI} {N : Nat} {c : Cx F N} {ps : List PV} {W : Led} {Φ : Flow → Shared → Prop} {E : Value → Shared → Prop} {rest : List Stmt}
theorem En.lcompS {sc : Scope} {cl : List (Str × Addr)} {x : Str} {ifs : List PySem.Expr} {iter : PySem.Expr} {Fc : FI} {q : Str → Bool} {px px2 pos : Pos} {X : Str} (s : ScOk c.env sc cl x iter) (hi : Ep c ps W iter (.str X)) (hX : X.length ≤ 1000) (hen : ∀ C, Fc.en C = compEnvC sc cl C c.env) (hlo : Fc.locals = [x])
    (tests : ∀ (c' : Cx Fc N) (b : Str), Ts c' [.str b] ifs (q b)) :
    En c ps W (.ListComp (.Name x px2) [⟨.Name x px, iter, ifs, 0⟩] sc pos) (fun p W' => ∃ D, p = .ref D ∧ W' = (D, .strs ((signsOf X).filter q)) :: W) := by
  intro h tk Q E i hq
  refine lc_post s (hi _ _ _ _ i fun v h' tk' hr i' => ?_)
  obtain ⟨t, rfl⟩ := hr
  obtain ⟨m, news, hF, hN, hf, hl, nd⟩ := _root_.id i'
  refine wpAny_pyIter_str (s := c.st h' tk') fun ob St Wk hst => crest (Pv := fun v => ∃ k u, v = .str ⟨#[k]⟩ u) (tp := isS q) (tf := StrV strOf) ⟨hen, hlo, ?_⟩ ⟨Wk _ c.hh, hst, fun b hb => by rw [Heap.size_push, List.mem_singleton.mp hb]; exact Nat.lt_succ_self _, by rw [sizeLine_eq]; exact Nat.le_trans hX (by decide)⟩ (fun j v ⟨k, u, _, e⟩ => ⟨k, u, e⟩) s hF hN fun D n' h2 tk2 ys vs F2 N2 hne _ _ hvl hvs hP => ?_
  · rintro c' _ ⟨k, u, rfl⟩ _
    exact ⟨.str ⟨#[k]⟩, ⟨_, rfl⟩, tests c' _, fun _ => (Ek.name (by rw [hlo]; exact .here)).keep⟩
  · obtain ⟨l, rfl, e⟩ := signs_vals hvl hvs
    obtain ⟨l', rfl, e2⟩ := strV_arr hP
    exact hq _ _ _ _ _ ⟨D, rfl, rfl⟩ rfl (In.fresh F2 N2 hf hl nd ⟨l', n', rfl, by rw [e2, strOf_filter, e]⟩ hne)
theorem Ep.eqNil {e : PySem.Expr} {p1 pos : Pos} {K : PV → Led → Prop} {l : List Str} (h : En c ps W e K) (hK : ∀ p W', K p W' → ∃ D, p = .ref D ∧ W' = (D, .strs l) :: W) (hb : behindInMarks .Eq (.List [] p1) = false := by rfl) : Ep c ps W (.Compare e [.Eq] [.List [] p1] pos) (.bool l.isEmpty) := by
  intro hh tk Q E i hq
  refine wpAny_Compare1 (h _ _ _ _ i fun p W' v h' tk' hk hr i1 => En.list0 _ _ _ _ i1 fun p2 W2 u h2 tk2 hk2 hr2 i2 => ?_) hb
  obtain ⟨D, rfl, rfl⟩ := hK p W' hk
  obtain ⟨b, rfl, rfl⟩ := hk2
  cases hr
  cases hr2
  obtain ⟨o1, g1, ys, n1, rfl, rfl⟩ := i2.get (.tail _ (.head _))
  obtain ⟨o2, g2, zs, n2, rfl, e2⟩ := i2.get (.head _)
  have i3 := i2.weak.weak
  have hu : c.A.units < cLine := by have := c.hu; lia
  cases zs with
  | cons _ _ => cases e2
  | nil =>
    cases ys with
    | nil => exact PySem.SeqAt.eq_listAt (s := c.st h2 tk2) (e := fun _ => true) ⟨_, g1, rfl, n1, rfl⟩ ⟨_, g2, rfl, n2, rfl⟩ rfl hu (fun j h1 _ => absurd h1 (Nat.not_lt_zero _)) (hq _ _ _ rfl i3)
    | cons y r => exact PySem.SeqAt.eq_list_lengthsAt (s := c.st h2 tk2) ⟨_, g1, rfl, n1, rfl⟩ ⟨_, g2, rfl, n2, rfl⟩ (by simp [strValues]) hu (hq _ _ _ rfl i3)
end
noncomputable def digits : Str := Str.ofString "0123456789"
noncomputable def lawFig (t : Str) : Bool := match (Txt.split t (Str.ofString ".")).getLast? with
  | some q => !((Txt.split t (Str.ofString ".")).length == 1) && !(q == Str.ofString "") && q.cps.toList.all fun c => Txt.contains digits ⟨#[c]⟩
  | none => false
theorem fig_all (X : Str) : ((signsOf X).filter fun a => !Txt.contains digits a).isEmpty = X.cps.toList.all fun c => Txt.contains digits ⟨#[c]⟩ := by
  unfold signsOf
  induction X.cps.toList with
  | nil => rfl
  | cons c r ih =>
    rw [List.map_cons, List.filter_cons, List.all_cons]
    cases Txt.contains digits ⟨#[c]⟩ with
    | true => rw [if_neg (by decide), Bool.true_and]; exact ih
    | false => rw [if_pos (by decide)]; rfl
def F248 : FI where
  qual := Str.ofString "_law_figures_last"
  scope := { kind := .function, names := [(Str.ofString "text", .local), (Str.ofString "pieces", .local), (Str.ofString "len", .globalImplicit)], isGenerator := false, isCoroutine := false, more := [(Str.ofString "fast", .str (Str.ofString "text")), (Str.ofString "fast", .str (Str.ofString "pieces")), (Str.ofString "fast", .str (Str.ofString "sign"))] }
  f := 248
  cd := .ref 247
  locals := [Str.ofString "text", Str.ofString "pieces"]
noncomputable def ScS : Scope := { kind := .function, names := [(Str.ofString ".0", .local), (Str.ofString "sign", .local)], isGenerator := false, isCoroutine := false }
theorem last_ex (t : Str) : ∃ q, (Txt.split t (Str.ofString ".")).getLast? = some q ∧ (Txt.split t (Str.ofString "."))[(Txt.split t (Str.ofString ".")).length - 1]? = some q := by
  have h := split_pos t (Str.ofString ".")
  have hq := List.getElem?_eq_getElem (l := Txt.split t (Str.ofString ".")) (i := (Txt.split t (Str.ofString ".")).length - 1) (by lia)
  exact ⟨_, by rw [List.getLast?_eq_getElem?]; exact hq, hq⟩
theorem fb : ∀ {a b c : Bool}, (a || (b || false)) = true → (!a && !b && c) = false := by decide
theorem fb2 : ∀ {a b : Bool} (c : Bool), (a || (b || false)) = false → (!a && !b && c) = c := by decide
theorem t248 (t : Str) (tk : Tok) (hO : Ok t) : Con 4 248 [.str t tk] (fun _ => True) (fun h v h' => v = .bool (lawFig t)) := by
  have hn := hO.len
  have hsl := split_len t (Str.ofString ".")
  obtain ⟨q, h1, h2⟩ := last_ex t
  have hq := (hO.split (List.mem_of_getElem? h2)).len
  refine Con.of (F := F248) (N := 3) (ps := [.str t, .unset]) (binds := [(Str.ofString "text", .str t tk)]) (fun q => by k_is) (fun q => by k_is) (fun s => BindsTo.of_eq (by kernel_rfl)) (locs rfl) rfl rfl (by decide) ⟨⟨_, rfl, _, rfl⟩, rfl, trivial⟩ fun c Φ E hE hP _ => ?_
  have hlen : (((Txt.split t (Str.ofString ".")).length : Int) == 1) = ((Txt.split t (Str.ofString ".")).length == 1) := by
    rw [Bool.eq_iff_iff, beq_iff_eq, beq_iff_eq]; lia
  refine .assignA (.split (.name .n0) .str (by decide +kernel) (by rw [sizeLine_eq]; lia)) (fun a => .n1) fun a => ?_
  refine .ifte (.bo (.or (.cmp (.callB bn_len rfl (.cons (.name .n1) .nil) (.lenS (.head _) (by lia))) .int .eqi) fun _ => .or (.cmp (.item (.name .n1) (.neg .int) (.head _) (.lastS h2)) .str .eqs) fun _ => .nilO)) (fun hb => .ret hE.seq .bool fun v h' hv _ => rep_b hv ?_) (fun hb => .seq (.ret hE (.eqNil (.lcompS (sc := ScS) (q := fun a => !Txt.contains digits a) (Fc := cfi c ScS [Str.ofString "sign"] rfl (by decide +kernel) (by decide) rfl) ⟨by rfl, by decide, rfl, by decide +kernel, by decide +kernel, by intro _; rfl⟩ (.item (.name .n1) (.neg .int) (.head _) (.lastS h2)) (by lia) (fun _ => rfl) rfl fun c' b => .one (.cmp (.name (.ix 0 rfl rfl)) .str .notInS)) fun p W' hk => hk) fun v h' hv _ => rep_b hv ?_))
  · unfold lawFig
    rw [h1]
    rw [hlen] at hb
    exact fb hb
  · unfold lawFig
    rw [h1, fig_all]
    rw [hlen] at hb
    exact fb2 _ hb
theorem gn_fig : GName (Str.ofString "_law_figures_last") 248 := ⟨fun q => by k_is, fun q => by k_is, by decide⟩
noncomputable def lawIsName (t : Str) : Bool := match (Txt.split t (Str.ofString "."))[0]?, (Txt.split t (Str.ofString ".")).getLast? with
  | some a, some b => a != Str.ofString "" && b != Str.ofString "" && !lawFig t
  | _, _ => false
def F255 : FI where
  qual := Str.ofString "_law_is_name"
  scope := { kind := .function, names := [(Str.ofString "text", .local), (Str.ofString "pieces", .local), (Str.ofString "_law_figures_last", .globalImplicit)], isGenerator := false, isCoroutine := false }
  f := 255
  cd := .ref 254
  locals := [Str.ofString "text", Str.ofString "pieces"]
theorem t255 (t : Str) (tk : Tok) (hO : Ok t) : Con 6 255 [.str t tk] (fun _ => True) (fun h v h' => v = .bool (lawIsName t)) := by
  have hn := hO.len
  obtain ⟨q, h1, h2⟩ := last_ex t
  have h3 := split_pos t (Str.ofString ".")
  have h0 := List.getElem?_eq_getElem (l := Txt.split t (Str.ofString ".")) (i := 0) (by lia)
  refine Con.of (F := F255) (N := 5) (ps := [.str t, .unset]) (binds := [(Str.ofString "text", .str t tk)]) (fun q => by k_is) (fun q => by k_is) (fun s => BindsTo.of_eq (by kernel_rfl)) (locs rfl) rfl rfl (by decide) ⟨⟨_, rfl, _, rfl⟩, rfl, trivial⟩ fun c Φ E hE hP _ => ?_
  refine .assignA (.split (.name .n0) .str (by decide +kernel) (by rw [sizeLine_eq]; lia)) (fun a => .n1) fun a => ?_
  refine .ret hE (.bo (.and (.cmp (.item (.name .n1) .int (.head _) (.strs (by decide) (by decide) h0)) .str .nes) fun _ => .and (.cmp (.item (.name .n1) (.neg .int) (.head _) (.lastS h2)) .str .nes) fun _ => .one (.notv (.con (n := 4) (p := .bool _) gn_fig rfl (.cons (.name .n0) .nil) (Con.s1' fun u => t248 _ u hO) (by decide) (fun _ _ => trivial) fun _ _ _ r => r) .bool))) fun v h' hv _ => rep_b hv ?_
  unfold lawIsName
  rw [h0, h1]
  exact Bool.and_assoc _ _ _
end
section
open PySem PySem.W PyProof.Rows PySem.StrLaws
noncomputable def glue (c : Nat) : List (List Nat) → List Nat
  | [] => []
  | [a] => a
  | a :: b :: r => a ++ c :: glue c (b :: r)
theorem tx_of1 (l : List Nat) : (⟨l.toArray⟩ : Str) = tx l := rfl
theorem join_glue (c : Nat) : ∀ ls : List (List Nat), Str.join (tx [c]) (ls.map tx) = tx (glue c ls)
  | [] => rfl
  | [a] => rfl
  | a :: b :: r => by
    show tx a ++ tx [c] ++ Str.join (tx [c]) ((b :: r).map tx) = _
    rw [join_glue c (b :: r), tx_app, tx_app]
    simp [glue]
theorem join_tx (c : Nat) (ls : List (List Nat)) : Txt.join (tx [c]) (ls.map tx) = tx (glue c ls) := by
  rw [show Txt.join (tx [c]) (ls.map tx) = PySem.Builtin.Str.glued (tx [c]) (ls.map tx) from rfl, glued_eq_join, join_glue]
theorem app_cut {c : Nat} {a b x y : List Nat} (ha : c ∉ a) (hb : c ∉ b) (h : a ++ c :: x = b ++ c :: y) : a = b ∧ x = y := by
  induction a generalizing b with
  | nil =>
    cases b with
    | nil => exact ⟨rfl, by simpa using h⟩
    | cons d b =>
      rw [List.nil_append, List.cons_append] at h
      injection h with h1 _
      exact absurd (h1 ▸ .head _) hb
  | cons d a ih =>
    cases b with
    | nil =>
      rw [List.nil_append, List.cons_append] at h
      injection h with h1 _
      exact absurd (h1 ▸ .head _) ha
    | cons e b =>
      rw [List.cons_append, List.cons_append] at h
      injection h with h1 h2
      have := ih (fun m => ha (.tail _ m)) (fun m => hb (.tail _ m)) h2
      exact ⟨by rw [h1, this.1], this.2⟩
theorem glue_inj {c : Nat} : ∀ {l k : List (List Nat)}, l ≠ [] → k ≠ [] → (∀ a ∈ l, c ∉ a) → (∀ a ∈ k, c ∉ a) → glue c l = glue c k → l = k
  | [], _, h, _, _, _, _ => absurd rfl h
  | _, [], _, h, _, _, _ => absurd rfl h
  | [a], [b], _, _, _, _, h => by rw [show a = b from h]
  | [a], b :: d :: r, _, _, hl, _, h => by
    have h' : a = b ++ c :: glue c (d :: r) := h
    exact absurd (by rw [h']; simp) (hl a (.head _))
  | a :: d :: r, [b], _, _, _, hk, h => by
    have h' : a ++ c :: glue c (d :: r) = b := h
    exact absurd (by rw [← h']; simp) (hk b (.head _))
  | a :: a' :: r, b :: b' :: q, _, _, hl, hk, h => by
    have h' : a ++ c :: glue c (a' :: r) = b ++ c :: glue c (b' :: q) := h
    obtain ⟨e1, e2⟩ := app_cut (hl a (.head _)) (hk b (.head _)) h'
    rw [e1, glue_inj (by simp) (by simp) (fun x hx => hl x (.tail _ hx)) (fun x hx => hk x (.tail _ hx)) e2]
theorem map_tx_toList (l : List Str) : (l.map fun x => x.cps.toList).map tx = l := by
  rw [List.map_map]
  conv => rhs; rw [← List.map_id l]
  exact List.map_congr_left fun x _ => (tx_of x).symm
theorem split_ne (x y : Str) : Txt.split x y ≠ [] := by
  intro h
  unfold Txt.split at h
  split at h
  · cases h
  · split at h
    · cases h
    · rw [partsBetween_eq] at h
      obtain ⟨p, r, e⟩ := partsFrom_ne x y.length 0 (PySem.Builtin.Str.occurrences x y 0 x.length (x.length + 1))
      rw [e] at h; cases h
theorem split_tx {c : Nat} {ls : List (List Nat)} (h0 : ls ≠ []) (hf : ∀ a ∈ ls, c ∉ a) : Txt.split (tx (glue c ls)) (tx [c]) = ls.map tx := by
  have h1 := join_split (tx (glue c ls)) (tx [c])
  have h2 := split_free (tx (glue c ls)) c
  have e0 : (⟨#[c]⟩ : Str) = tx [c] := rfl
  rw [e0] at h2
  generalize hs : Txt.split (tx (glue c ls)) (tx [c]) = sp at h1 h2
  have h3 : sp ≠ [] := hs ▸ split_ne _ _
  rw [← map_tx_toList sp, join_glue] at h1
  have h4 := tx_inj h1
  have h5 : sp.map (fun x => x.cps.toList) = ls := glue_inj (by simpa using h3) h0 (fun a ha => by
    obtain ⟨x, hx, rfl⟩ := List.mem_map.mp ha
    exact h2 x hx) hf h4
  rw [← h5, map_tx_toList]
theorem lower_tx {l : List Nat} (h : ∀ c ∈ l, c < 128) : Txt.lower (tx l) = tx (l.map lo1) := by
  rw [lower_ascii (by rw [tx_list]; exact h)]
  show (⟨l.toArray.map lo1⟩ : Str) = ⟨(l.map lo1).toArray⟩
  simp
theorem upper_tx {l : List Nat} (h : ∀ c ∈ l, c < 128) : Txt.upper (tx l) = tx (l.map up1) := by
  rw [upper_ascii (by rw [tx_list]; exact h)]
  show (⟨l.toArray.map up1⟩ : Str) = ⟨(l.map up1).toArray⟩
  simp
theorem glue_map (c : Nat) (f : Nat → Nat) (hf : f c = c) : ∀ ls : List (List Nat), (glue c ls).map f = glue c (ls.map (·.map f))
  | [] => rfl
  | [a] => rfl
  | a :: b :: r => by
    show (a ++ c :: glue c (b :: r)).map f = a.map f ++ c :: glue c ((b :: r).map (·.map f))
    rw [List.map_append, List.map_cons, hf, glue_map c f hf (b :: r)]
theorem mem_glue {c x : Nat} : ∀ {ls : List (List Nat)}, x ∈ glue c ls → x = c ∨ ∃ a ∈ ls, x ∈ a
  | [], h => nomatch h
  | [a], h => .inr ⟨a, .head _, h⟩
  | a :: b :: r, h => by
    have h' : x ∈ a ++ c :: glue c (b :: r) := h
    rcases List.mem_append.mp h' with h' | h'
    · exact .inr ⟨a, .head _, h'⟩
    · rcases List.mem_cons.mp h' with h' | h'
      · exact .inl h'
      · rcases mem_glue h' with h' | ⟨y, hy, hx⟩
        · exact .inl h'
        · exact .inr ⟨y, .tail _ hy, hx⟩
theorem glue_len {c n : Nat} : ∀ {ls : List (List Nat)}, (∀ a ∈ ls, a.length ≤ n) → (glue c ls).length ≤ ls.length * (n + 1)
  | [], _ => Nat.zero_le _
  | [a], h => by
    show a.length ≤ 1 * (n + 1)
    have := h a (.head _)
    lia
  | a :: b :: r, h => by
    show (a ++ c :: glue c (b :: r)).length ≤ (r.length + 1 + 1) * (n + 1)
    have h1 := h a (.head _)
    have h2 := glue_len (c := c) (ls := b :: r) fun x hx => h x (.tail _ hx)
    rw [Nat.add_mul (r.length + 1) 1 (n + 1), Nat.one_mul]
    rw [List.length_cons] at h2
    simp only [List.length_append, List.length_cons]
    lia
theorem glue_cons {c : Nat} {a : List Nat} {r : List (List Nat)} (h : r ≠ []) : glue c (a :: r) = a ++ c :: glue c r := by
  cases r with
  | nil => exact absurd rfl h
  | cons b r => rfl
theorem glue_snoc {c : Nat} {a : List Nat} : ∀ {r : List (List Nat)}, r ≠ [] → glue c (r ++ [a]) = glue c r ++ c :: a
  | [], h => absurd rfl h
  | [b], _ => rfl
  | b :: d :: r, _ => by
    show b ++ c :: glue c ((d :: r) ++ [a]) = (b ++ c :: glue c (d :: r)) ++ c :: a
    rw [glue_snoc (by simp)]
    simp
noncomputable def labN : List (List Nat) := [[98], [67, 111, 109], [97], [66], [55], [97, 98], [108, 111, 99, 97, 108], [], [76, 111, 99, 97, 108], [99, 111, 109], [97, 55], [99, 111]]
structure Good (G : List (List Nat)) : Prop where
  lo : G ≠ []
  hi : G.length ≤ 5
  lab : ∀ a ∈ G, a ∈ labN
noncomputable def isLow (c : Nat) : Bool := (97 ≤ c && c ≤ 122) || (48 ≤ c && c ≤ 57)
noncomputable def isAl (c : Nat) : Bool := isLow c || (65 ≤ c && c ≤ 90)
theorem lab_al : ∀ a ∈ labN, ∀ c ∈ a, isAl c = true := by decide
theorem lab_len : ∀ a ∈ labN, a.length ≤ 5 := by decide
theorem lab_tail : ∀ a ∈ labN, ∀ c ∈ a.tail, isLow c = true := by decide
theorem isAl_facts {c : Nat} (h : isAl c = true) : c < 128 ∧ c ≠ 10 ∧ c ≠ 46 ∧ c ≠ 47 := by
  simp [isAl, isLow] at h; lia
theorem Good.al {G : List (List Nat)} (h : Good G) : ∀ a ∈ G, ∀ c ∈ a, isAl c = true := fun a ha => lab_al a (h.lab a ha)
theorem Good.dot {G : List (List Nat)} (h : Good G) : ∀ a ∈ G, 46 ∉ a := fun a ha hm => (isAl_facts (h.al a ha _ hm)).2.2.1 rfl
theorem Good.sg {G : List (List Nat)} (h : Good G) : ∀ c ∈ glue 46 G, c = 46 ∨ isAl c = true := fun c hc => by
  rcases mem_glue hc with e | ⟨a, ha, hc⟩
  · exact .inl e
  · exact .inr (h.al a ha c hc)
theorem Good.asc {G : List (List Nat)} (h : Good G) : ∀ c ∈ glue 46 G, c < 128 ∧ c ≠ 10 ∧ c ≠ 47 := fun c hc => by
  rcases h.sg c hc with rfl | e
  · decide
  · have := isAl_facts e; exact ⟨this.1, this.2.1, this.2.2.2⟩
theorem Good.len {G : List (List Nat)} (h : Good G) : (glue 46 G).length ≤ 30 := by
  have h1 := glue_len (c := 46) (n := 5) (ls := G) fun a ha => lab_len a (h.lab a ha)
  have h2 := h.hi
  lia
noncomputable def lowG (G : List (List Nat)) : List (List Nat) := G.map (·.map lo1)
theorem lo_dot {a : List Nat} (h : ∀ c ∈ a, isAl c = true) : ∀ c ∈ a.map lo1, isLow c = true := fun c hc => by
  obtain ⟨d, hd, rfl⟩ := List.mem_map.mp hc
  have := h d hd
  unfold lo1
  simp [isAl, isLow] at this ⊢
  split <;> lia
theorem Good.low {G : List (List Nat)} (h : Good G) : Txt.lower (tx (glue 46 G)) = tx (glue 46 (lowG G)) := by
  rw [lower_tx fun c hc => (h.asc c hc).1, glue_map 46 lo1 (by decide)]
  rfl
theorem Good.lowal {G : List (List Nat)} (h : Good G) : ∀ a ∈ lowG G, ∀ c ∈ a, isLow c = true := fun a ha => by
  obtain ⟨b, hb, rfl⟩ := List.mem_map.mp ha
  exact lo_dot (h.al b hb)
theorem s_dot' : Str.ofString "." = tx [46] := by decide +kernel
theorem s_sl : Str.ofString "/" = tx [47] := by decide +kernel
theorem s_nil : Str.ofString "" = tx [] := by decide +kernel
theorem Good.split {G : List (List Nat)} (h : Good G) : Txt.split (tx (glue 46 G)) (Str.ofString ".") = G.map tx := by
  rw [s_dot']
  exact split_tx h.lo h.dot
theorem isLow_facts {c : Nat} (h : isLow c = true) : c < 128 ∧ c ≠ 10 ∧ c ≠ 46 ∧ c ≠ 47 := isAl_facts (by simp [isAl, h])
theorem Good.splitLow {G : List (List Nat)} (h : Good G) : Txt.split (Txt.lower (tx (glue 46 G))) (Str.ofString ".") = (lowG G).map tx := by
  rw [s_dot', h.low]
  refine split_tx (by simpa [lowG] using h.lo) fun a ha hm => ?_
  exact (isLow_facts (h.lowal a ha _ hm)).2.2.1 rfl
end
section
open PySem PySem.W PyProof.Rows PySem.StrLaws
noncomputable def dg (c : Nat) : Bool := PySem.Sre.isDigit c
theorem cntD_eq (l : List Nat) : ∀ (k p : Nat), p + k = l.length → cntD l.toArray k p = ((l.drop p).takeWhile dg).length
  | 0, p, h => by rw [List.drop_of_length_le (by lia)]; rfl
  | k + 1, p, h => by
    have hp : p < l.length := by lia
    rw [List.drop_eq_getElem_cons hp, List.takeWhile_cons]
    unfold cntD
    rw [cntD_eq l k (p + 1) (by lia)]
    have e : l.toArray.getD p 0 = l[p] := by simp [Array.getD, hp]
    rw [e]
    show (if dg l[p] = true then _ else _) = _
    split <;> rfl
theorem tw_all {l : List Nat} {p : Nat → Bool} : (l.takeWhile p).length = l.length ↔ l.all p = true := by
  induction l with
  | nil => simp
  | cons a r ih =>
    rw [List.takeWhile_cons, List.all_cons]
    cases h : p a with
    | true => simp [ih]
    | false => simp
theorem found_iff' (l : List Nat) : ∀ (d s : Nat), s + d = l.length → (found l.toArray d s = true ↔ ∃ i, s ≤ i ∧ l[i]? = some 46 ∧ i + 1 < l.length ∧ (l.drop (i + 1)).all dg = true)
  | 0, s, h => by
    constructor
    · intro h'; cases h'
    · rintro ⟨i, h1, h2, h3, _⟩; lia
  | d + 1, s, h => by
    have hs : s < l.length := h ▸ Nat.lt_add_of_pos_right (Nat.succ_pos d)
    have ih := found_iff' l d (s + 1) ((Nat.succ_add s d).trans h)
    have hc := cntD_eq l (l.length - (s + 1)) (s + 1) (Nat.add_sub_cancel' hs)
    have e : l.toArray.getD s 0 = l[s] := by simp [Array.getD, hs]
    have hsz : l.toArray.size = l.length := by simp
    unfold found
    rw [Bool.or_eq_true, ih, Bool.and_eq_true, Bool.and_eq_true, beq_iff_eq, decide_eq_true_eq, decide_eq_true_eq, e, hsz, hc]
    have hdl : (l.drop (s + 1)).length = l.length - (s + 1) := List.length_drop
    constructor
    · rintro (⟨⟨h1, h2⟩, h3⟩ | ⟨i, h1, h2⟩)
      · have h4 : ((l.drop (s + 1)).takeWhile dg).length = (l.drop (s + 1)).length := by lia
        exact ⟨s, Nat.le_refl _, by rw [List.getElem?_eq_getElem hs, h1], by lia, tw_all.mp h4⟩
      · exact ⟨i, by lia, h2⟩
    · rintro ⟨i, h1, h2, h3, h4⟩
      by_cases hi : i = s
      · subst hi
        have h5 := tw_all.mpr h4
        refine .inl ⟨⟨?_, by lia⟩, by lia⟩
        rw [List.getElem?_eq_getElem hs] at h2
        exact Option.some.inj h2
      · exact .inr ⟨i, by lia, h2, h3, h4⟩
noncomputable def figL (G : List (List Nat)) : Bool := decide (2 ≤ G.length) && !((G.getLast?.getD []).isEmpty) && (G.getLast?.getD []).all dg
theorem dg_dot {b : List Nat} (h : b.all dg = true) : 46 ∉ b := fun hm => by
  have := List.all_eq_true.mp h _ hm
  revert this; decide
theorem last_cut {c : Nat} {a b x y : List Nat} (ha : c ∉ a) (hb : c ∉ b) (h : x ++ c :: a = y ++ c :: b) : x = y ∧ a = b := by
  have h' := congrArg List.reverse h
  simp only [List.reverse_append, List.reverse_cons, List.append_assoc, List.singleton_append] at h'
  have := app_cut (by simpa using ha) (by simpa using hb) h'
  exact ⟨List.reverse_inj.mp this.2, List.reverse_inj.mp this.1⟩
theorem found_glue {G : List (List Nat)} (h0 : G ≠ []) (hf : ∀ a ∈ G, 46 ∉ a) : found (glue 46 G).toArray (glue 46 G).length 0 = figL G := by
  rw [Bool.eq_iff_iff, found_iff' _ _ 0 (by lia)]
  obtain ⟨K, a, rfl⟩ : ∃ K a, G = K ++ [a] := ⟨G.dropLast, G.getLast h0, (List.dropLast_concat_getLast h0).symm⟩
  have ha : 46 ∉ a := hf a (by simp)
  unfold figL
  rw [List.getLast?_append, List.getLast?_singleton]
  simp only [Option.some_or, Option.getD_some, List.length_append, List.length_cons, List.length_nil, Bool.and_eq_true, decide_eq_true_eq, Bool.not_eq_true', List.isEmpty_eq_false_iff]
  by_cases hK : K = []
  · subst hK
    constructor
    · rintro ⟨i, _, h2, _⟩
      exact absurd (List.mem_of_getElem? h2) ha
    · rintro ⟨⟨h1, _⟩, _⟩; simp at h1
  · rw [glue_snoc hK]
    have hKl : 1 ≤ K.length := List.length_pos_iff.mpr hK
    constructor
    · rintro ⟨i, _, h2, h3, h4⟩
      have hi := (List.getElem?_eq_some_iff.mp h2).1
      have e : glue 46 K ++ 46 :: a = (glue 46 K ++ 46 :: a).take i ++ 46 :: (glue 46 K ++ 46 :: a).drop (i + 1) := by
        conv => lhs; rw [← List.take_append_drop i (glue 46 K ++ 46 :: a), List.drop_eq_getElem_cons hi]
        rw [(List.getElem?_eq_some_iff.mp h2).2]
      obtain ⟨_, e2⟩ := last_cut ha (dg_dot h4) e
      rw [← e2] at h4
      refine ⟨⟨by lia, ?_⟩, h4⟩
      intro e3
      have h5 := congrArg List.length e2
      rw [e3, List.length_drop] at h5
      rw [e3] at h3
      simp only [List.length_append, List.length_cons, List.length_nil] at h3 h5
      lia
    · rintro ⟨⟨_, h1⟩, h2⟩
      refine ⟨(glue 46 K).length, Nat.zero_le _, by simp, ?_, ?_⟩
      · have := List.length_pos_iff.mpr h1
        simp; lia
      · rw [show glue 46 K ++ 46 :: a = (glue 46 K ++ [46]) ++ a by simp, List.drop_left' (by simp)]
        exact h2
theorem fig_two {G : List (List Nat)} (h : figL G = true) : 2 ≤ (glue 46 G).length := by
  unfold figL at h
  simp only [Bool.and_eq_true, decide_eq_true_eq] at h
  obtain ⟨⟨h1, h2⟩, _⟩ := h
  match G, h1, h2 with
  | [a, b], _, h2 =>
    have : b ≠ [] := by simpa using h2
    have := List.length_pos_iff.mpr this
    simp [glue]; lia
  | a :: b :: c :: r, _, _ => simp [glue]; lia
theorem dg_lo (c : Nat) : dg (lo1 c) = dg c := by
  unfold dg lo1 PySem.Sre.isDigit
  split
  · rw [Bool.eq_iff_iff]; simp; lia
  · rfl
theorem fig_low (G : List (List Nat)) : figL (lowG G) = figL G := by
  unfold figL lowG
  rw [List.length_map, List.getLast?_map]
  cases G.getLast? with
  | none => rfl
  | some a =>
    simp only [Option.map_some, Option.getD_some, List.isEmpty_map, List.all_map]
    congr 2
    funext c; exact dg_lo c
end
section
open PySem PySem.W PyProof.Rows PySem.StrLaws
structure Dl (G : List (List Nat)) : Prop where
  lo : G ≠ []
  dot : ∀ a ∈ G, 46 ∉ a
theorem Good.dl {G : List (List Nat)} (h : Good G) : Dl G := ⟨h.lo, h.dot⟩
theorem Good.dlLow {G : List (List Nat)} (h : Good G) : Dl (lowG G) := ⟨by simpa [lowG] using h.lo, fun a ha hm => (isLow_facts (h.lowal a ha _ hm)).2.2.1 rfl⟩
theorem Dl.split {G : List (List Nat)} (h : Dl G) : Txt.split (tx (glue 46 G)) (Str.ofString ".") = G.map tx := by
  rw [s_dot']
  exact split_tx h.lo h.dot
theorem Dl.ip4 {G : List (List Nat)} (h : Dl G) : ip4 (tx (glue 46 G)) = figL G := by
  have e1 : (tx (glue 46 G)).cps = (glue 46 G).toArray := rfl
  unfold Mine.ip4
  rw [e1, List.size_toArray, found_glue h.lo h.dot]
  cases hf : figL G with
  | false => simp
  | true => simp [fig_two hf]
theorem tx_beq (a b : List Nat) : (tx a == tx b) = (a == b) := by
  rw [Bool.eq_iff_iff, beq_iff_eq, beq_iff_eq]
  exact ⟨tx_inj, fun h => by rw [h]⟩
theorem dig_has (c : Nat) : Txt.contains digits ⟨#[c]⟩ = dg c := by
  have e : digits.cps.toList = List.range' 48 10 := by decide +kernel
  unfold Txt.contains
  rw [found_one, e, Bool.eq_iff_iff, decide_eq_true_iff, List.mem_range'_1]
  show _ ↔ (decide _ && decide _) = true
  rw [Bool.and_eq_true, decide_eq_true_iff, decide_eq_true_iff]
  exact and_congr_right fun _ => Nat.lt_succ_iff
theorem last_map {G : List (List Nat)} : (G.map tx).getLast? = G.getLast?.map tx := List.getLast?_map
theorem last_some {G : List (List Nat)} (h : G ≠ []) : G.getLast? = some (G.getLast?.getD []) := by
  cases e : G.getLast? with
  | none => exact absurd (List.getLast?_eq_none_iff.mp e) h
  | some a => rfl
theorem Dl.fig {G : List (List Nat)} (h : Dl G) : lawFig (tx (glue 46 G)) = figL G := by
  unfold lawFig
  rw [h.split, last_map, last_some h.lo]
  show (!((G.map tx).length == 1) && !(tx _ == Str.ofString "") && _) = _
  rw [List.length_map, s_nil, tx_beq, tx_list]
  have e : (fun c => Txt.contains digits ⟨#[c]⟩) = dg := funext dig_has
  rw [e]
  unfold figL
  have hl := List.length_pos_iff.mpr h.lo
  congr 2
  · rw [Bool.eq_iff_iff]; simp; lia
  · cases (G.getLast?.getD []) <;> rfl
noncomputable def nameL (G : List (List Nat)) : Bool := !((G.head?.getD []).isEmpty) && !((G.getLast?.getD []).isEmpty) && !figL G
theorem emp_beq (a : List Nat) : (a != []) = !a.isEmpty := by cases a <;> rfl
theorem tx_bne (a b : List Nat) : (tx a != tx b) = (a != b) := by unfold bne; rw [tx_beq]
theorem Dl.name {G : List (List Nat)} (h : Dl G) : lawIsName (tx (glue 46 G)) = nameL G := by
  unfold lawIsName
  rw [h.split, last_map, last_some h.lo, h.fig]
  obtain ⟨a, r, rfl⟩ : ∃ a r, G = a :: r := by
    cases G with
    | nil => exact absurd rfl h.lo
    | cons a r => exact ⟨a, r, rfl⟩
  show (tx a != Str.ofString "" && tx _ != Str.ofString "" && _) = _
  rw [s_nil, tx_bne, tx_bne, emp_beq, emp_beq]
  rfl
theorem item_last {l : List Nat} {c : Nat} : Txt.item (tx (l ++ [c])) (-1) = tx [c] := by
  have := at_neg (x := tx (l ++ [c])) (i := -1) (n := c) (by lia) (by rw [tx_len]; simp; lia) (by rw [tx_len]; simp [tx]; rw [show ((-1 : Int) + (↑l.length + 1)).toNat = l.length by lia]; simp)
  unfold Txt.item Txt.charAt
  rw [this]
  rfl
theorem glue_last {G : List (List Nat)} {a : List Nat} {c : Nat} (K : List (List Nat)) (h : G = K ++ [a ++ [c]]) : ∃ l, glue 46 G = l ++ [c] := by
  subst h
  by_cases hK : K = []
  · subst hK; exact ⟨a, rfl⟩
  · rw [glue_snoc hK]; exact ⟨glue 46 K ++ 46 :: a, by simp⟩
theorem Dl.hdn {G : List (List Nat)} (h : Dl G) : isHDN (tx (glue 46 G)) = nameL G := by
  unfold isHDN nameL
  rw [h.ip4]
  cases hf : figL G with
  | true => simp
  | false =>
    simp only [Bool.not_false, Bool.true_and, Bool.and_true]
    obtain ⟨a, r, rfl⟩ : ∃ a r, G = a :: r := by
      cases G with
      | nil => exact absurd rfl h.lo
      | cons a r => exact ⟨a, r, rfl⟩
    have ha := h.dot a (.head _)
    cases a with
    | nil =>
      simp only [List.head?_cons, Option.getD_some, List.isEmpty_nil, Bool.not_true, Bool.false_and]
      by_cases hr : r = []
      · subst hr
        rw [show glue 46 [[]] = [] from rfl, s_nil]
        simp
      · rw [glue_cons hr, List.nil_append, show (0 : Int) = ((0 : Nat) : Int) from rfl, item_tx (c := 46) rfl, s_dot']
        simp
    | cons x a =>
      simp only [List.head?_cons, Option.getD_some, List.isEmpty_cons, Bool.not_false, Bool.true_and]
      obtain ⟨g, hg⟩ : ∃ g, glue 46 ((x :: a) :: r) = x :: g := by
        by_cases hr : r = []
        · subst hr; exact ⟨a, rfl⟩
        · rw [glue_cons hr]; exact ⟨_, rfl⟩
      have h1 : (tx (glue 46 ((x :: a) :: r)) == Str.ofString "") = false := by rw [hg, s_nil, tx_beq]; rfl
      have hx : x ≠ 46 := fun e => ha (e ▸ .head _)
      have h2 : (Txt.item (tx (glue 46 ((x :: a) :: r))) 0 == Str.ofString ".") = false := by
        rw [hg, show (0 : Int) = ((0 : Nat) : Int) from rfl, item_tx (c := x) rfl, s_dot', tx_beq]
        simp [hx]
      rw [h1, h2]
      simp only [Bool.not_false, Bool.true_and]
      have hlast := last_some h.lo
      generalize (((x :: a) :: r).getLast?.getD []) = z at hlast
      obtain ⟨K, hK⟩ : ∃ K, (x :: a) :: r = K ++ [z] := by
        obtain ⟨K, hK⟩ := List.getLast?_eq_some_iff.mp hlast
        exact ⟨K, hK⟩
      have hz : 46 ∉ z := h.dot z (by rw [hK]; simp)
      rcases List.eq_nil_or_concat z with e | ⟨z', c, e⟩
      · subst e
        have hKn : K ≠ [] := by rintro rfl; simp at hK
        rw [hK, glue_snoc hKn, item_last, s_dot']
        simp
      · rw [List.concat_eq_append] at e
        subst e
        obtain ⟨l, hl⟩ := glue_last K hK
        rw [hl, item_last, s_dot', tx_beq]
        have : c ≠ 46 := fun e => hz (by simp [e])
        have e2 : ([c] == [46]) = false := by simp [this]
        rw [e2]
        simp
theorem name_low (G : List (List Nat)) : nameL (lowG G) = nameL G := by
  unfold nameL
  rw [fig_low]
  unfold lowG
  rw [List.getLast?_map, List.head?_map]
  congr 2
  · cases G.head? <;> simp
  · cases G.getLast? <;> simp
end
section
open PySem PySem.W PySem.Calls PyProof.Rows
theorem kind_issub : builtinKind "issubclass" = none := by decide +kernel
theorem plain_issub : plainId "issubclass" = true := by decide +kernel
theorem entry_issub : entryFor table "issubclass" = some Builtin.«issubclass» := entryFor_of_tree (by kernel_rfl)
theorem entry_issubn : entryFor table "issubclass.nested" = some Builtin.«issubclass.nested» := entryFor_of_tree (by kernel_rfl)
theorem args_issub (a b : Value) : argsOk "issubclass" ⟨[a, b], []⟩ := by
  unfold argsOk; kernel_rfl
theorem kind_issubn : builtinKind "issubclass.nested" = none := by decide +kernel
theorem plain_issubn : plainId "issubclass.nested" = true := by decide +kernel
theorem args_issubn (a b c : Value) : argsOk "issubclass.nested" ⟨[a, b, c], []⟩ := by
  unfold argsOk; kernel_rfl
theorem sub_str_str : isSubtype (.type "str") (.type "str") = pure true := by rw [isSubtype_type]; kernel_rfl
theorem sub_type_type : isSubtype (.type "type") (.type "type") = pure true := by rw [isSubtype_type]; kernel_rfl
theorem type_str_type : typeOf (.type "str") = pure (.type "type") := by kernel_rfl
section
variable {prog : Program} {w : World} {A : Around} {E : Value → Shared → Prop} {s : Shared}
theorem code_fn {id : String} {b : Builtin} {args : List Value} {R : Result → Shared → Prop} (hk : builtinKind id = none) (hp : plainId id = true) (hb : entryFor table id = some b) (ha : argsOk id ⟨args, []⟩)
    (hc : wpAny (model prog w) A.in1 (b ⟨args, []⟩) (fun fin s' => match fin with
      | .done f => R (.ok f) s'
      | .again c' => c'.quiet = true ∧ codeAny (model prog w) A c' R s') (fun e s' => R (.error e) s') s) :
    codeAny (model prog w) A (.call (.builtin id) ⟨args, []⟩) R s := by
  refine codeAny_call_builtin hp hb ?_
  simp only [checkBuiltinCall, hk]
  cases hsig : Manifest.signature? id with
  | none => exact wpAny_pure hc
  | some sig =>
    simp only [argsOk, hsig] at ha
    have h2 : Bind.checkArgs id sig ⟨args, []⟩ = pure () := ha
    show wpAny _ _ (Bind.checkArgs id sig ⟨args, []⟩) _ _ s
    rw [h2]; exact wpAny_pure hc
theorem issubn_str {dep : Int} {tk : Tok} {R : Result → Shared → Prop} (h : R (.ok (.ret (.bool true))) s) :
    codeAny (model prog w) A (.call (.builtin "issubclass.nested") ⟨[.type "str", .type "str", .int dep tk], []⟩) R s := by
  refine code_fn kind_issubn plain_issubn entry_issubn (args_issubn _ _ _) ?_
  have f1 := sub_str_str
  have f2 := sub_type_type
  have f3 := type_str_type
  repeat (any_goals (first | assumption | wp_step))
theorem call_issub_str {tp : Addr} {n : Nat} {Q : Value → Shared → Prop} (htp : s.heap.get? tp = some { cls := .type "tuple", data := .seq #[.type "str", .type "bytes"] n }) (h : ∀ tk, Q (.bool true) { s with toks := tk }) :
    wpAny (model prog w) A (call (.builtin "issubclass") [.type "str", .ref tp]) Q E s := by
  refine call_function_any kind_issub plain_issub entry_issub (args_issub _ _) ?_
  unfold Builtin.«issubclass»
  repeat (any_goals (first | assumption | wp_step))
  refine ⟨Code.quiet_builtin _ (by decide +kernel), codeAny_builtin entry_issubn ?_⟩
  rw [Around.under_plain (show (Code.builtin "issubclass.nested" ⟨[.type "str", .ref tp, rawInt 0], []⟩).weight = 0 from rfl) rfl]
  have hT2 : s.TypeIs (.ref tp) "tuple" := ⟨_, htp, rfl⟩
  have f1 := F.isi_sub_tuple
  repeat (any_goals (first | assumption | wp_step))
  refine issubn_str ?_
  repeat (any_goals (first | assumption | wp_step))
  exact h s.toks
end
section
variable {prog : Program} {w : World} {A : Around} {E : Value → Shared → Prop} {s : Shared} {K : Frag} {h₀ : Heap} {mg mb : Str → Option Value} {p : Program} {loose : List Str} {mean : ExcName → Option Value} {Q : Value → Shared → Prop}
theorem enterV {name qual : Str} {params : Arguments} {body : List Stmt} {scope : Scope} {dV kV doc pm cdv ct oc : Value} {an od : Option Addr} {osl : Array (Option Value)} {f : Addr} {pos : List Value} {kw : List (Str × Value)} {front : List (Str × Value)} {nr : Str} {vs : List Value}
    (X : K.In h₀) (T : Top p loose mean mg mb h₀) (hs : s.heap = h₀)
    (ho : K.lookup f = some ⟨oc, od, .func (fnOf name qual params body scope dV kV doc pm an cdv ct), osl⟩) (hcd : codeIn K cdv qual = true) (hroom : A.depth < recursionLimit)
    (hbind : bindArgs (fnOf name qual params body scope dV kV doc pm an cdv ct) ⟨pos, kw⟩ = newTuple vs >>= fun t => pure (front ++ [(nr, t)])) (hsz : vs.length ≤ sizeLine) (hloc : ∀ D, ∀ y ∈ front ++ [(nr, Value.ref D)], scope.names.lookup y.1 = some .local)
    (h : ∀ D h₁ tk₁, Fr h₀ (h₀.objs.size + 1) h₁ (fun y => (front ++ [(nr, Value.ref D)]).reverse.lookup y) → News h₀ (h₀.objs.size + 1) h₁ [(D, { cls := .type "tuple", data := .seq vs.toArray })] →
      wpAny (model prog w) (A.deeper (envOf qual scope (h₀.objs.size + 1) f cdv)) (execs body (envOf qual scope (h₀.objs.size + 1) f cdv))
        (fun fl s' => Q (match fl with | .ret v => v | _ => .none) s')
        (fun e s' => wpAny (model prog w) (A.deeper (envOf qual scope (h₀.objs.size + 1) f cdv)) (leaving (envOf qual scope (h₀.objs.size + 1) f cdv) e) (fun _ s'' => E e s'') (fun e' s'' => E e' s'') s')
        { s with heap := h₁, toks := tk₁ })
    (hco : scope.isCoroutine = false) (hgen : scope.isGenerator = false) (hk : scope.kind = .function)
    (hcell : ∀ x ∈ scope.names, x.2 ≠ .cell) : wpAny (model prog w) A (call (.ref f) pos kw) Q E s := by
  subst hs
  refine wpAny_call ?_
  refine codeAny_call_function (fd := fnOf name qual params body scope dV kV doc pm an cdv ct) (body := body) hroom (X _ _ ho) rfl hco hgen rfl (codeRec_of X hcd) ?_
  rw [hbind]
  refine wpAny_bind (wpAny_newTuple (hsz := hsz) (wpAny_pure ?_))
  refine wpAny_newFunctionEnv hcell (hloc _) (fun h₁ hns₁ hsb₁ => ⟨?_, codeAny_func ?_⟩) hk
  · exact (T.nolimit.keeps fun b o e => Heap.get?_push_of_some _ e).fresh _ hsb₁
  · dsimp only at hns₁ hsb₁ ⊢
    have e1 : (s.heap.push { cls := .type "tuple", data := .seq vs.toArray }).objs.size = s.heap.objs.size + 1 := Heap.size_push ..
    have hk₁ : ∀ b o, (s.heap.push { cls := .type "tuple", data := .seq vs.toArray }).get? b = some o → h₁.get? b = some o := fun b o e => hsb₁.extBut b o (Nat.ne_of_lt (Heap.lt_size e)) (Heap.get?_push_of_some _ e)
    have hk₀ : ∀ b o, s.heap.get? b = some o → h₁.get? b = some o := fun b o e => hk₁ b o (Heap.get?_push_of_some _ e)
    rw [e1] at hns₁
    have key := h s.heap.objs.size h₁ (s.toks + (front ++ [(nr, Value.ref s.heap.objs.size)]).length) ⟨hns₁, hk₀, Nat.le_succ _⟩ (fun q hq => by
      rw [List.mem_singleton.mp hq]
      refine ⟨hk₁ _ _ (Heap.get?_push_size _ rfl), Nat.ne_of_lt (Nat.lt_succ_self _), ?_⟩
      cases e : s.heap.get? s.heap.objs.size with
      | none => rfl
      | some o => exact absurd (Heap.lt_size e) (Nat.lt_irrefl _))
    rw [e1]
    exact key
end
end
section
open PySem PySem.W PySem.Calls PyProof.Rows
theorem bv_type : BVal (Str.ofString "type") (.type "type") := ⟨fun q => by k_is, by boot_fast, by decide, by decide⟩
theorem bn_issub : BName (Str.ofString "issubclass") "issubclass" := ⟨fun q => by k_is, Boot.issubclass, by decide, by decide⟩
noncomputable def tup3A (x y z : Str) : AO := .pred fun o => ∃ t1 t2 t3, o = { cls := .type "tuple", data := .seq #[.str x t1, .str y t2, .str z t3] }
section
variable {F : FI} {N : Nat} {c : Cx F N} {ps : List PV} {W : Led} {Φ : Flow → Shared → Prop} {E : Value → Shared → Prop} {rest : List Stmt}
theorem Ep.typeS {px pos : Pos} {e : PySem.Expr} {x : Str} (hk : F.scope.names.lookup (Str.ofString "type") = some .globalImplicit) (h : Ep c ps W e (.str x))
    (he : CallEq c (.Name (Str.ofString "type") px) [e] pos := by exact rfl) (hst : starEach [e] c.env = (false, eval e c.env) :: starEach [] c.env := by rfl) : Ep c ps W (.Call (.Name (Str.ofString "type") px) [e] [] pos) (.val (.type "str")) := by
  intro hh tk Q E i hq
  obtain ⟨m, news, hF, hN, hf, hl, nd⟩ := _root_.id i
  refine Call_ (Cx.nmB hF (bv_type.n _) bv_type.b bv_type.u ?_ hk bv_type.d) he
  refine PyProof.Rows.callWith_type1 (args_cons (h _ _ _ _ i fun v h' tk' r i1 => args_nil ?_) hst) hst
  obtain ⟨t, rfl⟩ := r
  exact call_type_of (typeIs_str _ x t) (by decide) (hq _ _ _ rfl i1)
theorem Et.issub {px p1 p2 pt pos : Pos} {k : Nat} {e : PySem.Expr} (hk : F.scope.names.lookup (Str.ofString "issubclass") = some .globalImplicit) (hk1 : F.scope.names.lookup (Str.ofString "str") = some .globalImplicit) (hk2 : F.scope.names.lookup (Str.ofString "bytes") = some .globalImplicit) (h : Ep c ps W e (.val (.type "str")))
    (he : CallEq c (.Name (Str.ofString "issubclass") px) [e, .Tuple [.Name (Str.ofString "str") p1, .Name (Str.ofString "bytes") p2] k pt] pos := by exact rfl) (hst : starEach [e, .Tuple [.Name (Str.ofString "str") p1, .Name (Str.ofString "bytes") p2] k pt] c.env = (false, eval e c.env) :: starEach [.Tuple [.Name (Str.ofString "str") p1, .Name (Str.ofString "bytes") p2] k pt] c.env := by rfl)
    (hp : ∀ whole, whole = eval (.Call (.Name (Str.ofString "issubclass") px) [e, .Tuple [.Name (Str.ofString "str") p1, .Name (Str.ofString "bytes") p2] k pt] [] pos) c.env → PySem.isTrue (.Call (.Name (Str.ofString "issubclass") px) [e, .Tuple [.Name (Str.ofString "str") p1, .Name (Str.ofString "bytes") p2] k pt] [] pos) c.env whole = (do let v ← whole; standAt (PySem.Expr.pos (.Call (.Name (Str.ofString "issubclass") px) [e, .Tuple [.Name (Str.ofString "str") p1, .Name (Str.ofString "bytes") p2] k pt] [] pos)); holding [v] (truthy v)) := by intro _ _; rfl) :
    Et c ps W (.Call (.Name (Str.ofString "issubclass") px) [e, .Tuple [.Name (Str.ofString "str") p1, .Name (Str.ofString "bytes") p2] k pt] [] pos) true := by
  intro whole hh tk Q E hw i hq
  refine isTrue_plain ?_ (hp whole hw)
  subst hw
  obtain ⟨m, news, hF, hN, hf, hl, nd⟩ := _root_.id i
  refine Call_ (Cx.nmB hF (bn_issub.n _) bn_issub.b bn_issub.u ?_ hk bn_issub.d) he
  refine PyProof.Rows.callWith_builtin1 (args_cons (h _ _ _ _ i fun v h' tk' r i1 => args_cons (e := .Tuple [.Name (Str.ofString "str") p1, .Name (Str.ofString "bytes") p2] k pt) (Tuple_ (args_cons (e := .Name (Str.ofString "str") p1) (Ep.bval bv_str hk1 _ _ _ _ i1 fun v1 h1 tk1 r1 i2 => args_cons (e := .Name (Str.ofString "bytes") p2) (Ep.bval bv_bytes hk2 _ _ _ _ i2 fun v2 h2 tk2 r2 i3 => args_nil ?_) rfl) rfl)) rfl) hst) hst rfl
  cases r
  cases r1
  cases r2
  obtain ⟨m3, news3, F3, N3, f3, l3, n3⟩ := i3
  refine newTuple_N (hsz := by rw [sizeLine_eq]; exact Nat.le_of_ble_eq_true rfl) F3 N3 fun h4 F4 N4 => args_nil ?_
  exact call_issub_str (s := c.st h4 tk2) (N4 _ (.head _)).1 fun tk5 => wpAny_truthy_bool (hq _ _ ⟨m3, news3, F4, fun q hq => N4 q (.tail _ hq), f3, l3, n3⟩)
theorem En.tup3 {e1 e2 e3 : PySem.Expr} {k : Nat} {pos : Pos} {x y z : Str} (h : Es c ps W [e1, e2, e3] [.str x, .str y, .str z]) : En c ps W (.Tuple [e1, e2, e3] k pos) (fun p W' => ∃ D, p = .ref D ∧ W' = (D, tup3A x y z) :: W) := by
  intro hh tk Q E i hq
  refine Tuple_ (h _ _ _ _ _ i fun vs h' tk' hr i1 => ?_)
  obtain ⟨v1, v2, v3, rfl, ⟨t1, rfl⟩, ⟨t2, rfl⟩, t3, rfl⟩ := reps3 hr
  obtain ⟨m, news, hF, hN, hf, hl, nd⟩ := i1
  refine newTuple_N (hsz := by rw [sizeLine_eq]; exact Nat.le_of_ble_eq_true rfl) hF hN fun h3 F3 N3 => hq _ _ _ _ tk' ⟨_, rfl, rfl⟩ rfl (In.fresh F3 N3 hf hl nd ⟨t1, t2, t3, rfl⟩ fun q hq e => ?_)
  exact absurd (Heap.lt_size (hN q hq).1) (by rw [e]; exact Nat.lt_irrefl _)
theorem FunOk.rstrip {x y : Str} (h : x.length ≤ 1000000) : FunOk c ps W "str.rstrip" [.str x, .str y] (.str (Txt.rstripChars x y)) := by
  intro hh tk vs Q E i hr hq
  obtain ⟨v, u, rfl, ⟨t, rfl⟩, t', rfl⟩ := reps2 hr
  exact SC.rstripChars (hsz := by rw [sizeLine_eq]; lia) fun t2 k => hq _ _ _ ⟨_, rfl⟩ i
end
theorem sm_rstrip : SM (Str.ofString "rstrip") "str.rstrip" := fun M A E s x t pl Q h => GM.rstrip h
theorem BinOk.mul {x : Str} {n : Int} (h0 : 0 ≤ n) (h1 : n ≤ 1000000) (hx : x.length ≤ 1) : BinOk .Mult (.str x) (.int n) (.str (Txt.mul x n)) := by
  rintro w A s u v Q E ⟨t, rfl⟩ ⟨t', rfl⟩ hq
  exact KXi.mul (n := x.length) rfl (Nat.le_trans hx (by decide)) (by lia) (by lia) fun t2 k _ _ => hq _ _ ⟨_, rfl⟩
def F189 : FI where
  qual := Str.ofString "fspath"
  scope := { kind := .function, names := [(Str.ofString "path", .local), (Str.ofString "kind", .local), (Str.ofString "hook", .local), (Str.ofString "given", .local), (Str.ofString "type", .globalImplicit), (Str.ofString "issubclass", .globalImplicit), (Str.ofString "str", .globalImplicit), (Str.ofString "bytes", .globalImplicit), (Str.ofString "_abc_plain_meta", .globalImplicit), (Str.ofString "getattr", .globalImplicit), (Str.ofString "TypeError", .globalImplicit), (Str.ofString "_plain_name", .globalImplicit), (Str.ofString "_wall", .globalImplicit), (Str.ofString "len", .globalImplicit)], isGenerator := false, isCoroutine := false }
  f := 189
  cd := .ref 188
  locals := [Str.ofString "path", Str.ofString "kind"]
theorem t189 (t : Str) (u0 : Tok) : Con 2 189 [.str t u0] (fun _ => True) (fun _ v _ => v = .str t u0) := by
  refine Con.of (F := F189) (N := 1) (ps := [.val (.str t u0), .unset]) (binds := [(Str.ofString "path", .str t u0)]) (fun q => by k_is) (fun q => by k_is) (fun s => BindsTo.of_eq (by kernel_rfl)) (locs rfl) rfl rfl (by decide) ⟨⟨_, rfl, rfl⟩, rfl, trivial⟩ fun c Φ E hE hP _ => ?_
  have hn : ∀ {pos : Pos}, Ep c [.val (.str t u0), .unset] [] (.Name (Str.ofString "path") pos) (.str t) := fun _ _ _ _ i hq => Ep.name (p := .val (.str t u0)) .n0 (by nofun) _ _ _ _ i fun v h' tk' r i' => hq v h' tk' ⟨u0, r⟩ i'
  exact .assign (.typeS rfl hn) .n1 (.ifte (.issub rfl rfl rfl (.name .n1)) (fun _ => .ret hE.seq (.name .n0) fun v h' hv _ => hv) (fun h => nomatch h))
theorem t189s (t : Str) : ∀ vs, reps [.str t] vs → Con 2 189 vs (fun _ => True) (fun _ v _ => (PV.str t).rep v) := Con.s1' fun u => (t189 t u).imp fun _ _ _ e => ⟨_, e⟩
def F203 : FI where
  qual := Str.ofString "_get_sep"
  scope := { kind := .function, names := [(Str.ofString "path", .local), (Str.ofString "isinstance", .globalImplicit), (Str.ofString "bytes", .globalImplicit)], isGenerator := false, isCoroutine := false }
  f := 203
  cd := .ref 202
  locals := [Str.ofString "path"]
theorem t203s (t : Str) : ∀ vs, reps [.str t] vs → Con 2 203 vs (fun _ => True) (fun _ v _ => (PV.str (Str.ofString "/")).rep v) := Con.s1' fun u => by
  refine Con.of (F := F203) (N := 1) (ps := [.str t]) (binds := [(Str.ofString "path", .str t u)]) (fun q => by k_is) (fun q => by k_is) (fun s => BindsTo.of_eq (by kernel_rfl)) (locs rfl) rfl rfl (by decide) ⟨⟨_, rfl, _, rfl⟩, trivial⟩ fun c Φ E hE hP _ => ?_
  exact .ifte0 (.val (.callB bn_isinst rfl (.cons (.name .here) (.cons (.bval bv_bytes rfl) .nil)) .isBytes) .bool) (fun h => nomatch h) (fun _ => .ret hE .str fun v h' hv _ => hv)
theorem gn_fspath : GName (Str.ofString "fspath") 189 := ⟨fun q => by k_is, fun q => by k_is, by decide⟩
theorem gn_sep : GName (Str.ofString "_get_sep") 203 := ⟨fun q => by k_is, fun q => by k_is, by decide⟩
structure R3 (x y z : Str) (h : Heap) (v : Value) (h' : Heap) : Prop where
  ex : ∃ D t1 t2 t3, v = .ref D ∧ h.get? D = none ∧ h'.get? D = some { cls := .type "tuple", data := .seq #[.str x t1, .str y t2, .str z t3] }
theorem R3.of {F : FI} {N : Nat} {c : Cx F N} {ps : List PV} {W W' : Led} {x y z x' y' z' : Str} {v : Value} {h : Heap} {p : PV} (hk : ∃ D, p = .ref D ∧ W' = (D, tup3A x y z) :: W) (hv : p.rep v) (i : In c ps W' h) (ex : x = x') (ey : y = y') (ez : z = z') : R3 x' y' z' c.h₀ v h := by
  obtain ⟨D, rfl, rfl⟩ := hk
  cases hv
  subst ex ey ez
  obtain ⟨m, news, hF, hN, hf, hl, nd⟩ := i
  cases news with
  | nil => exact hl.elim
  | cons n nw =>
    obtain ⟨n1, n2⟩ := n
    obtain ⟨⟨e, t1, t2, t3, e2⟩, _⟩ := hl
    have e' : D = n1 := e
    have e2' : n2 = _ := e2
    subst e' e2'
    exact ⟨D, t1, t2, t3, rfl, (hN _ (.head _)).2.2, (hN _ (.head _)).1⟩
noncomputable def root1 (t : Str) : Str :=
  if (Txt.slice t none (some 1) != Str.ofString "/") = true then Str.ofString ""
  else if (Txt.slice t (some 1) (some 2) != Str.ofString "/") = true ∨ (Txt.slice t (some 2) (some 3) == Str.ofString "/") = true then Str.ofString "/"
  else Txt.slice t none (some 2)
noncomputable def root2 (t : Str) : Str :=
  if (Txt.slice t none (some 1) != Str.ofString "/") = true then t
  else if (Txt.slice t (some 1) (some 2) != Str.ofString "/") = true ∨ (Txt.slice t (some 2) (some 3) == Str.ofString "/") = true then Txt.slice t (some 1) none
  else Txt.slice t (some 2) none
def F217 : FI where
  qual := Str.ofString "splitroot"
  scope := { kind := .function, names := [(Str.ofString "p", .local), (Str.ofString "sep", .local), (Str.ofString "empty", .local), (Str.ofString "fspath", .globalImplicit), (Str.ofString "isinstance", .globalImplicit), (Str.ofString "bytes", .globalImplicit)], isGenerator := false, isCoroutine := false }
  f := 217
  cd := .ref 216
  locals := [Str.ofString "p", Str.ofString "sep", Str.ofString "empty"]
theorem orb : ∀ {a b : Bool}, (a || (b || false)) = true ↔ a = true ∨ b = true := by decide
theorem t217 (t : Str) (u0 : Tok) (hn : t.length < 1000) : Con 4 217 [.str t u0] (fun _ => True) (fun h v h' => R3 (Str.ofString "") (root1 t) (root2 t) h v h') := by
  have hz : t.length ≤ sizeLine := by rw [sizeLine_eq]; lia
  refine Con.of (F := F217) (N := 3) (ps := [.str t, .unset, .unset]) (binds := [(Str.ofString "p", .str t u0)]) (fun q => by k_is) (fun q => by k_is) (fun s => BindsTo.of_eq (by kernel_rfl)) (locs rfl) rfl rfl (by decide) ⟨⟨_, rfl, _, rfl⟩, rfl, rfl, trivial⟩ fun c Φ E hE hP _ => ?_
  refine .assign (.con gn_fspath rfl (.cons (.name .n0) .nil) (t189s t) (by decide) (fun _ _ => trivial) fun _ _ _ r => r) .n0 ?_
  refine .ifte (.val (.callB bn_isinst rfl (.cons (.name .n0) (.cons (.bval bv_bytes rfl) .nil)) .isBytes) .bool) (fun h => nomatch h) (fun _ => .assign .str .n1 (.assign .str .n2 (.seq ?_)))
  refine .ifte0 (.cmp (.slice (.name .n0) .none (.some .int) hz) (.name .n1) .nes) (fun h1 => Rets.retN hE (.tup3 (.cons (.name .n2) (.cons (.name .n2) (.cons (.name .n0) .nil)))) fun p W' v h' hk hv i => .of hk hv i rfl (if_pos h1).symm (if_pos h1).symm) (fun h1 => ?_)
  have h1' : ¬ (Txt.slice t none (some 1) != Str.ofString "/") = true := fun e => nomatch h1.symm.trans e
  refine .ifte0 (.bo (.or (.cmp (.slice (.name .n0) (.some .int) (.some .int) hz) (.name .n1) .nes) fun _ => .or (.cmp (.slice (.name .n0) (.some .int) (.some .int) hz) (.name .n1) .eqs) fun _ => .nilO)) (fun h2 => Rets.retN hE (.tup3 (.cons (.name .n2) (.cons (.name .n1) (.cons (.slice (.name .n0) (.some .int) .none hz) .nil)))) fun p W' v h' hk hv i => .of hk hv i rfl ?_ ?_) (fun h2 => Rets.retN hE (.tup3 (.cons (.name .n2) (.cons (.slice (.name .n0) .none (.some .int) hz) (.cons (.slice (.name .n0) (.some .int) .none hz) .nil)))) fun p W' v h' hk hv i => .of hk hv i rfl ?_ ?_)
  · unfold root1; rw [if_neg h1', if_pos (orb.mp h2)]
  · unfold root2; rw [if_neg h1', if_pos (orb.mp h2)]
  · unfold root1; rw [if_neg h1', if_neg fun e => nomatch h2.symm.trans (orb.mpr e)]
  · unfold root2; rw [if_neg h1', if_neg fun e => nomatch h2.symm.trans (orb.mpr e)]
noncomputable def dirHead (t : Str) : Str := Txt.slice t none (some (Txt.rfind t (Str.ofString "/") + 1))
noncomputable def dirName (t : Str) : Str :=
  if ((dirHead t).length : Int) ≠ 0 ∧ (dirHead t != Txt.mul (Str.ofString "/") (dirHead t).length) = true then Txt.rstripChars (dirHead t) (Str.ofString "/") else dirHead t
def F224 : FI where
  qual := Str.ofString "dirname"
  scope := { kind := .function, names := [(Str.ofString "p", .local), (Str.ofString "sep", .local), (Str.ofString "i", .local), (Str.ofString "head", .local), (Str.ofString "fspath", .globalImplicit), (Str.ofString "_get_sep", .globalImplicit), (Str.ofString "len", .globalImplicit)], isGenerator := false, isCoroutine := false }
  f := 224
  cd := .ref 223
  locals := [Str.ofString "p", Str.ofString "sep", Str.ofString "i", Str.ofString "head"]
theorem dnb {n : Int} {b : Bool} : ((n != 0) && (b && true)) = true ↔ n ≠ 0 ∧ b = true := by
  rw [Bool.and_true, Bool.and_eq_true, bne_iff_ne]
theorem t224 (t : Str) (u0 : Tok) (hn : t.length < 1000) : Con 4 224 [.str t u0] (fun _ => True) (fun h v h' => ∃ tk, v = .str (dirName t) tk) := by
  have hz : t.length ≤ sizeLine := by rw [sizeLine_eq]; lia
  have hh : (dirHead t).length ≤ t.length := Txt.slice_le _ _ _
  refine Con.of (F := F224) (N := 3) (ps := [.str t, .unset, .unset, .unset]) (binds := [(Str.ofString "p", .str t u0)]) (fun q => by k_is) (fun q => by k_is) (fun s => BindsTo.of_eq (by kernel_rfl)) (locs rfl) rfl rfl (by decide) ⟨⟨_, rfl, _, rfl⟩, rfl, rfl, rfl, trivial⟩ fun c Φ E hE hP _ => ?_
  refine .assign (.con gn_fspath rfl (.cons (.name .n0) .nil) (t189s t) (by decide) (fun _ _ => trivial) fun _ _ _ r => r) .n0 (.assign (.con gn_sep rfl (.cons (.name .n0) .nil) (t203s t) (by decide) (fun _ _ => trivial) fun _ _ _ r => r) .n1 ?_)
  refine .assign (.bin (.meth1 sm_rfind (.name .n0) (.cons (.name .n1) .nil) .rfind) .int .addi) .n2 (.assign (p := .str (dirHead t)) (.slice (.name .n0) .none (.some (.name .n2)) hz) .n3 ?_)
  refine .ifte (.bo (.and (.val (.name .n3) (.str (by lia))) fun _ => .and (.cmp (.name .n3) (.bin (.name .n1) (.callB bn_len rfl (.cons (.name .n3) .nil) (.len (by lia))) (.mul (by lia) (by lia) (Nat.le_of_eq slash_len))) .nes) fun _ => .nilA)) (fun h => .assign (.meth1 sm_rstrip (.name .n3) (.cons (.name .n1) .nil) (.rstrip (by lia))) .n3 (.seq (.ret hE (.name .n3) fun v h' hv _ => ?_))) (fun h => .seq (.ret hE (.name .n3) fun v h' hv _ => ?_))
  · obtain ⟨tk, e⟩ := hv
    exact ⟨tk, by unfold dirName; rw [if_pos (dnb.mp h)]; exact e⟩
  · obtain ⟨tk, e⟩ := hv
    exact ⟨tk, by unfold dirName; rw [if_neg fun q => nomatch h.symm.trans (dnb.mpr q)]; exact e⟩
end
section
open PySem PySem.W PySem.Calls PyProof.Rows
noncomputable def tupS (l : List Str) : AO := .pred fun o => ∃ ys : List (Str × Tok), o = { cls := .type "tuple", data := .seq (strValues ys).toArray } ∧ ys.map (·.1) = l
theorem SeqRep.tup {a : Addr} {l : List Str} : SeqRep a (tupS l) l := by
  rintro ob ⟨ys, rfl, e⟩
  exact ⟨ys, e, fun h hg => .inr ⟨_, hg, rfl, _, rfl⟩⟩
theorem Con.ofV {F : FI} {N : Nat} {x : Value} {ys : List (Str × Tok)} {P : Heap → Prop} {R : Heap → Value → Heap → Prop} {name : Str} {body : List Stmt} {kV doc pm ct oc : Value} {an od : Option Addr} {osl : Array (Option Value)} {a nr : Arg} {ps : Addr → List PV}
    (ho : ∀ q, (Mine.hd.heap_39 q).lookup F.f = some ⟨oc, od, .func (fnOf name F.qual { posonlyargs := [], args := [a], vararg := some nr, kwonlyargs := [], kw_defaults := [], kwarg := none, defaults := [] } body F.scope .none kV doc pm an F.cd ct), osl⟩) (hcd : ∀ q, codeIn (Mine.hd.heap_39 q) F.cd F.qual = true)
    (hbd : bindArgs (fnOf name F.qual { posonlyargs := [], args := [a], vararg := some nr, kwonlyargs := [], kw_defaults := [], kwarg := none, defaults := [] } body F.scope .none kV doc pm an F.cd ct) ⟨x :: strValues ys, []⟩ = newTuple (strValues ys) >>= fun t => pure ([(a.arg, x)] ++ [(nr.arg, t)]))
    (hloc : ∀ D, ∀ y ∈ [(a.arg, x)] ++ [(nr.arg, Value.ref D)], F.scope.names.lookup y.1 = some .local) (hz : ys.length ≤ 1000)
    (hgen : F.scope.isGenerator = false) (hco : F.scope.isCoroutine = false) (hcell : ∀ x ∈ F.scope.names, x.2 ≠ .cell) (hf : ∀ D, frep F.locals (ps D) (fun y => ([(a.arg, x)] ++ [(nr.arg, Value.ref D)]).reverse.lookup y))
    (k : ∀ (c : Cx F N) (Φ : Flow → Shared → Prop) (E : Value → Shared → Prop) (D : Addr), Rets c R Φ → PassesOwn c.M c.A c.env E → P c.h₀ → Sx c (ps D) [(D, tupS (ys.map (·.1)))] body Φ E) (hmk : F.en = fun L => envOf F.qual F.scope L F.f F.cd := by rfl) : Con (N + 1) F.f (x :: strValues ys) P R := by
  obtain ⟨qual, scope, f, cd, locals, en, kf, lk, nd, hsc, hgl, hbu⟩ := F
  dsimp only at hmk
  subst hmk
  intro w p loose mean mg mb A h₀ s Q E X T hs hd hu hA hP hret
  have hd' : (A.deeper (envOf qual scope (h₀.objs.size + 1) f cd)).depth + N < recursionLimit := room_d hd
  have hu' : (A.deeper (envOf qual scope (h₀.objs.size + 1) f cd)).units + N * 100 < cLine := room_u hu
  refine enterV (vs := strValues ys) X T hs (ho _) (hcd _) (by omega) hbd (by unfold strValues; rw [List.length_map, sizeLine_eq]; omega) hloc (fun D h₁ tk₁ F₁ N₁ => ?_) hco hgen kf hcell
  let c : Cx ⟨qual, scope, f, cd, locals, _, kf, lk, nd, hsc, hgl, hbu⟩ N := { w, p, loose, mean, mg, mb, A := A.deeper (envOf qual scope (h₀.objs.size + 1) f cd), h₀, L := h₀.objs.size + 1, s, X, T, hh := hA, hd := hd', hu := hu' }
  exact (k c _ _ D (fun v h' tk' st r => hret v h' tk' st r) PassesOwn.leaving hP).run h₁ tk₁ ⟨_, _, F₁, N₁, hf D, ⟨⟨rfl, ys, rfl, rfl⟩, trivial⟩, List.nodup_cons.mpr ⟨nofun, .nil⟩⟩
section
variable {F : FI} {N : Nat} {c : Cx F N} {ps : List PV} {W : Led} {Φ : Flow → Shared → Prop} {E : Value → Shared → Prop} {rest : List Stmt}
theorem Sx.try {body : List Stmt} {h₀ : ExceptHandler} {hs : List ExceptHandler} {pos : Pos} (h : Sx c ps W body (Seq c rest Φ E) (fun _ _ => False)) : Sx c ps W (.Try body (h₀ :: hs) [] [] pos :: rest) Φ E := by
  refine ⟨fun hh tk i => ?_⟩
  refine wpAny_execs_cons (wpAny_Try_except (wpAny_mono (h.run _ _ i) (fun f s₁ h₁ => ?_) fun _ _ h => h.elim))
  cases f with
  | next => exact wpAny_execs_nil h₁
  | cont => exact h₁
  | brk => exact h₁
  | ret v => exact h₁
end
theorem Sx.seqE {F : FI} {N : Nat} {c : Cx F N} {ps : List PV} {W : Led} {Φ : Flow → Shared → Prop} {E E' : Value → Shared → Prop} {rest : List Stmt} (h : Sx c ps W rest Φ E) : Sx c ps W [] (Seq c rest Φ E) E' := ⟨fun _ _ i => wpAny_execs_nil (h.run _ _ i)⟩
theorem AugOk.adds {x y : Str} (h : x.length + y.length ≤ sizeLine) : AugOk .Add (.str x) (.str y) (.str (x ++ y)) := by
  rintro w A s u v Q E ⟨t, rfl⟩ ⟨t', rfl⟩ hq
  exact SB.iadd (fun t' k => hq _ _ ⟨_, rfl⟩) h
noncomputable def joinStep (path b : Str) : Str := if Txt.startswith b (Str.ofString "/") = true ∨ path.length = 0 then b else if Txt.endswith path (Str.ofString "/") = true then path ++ b else path ++ (Str.ofString "/" ++ b)
noncomputable def joinF (a : Str) (bs : List Str) : Str := bs.foldl joinStep a
def F210 : FI where
  qual := Str.ofString "join"
  scope := { kind := .function, names := [(Str.ofString "a", .local), (Str.ofString "p", .local), (Str.ofString "sep", .local), (Str.ofString "path", .local), (Str.ofString "b", .local), (Str.ofString "fspath", .globalImplicit), (Str.ofString "_get_sep", .globalImplicit), (Str.ofString "TypeError", .globalImplicit), (Str.ofString "AttributeError", .globalImplicit), (Str.ofString "BytesWarning", .globalImplicit), (Str.ofString "_check_arg_types", .globalImplicit)], isGenerator := false, isCoroutine := false }
  f := 210
  cd := .ref 209
  locals := [Str.ofString "a", Str.ofString "p", Str.ofString "sep", Str.ofString "path", Str.ofString "b"]
theorem jb {n : Nat} {b : Bool} : (b || (!((n : Int) != 0) || false)) = true ↔ b = true ∨ n = 0 := by
  rw [Bool.or_false, Bool.or_eq_true, Bool.not_eq_true', bne_eq_false_iff_eq]
  exact or_congr Iff.rfl ⟨fun h => Int.ofNat.inj h, fun h => by rw [h]; rfl⟩
theorem t210 (a0 : Str) (u0 : Tok) (l : List (Str × Tok)) (ha : a0.length < 1000) (hl : l.length < 100) (hq : ∀ q ∈ l, q.1.length < 100) : Con 6 210 (.str a0 u0 :: strValues l) (fun h => True) (fun h v h' => ∃ tk, v = .str (joinF a0 (l.map (·.1))) tk) := by
  have hls : ∀ q ∈ l.map (·.1), q.length < 100 := fun q h => by
    obtain ⟨z, hz, rfl⟩ := List.mem_map.mp h
    exact hq z hz
  have hll : (l.map (·.1)).length < 100 := by rw [List.length_map]; exact hl
  refine Con.ofV (F := F210) (ys := l) (N := 5) (ps := fun D => [.str a0, .ref D, .unset, .unset, .unset]) (fun q => by k_is) (fun q => by k_is) (by cases l <;> kernel_rfl) (fun D => locs rfl) (Nat.le_of_lt (Nat.lt_trans hl (by decide))) rfl rfl (by decide) (fun D => ⟨⟨_, rfl, _, rfl⟩, ⟨_, rfl, rfl⟩, rfl, rfl, rfl, trivial⟩) fun c Φ E D hE hP _ => ?_
  generalize l.map (·.1) = ls at hls hll hE ⊢
  refine .assign (.con gn_fspath rfl (.cons (.name .n0) .nil) (t189s a0) (by decide) (fun _ _ => trivial) fun _ _ _ r => r) .n0 (.assign (.con gn_sep rfl (.cons (.name .n0) .nil) (t203s a0) (by decide) (fun _ _ => trivial) fun _ _ _ r => r) .n2 (.assign (.name .n0) .n3 (.try ?_)))
  refine Sx.forN (fun st : Str × PV => [.str a0, .ref D, .str (Str.ofString "/"), .str st.1, st.2]) (fun st v => [.str a0, .ref D, .str (Str.ofString "/"), .str st.1, .str v]) (fun _ => []) (fun i st => st.1 = joinF a0 (ls.take i) ∧ st.1.length < 1000 + 200 * i) (a0, .unset) PassesOwn.never (.name .n1) (fun st v => .n4) (fun _ => rfl) ⟨rfl, by dsimp only; omega⟩ (fun i v st I o lo hv hJ => ?_) (fun st hJ => .seqE (.ret hE (.name .n3) fun v h' hv _ => ?_)) (ho := .tup)
  · obtain ⟨path, b⟩ := st
    obtain ⟨hJ1, hJ2⟩ := hJ
    dsimp only at hJ1 hJ2 ⊢
    have hi := (List.getElem?_eq_some_iff.mp hv).1
    have hvl := hls v (List.mem_of_getElem? hv)
    have hsz := sizeLine_eq
    have hst : ∀ p', p' = joinStep path v → p' = joinF a0 (ls.take (i + 1)) := fun p' e => by
      rw [List.take_add_one, hv, joinF, List.foldl_append, e, hJ1]; rfl
    refine .assign (.con gn_fspath rfl (.cons (.name .n4) .nil) (t189s v) (by decide) (fun _ _ => trivial) fun _ _ _ r => r) .n4 ?_
    refine .ifte0 (.bo (.or (.val (.meth1 sm_starts (.name .n4) (.cons (.name .n2) .nil) .starts) .bool) fun _ => .or (.not (.val (.name .n3) (.str (by lia)))) fun _ => .nilO)) (fun h1 => .assign (.name .n4) .n3 (.fp (v, .str v) rfl rfl ⟨hst _ (if_pos (jb.mp h1)).symm, by dsimp only; lia⟩)) (fun h1 => ?_)
    have h1' : ¬ (Txt.startswith v (Str.ofString "/") = true ∨ path.length = 0) := fun e => nomatch h1.symm.trans (jb.mpr e)
    refine .ifte0 (.val (.meth1 sm_ends (.name .n3) (.cons (.name .n2) .nil) .ends) .bool) (fun h2 => .aug .n3 nofun (.name .n4) (.adds (by lia)) .n3 (.fp (path ++ v, .str v) rfl rfl ⟨hst _ (by unfold joinStep; rw [if_neg h1', if_pos h2]), by dsimp only; rw [app_length]; lia⟩)) (fun h2 => .aug .n3 nofun (.bin (.name .n2) (.name .n4) (.adds (by rw [slash_len]; lia))) (.adds (by rw [app_length, slash_len]; lia)) .n3 (.fp (path ++ (Str.ofString "/" ++ v), .str v) rfl rfl ⟨hst _ (by unfold joinStep; rw [if_neg h1', if_neg (by rw [h2]; decide)]), by dsimp only; rw [app_length, app_length, slash_len]; lia⟩))
  · rw [List.take_of_length_le (Nat.le_refl _)] at hJ
    obtain ⟨t, e⟩ := hv
    exact ⟨t, by rw [e, hJ.1]⟩
end
section
open PySem PySem.W PySem.Calls PyProof.Rows
noncomputable def normComps (t : Str) : List Str := (Txt.split (root2 t) (Str.ofString "/")).filter fun c => !(c == Str.ofString "") && !(c == Str.ofString ".")
noncomputable def normJoined (t : Str) : Str := root1 t ++ Txt.join (Str.ofString "/") (normComps t)
noncomputable def normF (t : Str) : Str := if t.length = 0 then Str.ofString "." else if (normJoined t).length = 0 then Str.ofString "." else normJoined t
structure S6n where
  outs : List Str
  comp : PV
def F231 : FI where
  qual := Str.ofString "normpath"
  scope := { kind := .function, names := [(Str.ofString "path", .local), (Str.ofString "sep", .local), (Str.ofString "dot", .local), (Str.ofString "dotdot", .local), (Str.ofString "_", .local), (Str.ofString "initial_slashes", .local), (Str.ofString "comps", .local), (Str.ofString "new_comps", .local), (Str.ofString "comp", .local), (Str.ofString "fspath", .globalImplicit), (Str.ofString "isinstance", .globalImplicit), (Str.ofString "bytes", .globalImplicit), (Str.ofString "splitroot", .globalImplicit)], isGenerator := false, isCoroutine := false }
  f := 231
  cd := .ref 230
  locals := [Str.ofString "path", Str.ofString "sep", Str.ofString "dot", Str.ofString "dotdot", Str.ofString "_", Str.ofString "initial_slashes", Str.ofString "comps", Str.ofString "new_comps", Str.ofString "comp"]
theorem gn_splitroot : GName (Str.ofString "splitroot") 217 := ⟨fun q => by k_is, fun q => by k_is, by decide⟩
theorem t231 (t : Str) (u0 : Tok) (hn : t.length < 1000) (h2 : (root2 t).length < 500) (h1 : (root1 t).length < 500) (hdd : ∀ a ∈ Txt.split (root2 t) (Str.ofString "/"), a ≠ Str.ofString "..") : Con 6 231 [.str t u0] (fun h => True) (fun h v h' => ∃ tk, v = .str (normF t) tk) := by
  have hz := sizeLine_eq
  have sL := fun a (ha : a ∈ Txt.split (root2 t) (Str.ofString "/")) => part_short ha
  have hsl := split_len (root2 t) (Str.ofString "/")
  refine Con.of (F := F231) (N := 5) (ps := [.str t, .unset, .unset, .unset, .unset, .unset, .unset, .unset, .unset]) (binds := [(Str.ofString "path", .str t u0)]) (fun q => by k_is) (fun q => by k_is) (fun s => BindsTo.of_eq (by kernel_rfl)) (locs rfl) rfl rfl (by decide) ⟨⟨_, rfl, _, rfl⟩, rfl, rfl, rfl, rfl, rfl, rfl, rfl, rfl, trivial⟩ fun c Φ E hE hP _ => ?_
  refine .assign (.con (p := .str t) gn_fspath rfl (.cons (.name .n0) .nil) (t189s t) (by decide) (fun _ _ => trivial) (fun _ _ _ e => e)) .n0 (.ifte (.val (.callB bn_isinst rfl (.cons (.name .n0) (.cons (.bval bv_bytes rfl) .nil)) .isBytes) .bool) nofun (fun _ => .assign .str .n1 (.assign .str .n2 (.assign .str .n3 (.seq ?_)))))
  refine .ifte (.not (.val (.name .n0) (.str (by lia)))) (fun hb => ?_) (fun hb => .seq ?_)
  · refine .ret hE.seq (.name .n2) fun v h' hr _ => ?_
    have e : t.length = 0 := by simpa using hb
    rw [normF, if_pos e]; exact hr
  have ht0 : ¬ t.length = 0 := by simpa using hb
  refine .unpack3 (p := .str (Str.ofString "")) (q := .str (root1 t)) (r := .str (root2 t)) (o := .pred fun ob => ∃ t1 t2 t3, ob = { cls := .type "tuple", data := .seq #[.str (Str.ofString "") t1, .str (root1 t) t2, .str (root2 t) t3] }) (.con gn_splitroot rfl (.cons (.name .n0) .nil) (Con.s1 (R' := fun _ _ _ => True) fun u => t217 t u hn) (by decide) (fun _ _ => trivial) (fun h v h' ⟨D, t1, t2, t3, e, hD, ho⟩ => ⟨D, _, e, hD, ho, t1, t2, t3, rfl⟩)) (fun ob ⟨t1, t2, t3, e⟩ => ⟨_, _, _, 0, e, ⟨_, rfl⟩, ⟨_, rfl⟩, ⟨_, rfl⟩⟩) .n4 .n5 .n0 ?_
  refine .assignA (.split (.name .n0) (.name .n1) (by decide +kernel) (by lia)) (fun a => .n6) fun a => .assignN .list0 fun p W' hk => ?_
  obtain ⟨nc, rfl, rfl⟩ := hk
  refine ⟨_, .n7, .perm (.swap _ _ _) ?_⟩
  refine Sx.forN (fun st : S6n => [.str (root2 t), .str (Str.ofString "/"), .str (Str.ofString "."), .str (Str.ofString ".."), .str (Str.ofString ""), .str (root1 t), .ref a, .ref nc, st.comp]) (fun st v => [.str (root2 t), .str (Str.ofString "/"), .str (Str.ofString "."), .str (Str.ofString ".."), .str (Str.ofString ""), .str (root1 t), .ref a, .ref nc, .str v]) (fun st => [(nc, .strs st.outs)]) (fun i st => st.outs = ((Txt.split (root2 t) (Str.ofString "/")).take i).filter (fun c => !(c == Str.ofString "") && !(c == Str.ofString "."))) ⟨[], .unset⟩ hP (.name .n6) (fun st v => .n8) (fun _ => rfl) rfl (fun i v st I o lo hv hJ => ?_) (fun st hJ => ?_)
  · have hvl := sL v (List.mem_of_getElem? hv)
    have hq2 : (v != Str.ofString "..") = true := by simpa using hdd v (List.mem_of_getElem? hv)
    obtain ⟨outs, cm⟩ := st
    dsimp only at hJ
    subst hJ
    have hol : (((Txt.split (root2 t) (Str.ofString "/")).take i).filter (fun c => !(c == Str.ofString "") && !(c == Str.ofString "."))).length ≤ 1000000 := by
      have h7 := List.length_filter_le (fun c => !(c == Str.ofString "") && !(c == Str.ofString ".")) ((Txt.split (root2 t) (Str.ofString "/")).take i)
      rw [List.length_take] at h7
      lia
    have hem : ((v.length : Int) != 0) = !(v == Str.ofString "") := by
      by_cases e : v.length = 0
      · rw [show v = Str.ofString "" from empty_of_len (by lia)]; rfl
      · rw [show (v == Str.ofString "") = false from ne_empty_of_len (by lia)]; exact bne_iff_ne.mpr (by lia)
    refine .ifte (.bo (.or (.not (.val (.name .n8) (.str (by lia)))) fun _ => .or (.cmp (.name .n8) (.name .n2) .eqs) fun _ => .nilO)) (fun hb => ?_) (fun hb => .seq ?_)
    · refine .fpC ⟨_, .str v⟩ rfl rfl ?_
      rw [hem] at hb
      rw [List.take_add_one, hv, List.filter_append]
      have : (!(v == Str.ofString "") && !(v == Str.ofString ".")) = false := by
        revert hb
        cases (v == Str.ofString "") <;> cases (v == Str.ofString ".") <;> decide
      rw [show (some v).toList.filter (fun c => !(c == Str.ofString "") && !(c == Str.ofString ".")) = [] from by rw [Option.toList_some, List.filter_cons, this]; rfl, List.append_nil]
    refine .ifte0 (.bo (.or (.cmp (.name .n8) (.name .n3) .nes) (b := false) fun h => absurd h (by rw [hq2]; decide))) (fun _ => ?_) (fun h => absurd h (by rw [hq2]; decide))
    refine .append (.name .n7) (.name .n8) (.tail (.tail .head)) ⟨_, .inl rfl⟩ (.strs hol) (.fp ⟨_, .str v⟩ rfl rfl ?_)
    rw [hem] at hb
    rw [List.take_add_one, hv, List.filter_append]
    have : (!(v == Str.ofString "") && !(v == Str.ofString ".")) = true := by
      revert hb
      cases (v == Str.ofString "") <;> cases (v == Str.ofString ".") <;> decide
    rw [show (some v).toList.filter (fun c => !(c == Str.ofString "") && !(c == Str.ofString ".")) = [v] from by rw [Option.toList_some, List.filter_cons, this]; rfl]
  · obtain ⟨outs, cm⟩ := st
    dsimp only at hJ
    rw [List.take_of_length_le (Nat.le_refl _)] at hJ
    have hJ' : outs = normComps t := hJ
    subst hJ'
    have hcl : ∀ a ∈ normComps t, a.length ≤ 500 := fun a ha => by
      have := sL a (List.mem_filter.mp ha).1
      lia
    have hcn : (normComps t).length ≤ 502 := by
      have h7 := List.length_filter_le (fun c => !(c == Str.ofString "") && !(c == Str.ofString ".")) (Txt.split (root2 t) (Str.ofString "/"))
      unfold normComps
      lia
    have hjl := join_len slash_len hcl hcn
    dsimp only
    refine .assign (.name .n7) .n6 (.assign (.bin (.name .n5) (.meth1 sm_join (.name .n1) (.cons (.name .n6) .nil) (.join (.head _) (.of2 hcl hcn (by lia)) (by decide +kernel))) (.adds (by lia))) .n0 (.ret hE (.orS (.name .n0) (.name .n2) (by rw [app_length]; lia)) fun v h' hr _ => ?_))
    rw [normF, if_neg ht0]
    exact hr
end
section
open PySem PySem.W PySem.Calls PyProof.Rows
section
variable {F : FI} {N : Nat} {c : Cx F N} {ps : List PV} {W : Led} {Φ : Flow → Shared → Prop} {E : Value → Shared → Prop} {rest : List Stmt}
theorem Ep.conStar {n : Nat} {f : Addr} {P : Heap → Prop} {R : Heap → Value → Heap → Prop} {x : Str} {px ps' pos : Pos} {e v : PySem.Expr} {y : Str} {l : List Str} {p : PV} {K : PV → Led → Prop} (g : GName x f) (hk : F.scope.names.lookup x = some .globalImplicit) (h1 : Ep c ps W e (.str y)) (h2 : En c ps W v K) (hK : ∀ q W', K q W' → ∃ a W1, q = .ref a ∧ W' = (a, .strs l) :: (W1 ++ W)) (hl : l.length ≤ 1000)
    (C : ∀ u (ys : List (Str × Tok)), ys.map (·.1) = l → Con n f (.str y u :: strValues ys) P R) (hn : n ≤ N) (hP : ∀ h, P h) (hR : ∀ h v h', R h v h' → p.rep v)
    (he : CallEq c (.Name x px) [e, .Starred v ps'] pos := by exact rfl) (hst : starEach [e, .Starred v ps'] c.env = (false, eval e c.env) :: starEach [.Starred v ps'] c.env := by rfl) (hst2 : starEach [.Starred v ps'] c.env = (true, eval v c.env) :: starEach [] c.env := by rfl) (hpl : (backTo pos (starEach [.Starred v ps'] c.env)).any (·.1) = true := by rfl) : Ep c ps W (.Call (.Name x px) [e, .Starred v ps'] [] pos) p := by
  intro h tk Q E i hq
  obtain ⟨m, news, hF, hN, hf, hlr, nd⟩ := _root_.id i
  refine Call_ (Cx.nmK hF (g.n _) ?_ hk g.d) he
  refine callWith_S2 c.X (g.k _) (args_cons (h1 _ _ _ _ i fun u h' tk' r i1 => items_star (h2 _ _ _ _ i1 fun q W' z h2' tk2 hk r2 i2 => ?_) hst2) hst) hst hpl
  obtain ⟨t, rfl⟩ := r
  obtain ⟨a, W1, rfl, rfl⟩ := hK q W' hk
  cases r2
  obtain ⟨m2, news2, F2, N2, f2, l2, n2⟩ := _root_.id i2
  obtain ⟨ob, hm, ys, nn, rfl, e2⟩ := lrep_get l2 (.head _)
  have hyl : ys.length ≤ 1000 := by rw [← e2, List.length_map] at hl; exact hl
  refine star_seq (s := c.st h2' tk2) (T := "list") (ws := strValues ys) F2 N2 hm rfl rfl (.inl rfl) rfl (by unfold strValues; rw [List.size_toArray, List.length_map, sizeLine_eq]; lia) fun h3 F3 N3 => args_nil ?_
  have i3 : In c ps ((a, .strs l) :: (W1 ++ W)) h3 := ⟨m2, news2, F3, N3, f2, l2, n2⟩
  refine ⟨c.X.keeps F3.keep, ?_⟩
  rw [List.append_nil]
  exact i3.call (C t ys e2) hn (hP _) fun w h4 tk4 i4 st r => hq _ _ _ (hR _ _ _ r) (i4.weak.drop)
end
noncomputable def joined (t : Str) : Str := joinF (Str.ofString "/") (Txt.split (Txt.lower t) (Str.ofString ".")).reverse
noncomputable def lawPath (t : Str) : Str := normF (joined t)
structure PathOk (t : Str) : Prop where
  ok : Ok t
  h1 : (joined t).length < 1000
  h2 : (root2 (joined t)).length < 500
  h3 : (root1 (joined t)).length < 500
  h4 : ∀ a ∈ Txt.split (root2 (joined t)) (Str.ofString "/"), a ≠ Str.ofString ".."
  h5 : (Txt.split (Txt.lower t) (Str.ofString ".")).length < 100
def F267 : FI where
  qual := Str.ofString "_law_path"
  scope := { kind := .function, names := [(Str.ofString "text", .local), (Str.ofString "normpath", .globalImplicit), (Str.ofString "join", .globalImplicit)], isGenerator := false, isCoroutine := false }
  f := 267
  cd := .ref 266
  locals := [Str.ofString "text"]
theorem gn_normpath : GName (Str.ofString "normpath") 231 := ⟨fun q => by k_is, fun q => by k_is, by decide⟩
theorem gn_join : GName (Str.ofString "join") 210 := ⟨fun q => by k_is, fun q => by k_is, by decide⟩
theorem t267 (t : Str) (u0 : Tok) (hP0 : PathOk t) : Con 8 267 [.str t u0] (fun _ => True) (fun _ v _ => ∃ tk, v = .str (lawPath t) tk) := by
  have hn := hP0.ok.len
  have hn2 := hP0.ok.lower.len
  have h5 := hP0.h5
  refine Con.of (F := F267) (N := 7) (ps := [.str t]) (binds := [(Str.ofString "text", .str t u0)]) (fun q => by k_is) (fun q => by k_is) (fun s => BindsTo.of_eq (by kernel_rfl)) (locs rfl) rfl rfl (by decide) ⟨⟨_, rfl, _, rfl⟩, trivial⟩ fun c Φ E hE hP _ => ?_
  refine .ret hE (.con (n := 6) (p := .str (lawPath t)) gn_normpath rfl (.cons (.conStar (n := 6) (p := .str (joined t)) (l := (Txt.split (Txt.lower t) (Str.ofString ".")).reverse) gn_join rfl .str (.rev (.split (.meth0 sm_lower (.name .here) (.lower (by lia))) .str (by decide +kernel) (by rw [sizeLine_eq]; lia)) (by lia)) (fun q W' hk => ?_) (by rw [List.length_reverse]; lia) (fun u ys e => ?_) (by decide) (fun _ => trivial) (fun _ _ _ r => r)) .nil) (Con.s1' fun u => t231 (joined t) u hP0.h1 hP0.h2 hP0.h3 hP0.h4) (by decide) (fun _ _ => trivial) fun _ _ _ r => r) fun v h' hv _ => hv
  · obtain ⟨a, b, rfl, rfl⟩ := hk
    exact ⟨b, [_], rfl, rfl⟩
  · have := t210 (Str.ofString "/") u ys (by rw [slash_len]; decide) (by rw [← List.length_map (f := (·.1)), e, List.length_reverse]; exact h5) fun q hq => by
      have h7 : q.1 ∈ (Txt.split (Txt.lower t) (Str.ofString ".")).reverse := e ▸ List.mem_map_of_mem hq
      exact (hP0.ok.lower.split (List.mem_reverse.mp h7)).len
    rw [e] at this
    exact this
end
section
open PySem PySem.W PyProof.Rows PySem.MeetsSeq PySem.MeetsSeq3
open PySem.AutoSeq1 (wpAny_loadPart')
noncomputable def cmpS (lt : Bool) : List Str → List Str → Bool
  | [], ys => if lt then decide (0 < ys.length) else false
  | _ :: _, [] => !lt
  | x :: xs, y :: ys => if (x.cps.toList == y.cps.toList) = true then cmpS lt xs ys else if lt then decide (x.cps.toList < y.cps.toList) else decide (y.cps.toList < x.cps.toList)
theorem cmp_endL {lt : Bool} {xs ys : List Str} {i : Nat} (e : xs.length = i) (h : i ≤ ys.length) : cmpS lt (xs.drop i) (ys.drop i) = if lt then decide (xs.length < ys.length) else decide (ys.length < xs.length) := by
  subst e
  rw [List.drop_length, cmpS, List.length_drop]
  cases lt
  · exact (decide_eq_false (Nat.not_lt.mpr h)).symm
  · exact decide_eq_decide.mpr Nat.sub_pos_iff_lt
theorem cmp_endR {lt : Bool} {xs ys : List Str} {i : Nat} (e : ys.length = i) (h : i < xs.length) : cmpS lt (xs.drop i) (ys.drop i) = if lt then decide (xs.length < ys.length) else decide (ys.length < xs.length) := by
  subst e
  rw [List.drop_length, List.drop_eq_getElem_cons h, cmpS]
  cases lt
  · exact (decide_eq_true h).symm
  · exact (decide_eq_false (Nat.lt_asymm h)).symm
theorem at_strs {l : List (Str × Tok)} {i : Nat} (h : i < l.length) : (strValues l).toArray[i]? = some (.str l[i].1 l[i].2) := by
  simp [strValues, h]
theorem at_none {l : List (Str × Tok)} {i : Nat} (h : l.length ≤ i) : (strValues l).toArray[i]? = none := by
  simp [strValues, h]
theorem drop_strs {l : List (Str × Tok)} {i : Nat} (h : i < l.length) : (l.map (·.1)).drop i = l[i].1 :: (l.map (·.1)).drop (i + 1) := by
  rw [List.drop_eq_getElem_cons (by simpa using h)]; simp
theorem at_strs' {l : List (Str × Tok)} {i : Nat} (h : i < l.length) : (strValues l).toArray[((i : Nat) : Int).toNat]? = some (.str l[i].1 l[i].2) := at_strs h
theorem at_none' {l : List (Str × Tok)} {i : Nat} (h : l.length ≤ i) : (strValues l).toArray[((i : Nat) : Int).toNat]? = none := at_none h
theorem len_strs (l : List (Str × Tok)) : (strValues l).toArray.size = (l.map (·.1)).length := by simp [strValues]
theorem lens_lt {R : Result → Shared → Prop} {xs ys : List (Str × Tok)} {s : Shared} (h : R (.ok (.ret (.bool (if true then decide ((xs.map (·.1)).length < (ys.map (·.1)).length) else decide ((ys.map (·.1)).length < (xs.map (·.1)).length))))) s) : R (.ok (.ret (.bool (decide ((strValues xs).toArray.size < (strValues ys).toArray.size))))) s := by
  rw [len_strs, len_strs]
  exact h
theorem lens_gt {R : Result → Shared → Prop} {xs ys : List (Str × Tok)} {s : Shared} (h : R (.ok (.ret (.bool (if false then decide ((xs.map (·.1)).length < (ys.map (·.1)).length) else decide ((ys.map (·.1)).length < (xs.map (·.1)).length))))) s) : R (.ok (.ret (.bool (decide ((strValues ys).toArray.size < (strValues xs).toArray.size))))) s := by
  rw [len_strs, len_strs]
  exact h
theorem lt_loop (l b : Addr) (xs ys : List (Str × Tok)) (n n2 : Nat) (dd dd2 : Option Addr) (sl sl2 : Array (Option Value)) (k : Nat) :
    ∀ i : Nat, i + k = xs.length → i ≤ ys.length → Meets (Builtin.«list.__eq__.loop» ⟨[.ref l, .ref b, rawInt i, rawInt 0], []⟩)
      (fun A R s => s.heap.get? l = some { cls := .type "list", dict := dd, data := .seq (strValues xs).toArray n, slots := sl } ∧ s.heap.get? b = some { cls := .type "list", dict := dd2, data := .seq (strValues ys).toArray n2, slots := sl2 } ∧
        R (.ok (.ret (.bool (cmpS true ((xs.map (·.1)).drop i) ((ys.map (·.1)).drop i))))) s) := by
  induction k with
  | zero =>
    intro i hk h2 prog w A R s h
    have hk : i = xs.length := hk
    obtain ⟨hp, g, d, tk, os⟩ := s; obtain ⟨hl, hb, h⟩ := h
    wp_walk using wpAny_loadPart' hl, wpAny_loadPart' hb
    rw [at_none' (Nat.le_of_eq hk.symm)]
    wp_walk using wpAny_loadPart' hl, wpAny_loadPart' hb
    rw [cmp_endL (by rw [List.length_map]; exact hk.symm) (by rw [List.length_map]; exact h2)] at h
    exact lens_lt h
  | succ k ih =>
    intro i hk h2 prog w A R s h
    obtain ⟨hp, g, d, tk, os⟩ := s; obtain ⟨hl, hb, h⟩ := h
    wp_walk using wpAny_loadPart' hl, wpAny_loadPart' hb
    have hlt : i < xs.length := hk ▸ Nat.lt_add_of_pos_right (Nat.succ_pos k)
    rw [at_strs' hlt]
    rcases Nat.lt_or_ge i ys.length with hlt2 | hge
    · rw [drop_strs hlt, drop_strs hlt2, cmpS] at h
      rw [at_strs' hlt2]
      refine wpAny_bind (SeqRoads2.EqGives.str _ _ _ _ prog w _ _ _ _ ?_)
      cases hb' : (xs[i].1.cps.toList == ys[i].1.cps.toList) with
      | true =>
        rw [hb', if_pos rfl] at h
        wp_walk
        exact ⟨plainId_quiet plain_eq_loop _, codeAny_builtin entry_eq_loop (by
          rw [Around.under_plainId plain_eq_loop _]
          exact ih (i + 1) ((Nat.succ_add i k).trans hk) hlt2 prog w A R _ ⟨hl, hb, h⟩)⟩
      | false =>
        rw [hb', if_neg (by decide)] at h
        wp_walk using wpAny_loadPart' hl, wpAny_loadPart' hb
        rw [at_strs' hlt, at_strs' hlt2]
        refine wpAny_bind ?_
        refine richCompare_gives (op := .Lt) (typeIs_str _ _ _) (typeIs_str _ _ _) F.slot_str_lt F.entry_str_lt (F.args_str_lt_2 _ _) (gives_str_lt _ _ _ _) (fun e => nomatch e) ?_
        exact wpAny_pure h
    · rw [at_none' hge]
      wp_walk using wpAny_loadPart' hl, wpAny_loadPart' hb
      rw [cmp_endR (by rw [List.length_map]; exact Nat.le_antisymm hge h2) (by rw [List.length_map]; exact hlt)] at h
      exact lens_lt h
theorem list_lt (l b : Addr) (xs ys : List (Str × Tok)) (n n2 : Nat) (dd dd2 : Option Addr) (sl sl2 : Array (Option Value)) :
    Meets (Builtin.«list.__lt__» ⟨[.ref l, .ref b], []⟩)
      (fun A R s => s.heap.get? l = some { cls := .type "list", dict := dd, data := .seq (strValues xs).toArray n, slots := sl } ∧ s.heap.get? b = some { cls := .type "list", dict := dd2, data := .seq (strValues ys).toArray n2, slots := sl2 } ∧
        R (.ok (.ret (.bool (cmpS true (xs.map (·.1)) (ys.map (·.1)))))) s) := by
  intro prog w A R s h
  obtain ⟨hp, g, d, tk, os⟩ := s; obtain ⟨hl, hb, h⟩ := h
  have f3 := AutoSeq1.sub_list_list
  wp_walk using wpAny_loadPart' hl, wpAny_loadPart' hb
  exact ⟨plainId_quiet plain_eq_loop _, codeAny_builtin entry_eq_loop (by
    rw [Around.under_plainId plain_eq_loop _]
    exact lt_loop l b xs ys n n2 dd dd2 sl sl2 _ 0 (Nat.zero_add _) (Nat.zero_le _) prog w A R _ ⟨hl, hb, by simpa using h⟩)⟩
structure Mm (h₀ : Heap) (D a b : Addr) (i : Nat) (vs : Array Value) (g : Heap) : Prop where
  st : h₀.StaysIn g
  it : g.IsListIter h₀.objs.size D i
  ls : g.IsList D #[.ref a, .ref b]
  bs : ∃ c, g.get? (h₀.objs.size + 1) = some { cls := .type "list", data := .seq vs c }
theorem old_ne {h₀ : Heap} {x : Addr} {o : Obj} (e : h₀.get? x = some o) : x ≠ h₀.objs.size ∧ x ≠ h₀.objs.size + 1 := ⟨Nat.ne_of_lt (Heap.lt_size e), Nat.ne_of_lt (Nat.lt_succ_of_lt (Heap.lt_size e))⟩
theorem Mm.start {h₀ : Heap} {D a b : Addr} (hD : h₀.IsList D #[.ref a, .ref b]) : Mm h₀ D a b 0 #[] ((h₀.push { cls := .type "list_iterator", data := .fields #[.ref D, .int 0 0] }).push { cls := .type "list", data := .seq #[] }) :=
  have st : h₀.StaysIn ((h₀.push { cls := .type "list_iterator", data := .fields #[.ref D, .int 0 0] }).push { cls := .type "list", data := .seq #[] }) := fun _ _ e => Heap.get?_push_of_some _ (Heap.get?_push_of_some _ e)
  ⟨st, ⟨_, Heap.get?_push_of_some _ (Heap.get?_push_size _ rfl), rfl, rfl⟩, hD.at fun _ e => st _ _ e, _, Heap.size_push h₀ _ ▸ Heap.get?_push_size _ rfl⟩
theorem Mm.upd {h₀ g : Heap} {D a b : Addr} {i : Nat} {vs : Array Value} (f : Array Value → Array Value) (hD : h₀.IsList D #[.ref a, .ref b]) (m : Mm h₀ D a b i vs g) : Mm h₀ D a b i (f vs) (g.update (h₀.objs.size + 1) (Obj.mapSeq f)) := by
  obtain ⟨st, it, ls, c, e⟩ := m
  exact ⟨fun x o e => (Heap.get?_update_other _ _ (Ne.symm (old_ne e).2)).trans (st x o e), it.at fun o e => (Heap.get?_update_other _ _ (Nat.succ_ne_self _)).trans e, ls.at fun o e => (Heap.get?_update_other _ _ (Ne.symm (old_ne hD.choose_spec.1).2)).trans e, _, Heap.get?_update_self _ e rfl⟩
noncomputable def RQ (Q E : Value → Shared → Prop) : Result → Shared → Prop := fun r s' => match r with | .ok (.ret v) => Q v s' | .ok _ => False | .error e => E e s'
section
variable {prog : Program} {w : World} {A : Around} {E : Value → Shared → Prop} {s : Shared}
theorem Mm.next {h₀ g : Heap} {D a b : Addr} {i tk : Nat} {vs : Array Value} {v : Value} {Q : Option Value → Shared → Prop} (hD : h₀.IsList D #[.ref a, .ref b]) (m : Mm h₀ D a b i vs g) (hx : (#[.ref a, .ref b] : Array Value)[i]? = some v) (k : ∀ g', Mm h₀ D a b (i + 1) vs g' → Q (some v) { s with heap := g', toks := tk }) :
    wpAny (model prog w) A (pyNext (.ref h₀.objs.size)) Q E { s with heap := g, toks := tk } := by
  obtain ⟨st, it, ls, c, e⟩ := m
  exact wpAny_pyNext_list_item (s := { s with heap := g, toks := tk }) it ls hx fun g' hit hs => k g' ⟨fun x o e => hs.extBut x o (old_ne e).1 (st x o e), hit, ls.extBut hs.extBut (old_ne hD.choose_spec.1).1, c, hs.extBut _ _ (Nat.succ_ne_self _) e⟩
theorem Mm.stop {h₀ g : Heap} {D a b : Addr} {tk : Nat} {vs : Array Value} {Q : Option Value → Shared → Prop} (hh : A.handled = none) (m : Mm h₀ D a b 2 vs g) (k : ∀ g', h₀.StaysIn g' → (∃ c, g'.get? (h₀.objs.size + 1) = some { cls := .type "list", data := .seq vs c }) → Q none { s with heap := g', toks := tk }) :
    wpAny (model prog w) A (pyNext (.ref h₀.objs.size)) Q E { s with heap := g, toks := tk } := by
  obtain ⟨st, it, ls, c, e⟩ := m
  exact wpAny_pyNext_list_end (s := { s with heap := g, toks := tk }) hh it ls rfl fun g' he => k g' (fun x o e => he x o (old_ne e).1 (st x o e)) ⟨c, he _ _ (Nat.succ_ne_self _) e⟩
end
section
variable {prog : Program} {w : World} {A : Around} {E : Value → Shared → Prop} {s : Shared}
theorem rc_lt {l b : Addr} {xs ys : List (Str × Tok)} {Q : Value → Shared → Prop} (hl : s.heap.IsList l (strValues xs).toArray) (hb : s.heap.IsList b (strValues ys).toArray) (hu : A.units < cLine) (h : Q (.bool (cmpS true (xs.map (·.1)) (ys.map (·.1)))) s) :
    wpAny (model prog w) A (richCompare .Lt (.ref l) (.ref b)) Q E s := by
  obtain ⟨⟨cls, dd, data, sl⟩, ho, hc, n, hd⟩ := id hl
  obtain ⟨⟨cls2, dd2, data2, sl2⟩, ho2, hc2, n2, hd2⟩ := id hb
  simp only at hc hd hc2 hd2
  subst hc hd hc2 hd2
  exact richCompare_meets_room (op := .Lt) ⟨_, ho, rfl⟩ ⟨_, ho2, rfl⟩ F.slot_list_lt F.entry_list_lt (F.args_list_lt_2 _ _) (list_lt l b xs ys n n2 dd dd2 sl sl2)
    ⟨ho, ho2, show Value.bool _ ≠ Value.notImplemented ∧ Q (.bool _) s from ⟨(fun x => nomatch x), h⟩⟩ hu
theorem min_t3 {a b D z : Addr} {g : Heap} {tk : Nat} {Q : Value → Shared → Prop} (hh : A.handled = none) (m : Mm s.heap D a b 2 #[.ref z, .ref z] g) (hq : ∀ h' tk, s.heap.StaysIn h' → Q (.ref z) { s with heap := h', toks := tk }) :
    codeAny (model prog w) A (.builtin "min.loop" ⟨[.ref s.heap.objs.size, .none, .ref (s.heap.objs.size + 1)], []⟩) (RQ Q E) { s with heap := g, toks := tk } := by
  refine codeAny_builtin PySem.F.entry_min_loop ?_
  rw [Around.under_plainId PySem.F.plain_min_loop _]
  obtain ⟨c, e⟩ := m.bs
  show wpAny _ A.in1 (seqItems? (.ref (s.heap.objs.size + 1)) >>= _) _ _ _
  refine wpAny_bind (wpAny_seqItems e rfl ?_)
  show wpAny _ A.in1 (tryCatch (pyNext (.ref s.heap.objs.size)) _ >>= _) _ _ _
  refine wpAny_bind (wpAny_tryCatch (m.stop (A := A.in1) hh fun g' st bs => ?_))
  obtain ⟨c, e⟩ := bs
  show wpAny _ A.in1 (updateSeq (s.heap.objs.size + 1) (fun _ => #[]) >>= _) _ _ _
  exact wpAny_bind (wpAny_updateSeq e rfl (wpAny_bind (wpAny_letGo (wpAny_pure (hq _ _ fun x o e => (Heap.get?_update_other _ _ (Ne.symm (old_ne e).2)).trans (st x o e))))))
theorem min_name : (toString "min" ++ toString ".loop" : String) = "min.loop" := by decide
theorem min_t2 {a b D : Addr} {xs ys : List (Str × Tok)} {g : Heap} {tk : Nat} {Q : Value → Shared → Prop} (hh : A.handled = none) (hD : s.heap.IsList D #[.ref a, .ref b]) (m : Mm s.heap D a b 1 #[.ref a, .ref a] g) (ha : s.heap.IsList a (strValues xs).toArray) (hb : s.heap.IsList b (strValues ys).toArray) (hu : A.in1.units < cLine)
    (hQ : ∀ h' tk, s.heap.StaysIn h' → Q (.ref (if cmpS true (ys.map (·.1)) (xs.map (·.1)) then b else a)) { s with heap := h', toks := tk }) :
    codeAny (model prog w) A (.builtin "min.loop" ⟨[.ref s.heap.objs.size, .none, .ref (s.heap.objs.size + 1)], []⟩) (RQ Q E) { s with heap := g, toks := tk } := by
  refine codeAny_builtin PySem.F.entry_min_loop ?_
  rw [Around.under_plainId PySem.F.plain_min_loop _]
  obtain ⟨c, e⟩ := m.bs
  show wpAny _ A.in1 (seqItems? (.ref (s.heap.objs.size + 1)) >>= _) _ _ _
  refine wpAny_bind (wpAny_seqItems e rfl ?_)
  show wpAny _ A.in1 (tryCatch (pyNext (.ref s.heap.objs.size)) _ >>= _) _ _ _
  refine wpAny_bind (wpAny_tryCatch (m.next (A := A.in1) hD rfl fun g' m' => ?_))
  clear m e
  show wpAny _ A.in1 (tryCatch (holding [.ref b, .ref b] (richCompare .Lt (.ref b) (.ref a) >>= _)) _ >>= _) _ _ _
  refine wpAny_bind (wpAny_tryCatch (wpAny_holding (wpAny_bind (rc_lt (hb.at fun o e => m'.st _ _ e) (ha.at fun o e => m'.st _ _ e) hu ?_))))
  refine wpAny_bind (wpAny_holding (wpAny_truthy_bool (wpAny_bind (wpAny_letGo (wpAny_pure ?_)))))
  cases hbt : cmpS true (ys.map (·.1)) (xs.map (·.1)) with
  | true =>
    rw [hbt, if_pos rfl] at hQ
    obtain ⟨c, e⟩ := m'.bs
    refine wpAny_bind (wpAny_updateSeq e rfl (wpAny_bind (wpAny_letGo ?_)))
    rw [min_name]
    exact wpAny_pure ⟨plainId_quiet PySem.F.plain_min_loop _, min_t3 hh (m'.upd (fun _ => #[.ref b, .ref b]) hD) hQ⟩
  | false =>
    rw [hbt, if_neg Bool.false_ne_true] at hQ
    refine wpAny_bind (wpAny_letGo ?_)
    rw [min_name]
    exact wpAny_pure ⟨plainId_quiet PySem.F.plain_min_loop _, min_t3 hh m' hQ⟩
theorem min_two {a b D : Addr} {xs ys : List (Str × Tok)} {Q : Value → Shared → Prop} (hh : A.handled = none) (hD : s.heap.IsList D #[.ref a, .ref b]) (ha : s.heap.IsList a (strValues xs).toArray) (hb : s.heap.IsList b (strValues ys).toArray) (hu : A.in1.units < cLine)
    (hQ : ∀ h' tk, s.heap.StaysIn h' → Q (.ref (if cmpS true (ys.map (·.1)) (xs.map (·.1)) then b else a)) { s with heap := h', toks := tk }) :
    wpAny (model prog w) A (call (.builtin "min") [.ref D]) Q E s := by
  refine call_function_tree PySem.F.kind_min PySem.F.plain_min PySem.F.entry_min (PySem.F.args_min1 _) ?_
  show wpAny _ A.in1 (Builtin.Builtins.bindParams "min" ["key", "default"] 0 ⟨[], []⟩ >>= _) _ _ s
  refine wpAny_bind (wpAny_of_eq (show Builtin.Builtins.bindParams "min" ["key", "default"] 0 ⟨[], []⟩ = pure [none, none] from rfl) ?_)
  refine wpAny_bind (wpAny_pure ?_)
  refine wpAny_bind (wpAny_pyIter_list hD ?_)
  refine wpAny_bind (wpAny_newObj_type ?_)
  have m := Mm.start hD
  dsimp only
  rw [min_name, Heap.size_push]
  generalize ((s.heap.push { cls := .type "list_iterator", data := .fields #[.ref D, .int 0 0] }).push { cls := .type "list", data := .seq #[] }) = g at m
  refine wpAny_pure ⟨plainId_quiet PySem.F.plain_min_loop _, ?_⟩
  refine codeAny_builtin PySem.F.entry_min_loop ?_
  rw [Around.under_plainId PySem.F.plain_min_loop _]
  obtain ⟨c, e⟩ := m.bs
  show wpAny _ A.in1 (seqItems? (.ref (s.heap.objs.size + 1)) >>= _) _ _ _
  refine wpAny_bind (wpAny_seqItems e rfl ?_)
  show wpAny _ A.in1 (tryCatch (pyNext (.ref s.heap.objs.size)) _ >>= _) _ _ _
  refine wpAny_bind (wpAny_tryCatch (m.next (A := A.in1) hD rfl fun g' m' => ?_))
  clear m e
  obtain ⟨c, e⟩ := m'.bs
  show wpAny _ A.in1 (updateSeq (s.heap.objs.size + 1) (fun _ => #[.ref a, .ref a]) >>= _) _ _ _
  refine wpAny_bind (wpAny_updateSeq e rfl ?_)
  rw [min_name]
  exact wpAny_pure ⟨plainId_quiet PySem.F.plain_min_loop _, min_t2 hh hD (m'.upd (fun _ => #[.ref a, .ref a]) hD) ha hb hu hQ⟩
end
theorem gt_loop (l b : Addr) (xs ys : List (Str × Tok)) (n n2 : Nat) (dd dd2 : Option Addr) (sl sl2 : Array (Option Value)) (k : Nat) :
    ∀ i : Nat, i + k = xs.length → i ≤ ys.length → Meets (Builtin.«list.__eq__.loop» ⟨[.ref l, .ref b, rawInt i, rawInt 4], []⟩)
      (fun A R s => s.heap.get? l = some { cls := .type "list", dict := dd, data := .seq (strValues xs).toArray n, slots := sl } ∧ s.heap.get? b = some { cls := .type "list", dict := dd2, data := .seq (strValues ys).toArray n2, slots := sl2 } ∧
        R (.ok (.ret (.bool (cmpS false ((xs.map (·.1)).drop i) ((ys.map (·.1)).drop i))))) s) := by
  induction k with
  | zero =>
    intro i hk h2 prog w A R s h
    have hk : i = xs.length := hk
    obtain ⟨hp, g, d, tk, os⟩ := s; obtain ⟨hl, hb, h⟩ := h
    wp_walk using wpAny_loadPart' hl, wpAny_loadPart' hb
    rw [at_none' (Nat.le_of_eq hk.symm)]
    wp_walk using wpAny_loadPart' hl, wpAny_loadPart' hb
    rw [cmp_endL (by rw [List.length_map]; exact hk.symm) (by rw [List.length_map]; exact h2)] at h
    exact lens_gt h
  | succ k ih =>
    intro i hk h2 prog w A R s h
    obtain ⟨hp, g, d, tk, os⟩ := s; obtain ⟨hl, hb, h⟩ := h
    wp_walk using wpAny_loadPart' hl, wpAny_loadPart' hb
    have hlt : i < xs.length := hk ▸ Nat.lt_add_of_pos_right (Nat.succ_pos k)
    rw [at_strs' hlt]
    rcases Nat.lt_or_ge i ys.length with hlt2 | hge
    · rw [drop_strs hlt, drop_strs hlt2, cmpS] at h
      rw [at_strs' hlt2]
      refine wpAny_bind (SeqRoads2.EqGives.str _ _ _ _ prog w _ _ _ _ ?_)
      cases hb' : (xs[i].1.cps.toList == ys[i].1.cps.toList) with
      | true =>
        rw [hb', if_pos rfl] at h
        wp_walk
        exact ⟨plainId_quiet plain_eq_loop _, codeAny_builtin entry_eq_loop (by
          rw [Around.under_plainId plain_eq_loop _]
          exact ih (i + 1) ((Nat.succ_add i k).trans hk) hlt2 prog w A R _ ⟨hl, hb, h⟩)⟩
      | false =>
        rw [hb', if_neg (by decide)] at h
        wp_walk using wpAny_loadPart' hl, wpAny_loadPart' hb
        rw [at_strs' hlt, at_strs' hlt2]
        refine wpAny_bind ?_
        refine richCompare_gives (op := .Gt) (typeIs_str _ _ _) (typeIs_str _ _ _) F.slot_str_gt F.entry_str_gt (F.args_str_gt_2 _ _) (gives_str_gt _ _ _ _) (fun e => nomatch e) ?_
        exact wpAny_pure h
    · rw [at_none' hge]
      wp_walk using wpAny_loadPart' hl, wpAny_loadPart' hb
      rw [cmp_endR (by rw [List.length_map]; exact Nat.le_antisymm hge h2) (by rw [List.length_map]; exact hlt)] at h
      exact lens_gt h
theorem list_gt (l b : Addr) (xs ys : List (Str × Tok)) (n n2 : Nat) (dd dd2 : Option Addr) (sl sl2 : Array (Option Value)) :
    Meets (Builtin.«list.__gt__» ⟨[.ref l, .ref b], []⟩)
      (fun A R s => s.heap.get? l = some { cls := .type "list", dict := dd, data := .seq (strValues xs).toArray n, slots := sl } ∧ s.heap.get? b = some { cls := .type "list", dict := dd2, data := .seq (strValues ys).toArray n2, slots := sl2 } ∧
        R (.ok (.ret (.bool (cmpS false (xs.map (·.1)) (ys.map (·.1)))))) s) := by
  intro prog w A R s h
  obtain ⟨hp, g, d, tk, os⟩ := s; obtain ⟨hl, hb, h⟩ := h
  have f3 := AutoSeq1.sub_list_list
  wp_walk using wpAny_loadPart' hl, wpAny_loadPart' hb
  exact ⟨plainId_quiet plain_eq_loop _, codeAny_builtin entry_eq_loop (by
    rw [Around.under_plainId plain_eq_loop _]
    exact gt_loop l b xs ys n n2 dd dd2 sl sl2 _ 0 (Nat.zero_add _) (Nat.zero_le _) prog w A R _ ⟨hl, hb, by simpa using h⟩)⟩
section
variable {prog : Program} {w : World} {A : Around} {E : Value → Shared → Prop} {s : Shared}
theorem rc_gt {l b : Addr} {xs ys : List (Str × Tok)} {Q : Value → Shared → Prop} (hl : s.heap.IsList l (strValues xs).toArray) (hb : s.heap.IsList b (strValues ys).toArray) (hu : A.units < cLine) (h : Q (.bool (cmpS false (xs.map (·.1)) (ys.map (·.1)))) s) :
    wpAny (model prog w) A (richCompare .Gt (.ref l) (.ref b)) Q E s := by
  obtain ⟨⟨cls, dd, data, sl⟩, ho, hc, n, hd⟩ := id hl
  obtain ⟨⟨cls2, dd2, data2, sl2⟩, ho2, hc2, n2, hd2⟩ := id hb
  simp only at hc hd hc2 hd2
  subst hc hd hc2 hd2
  exact richCompare_meets_room (op := .Gt) ⟨_, ho, rfl⟩ ⟨_, ho2, rfl⟩ F.slot_list_gt F.entry_list_gt (F.args_list_gt_2 _ _) (list_gt l b xs ys n n2 dd dd2 sl sl2)
    ⟨ho, ho2, show Value.bool _ ≠ Value.notImplemented ∧ Q (.bool _) s from ⟨(fun x => nomatch x), h⟩⟩ hu
theorem max_t3 {a b D z : Addr} {g : Heap} {tk : Nat} {Q : Value → Shared → Prop} (hh : A.handled = none) (m : Mm s.heap D a b 2 #[.ref z, .ref z] g) (hq : ∀ h' tk, s.heap.StaysIn h' → Q (.ref z) { s with heap := h', toks := tk }) :
    codeAny (model prog w) A (.builtin "max.loop" ⟨[.ref s.heap.objs.size, .none, .ref (s.heap.objs.size + 1)], []⟩) (RQ Q E) { s with heap := g, toks := tk } := by
  refine codeAny_builtin PySem.F.entry_max_loop ?_
  rw [Around.under_plainId PySem.F.plain_max_loop _]
  obtain ⟨c, e⟩ := m.bs
  show wpAny _ A.in1 (seqItems? (.ref (s.heap.objs.size + 1)) >>= _) _ _ _
  refine wpAny_bind (wpAny_seqItems e rfl ?_)
  show wpAny _ A.in1 (tryCatch (pyNext (.ref s.heap.objs.size)) _ >>= _) _ _ _
  refine wpAny_bind (wpAny_tryCatch (m.stop (A := A.in1) hh fun g' st bs => ?_))
  obtain ⟨c, e⟩ := bs
  show wpAny _ A.in1 (updateSeq (s.heap.objs.size + 1) (fun _ => #[]) >>= _) _ _ _
  exact wpAny_bind (wpAny_updateSeq e rfl (wpAny_bind (wpAny_letGo (wpAny_pure (hq _ _ fun x o e => (Heap.get?_update_other _ _ (Ne.symm (old_ne e).2)).trans (st x o e))))))
theorem max_name : (toString "max" ++ toString ".loop" : String) = "max.loop" := by decide
theorem max_t2 {a b D : Addr} {xs ys : List (Str × Tok)} {g : Heap} {tk : Nat} {Q : Value → Shared → Prop} (hh : A.handled = none) (hD : s.heap.IsList D #[.ref a, .ref b]) (m : Mm s.heap D a b 1 #[.ref a, .ref a] g) (ha : s.heap.IsList a (strValues xs).toArray) (hb : s.heap.IsList b (strValues ys).toArray) (hu : A.in1.units < cLine)
    (hQ : ∀ h' tk, s.heap.StaysIn h' → Q (.ref (if cmpS false (ys.map (·.1)) (xs.map (·.1)) then b else a)) { s with heap := h', toks := tk }) :
    codeAny (model prog w) A (.builtin "max.loop" ⟨[.ref s.heap.objs.size, .none, .ref (s.heap.objs.size + 1)], []⟩) (RQ Q E) { s with heap := g, toks := tk } := by
  refine codeAny_builtin PySem.F.entry_max_loop ?_
  rw [Around.under_plainId PySem.F.plain_max_loop _]
  obtain ⟨c, e⟩ := m.bs
  show wpAny _ A.in1 (seqItems? (.ref (s.heap.objs.size + 1)) >>= _) _ _ _
  refine wpAny_bind (wpAny_seqItems e rfl ?_)
  show wpAny _ A.in1 (tryCatch (pyNext (.ref s.heap.objs.size)) _ >>= _) _ _ _
  refine wpAny_bind (wpAny_tryCatch (m.next (A := A.in1) hD rfl fun g' m' => ?_))
  clear m e
  show wpAny _ A.in1 (tryCatch (holding [.ref b, .ref b] (richCompare .Gt (.ref b) (.ref a) >>= _)) _ >>= _) _ _ _
  refine wpAny_bind (wpAny_tryCatch (wpAny_holding (wpAny_bind (rc_gt (hb.at fun o e => m'.st _ _ e) (ha.at fun o e => m'.st _ _ e) hu ?_))))
  refine wpAny_bind (wpAny_holding (wpAny_truthy_bool (wpAny_bind (wpAny_letGo (wpAny_pure ?_)))))
  cases hbt : cmpS false (ys.map (·.1)) (xs.map (·.1)) with
  | true =>
    rw [hbt, if_pos rfl] at hQ
    obtain ⟨c, e⟩ := m'.bs
    refine wpAny_bind (wpAny_updateSeq e rfl (wpAny_bind (wpAny_letGo ?_)))
    rw [max_name]
    exact wpAny_pure ⟨plainId_quiet PySem.F.plain_max_loop _, max_t3 hh (m'.upd (fun _ => #[.ref b, .ref b]) hD) hQ⟩
  | false =>
    rw [hbt, if_neg Bool.false_ne_true] at hQ
    refine wpAny_bind (wpAny_letGo ?_)
    rw [max_name]
    exact wpAny_pure ⟨plainId_quiet PySem.F.plain_max_loop _, max_t3 hh m' hQ⟩
theorem max_two {a b D : Addr} {xs ys : List (Str × Tok)} {Q : Value → Shared → Prop} (hh : A.handled = none) (hD : s.heap.IsList D #[.ref a, .ref b]) (ha : s.heap.IsList a (strValues xs).toArray) (hb : s.heap.IsList b (strValues ys).toArray) (hu : A.in1.units < cLine)
    (hQ : ∀ h' tk, s.heap.StaysIn h' → Q (.ref (if cmpS false (ys.map (·.1)) (xs.map (·.1)) then b else a)) { s with heap := h', toks := tk }) :
    wpAny (model prog w) A (call (.builtin "max") [.ref D]) Q E s := by
  refine call_function_tree PySem.F.kind_max PySem.F.plain_max PySem.F.entry_max (PySem.F.args_max1 _) ?_
  show wpAny _ A.in1 (Builtin.Builtins.bindParams "max" ["key", "default"] 0 ⟨[], []⟩ >>= _) _ _ s
  refine wpAny_bind (wpAny_of_eq (show Builtin.Builtins.bindParams "max" ["key", "default"] 0 ⟨[], []⟩ = pure [none, none] from rfl) ?_)
  refine wpAny_bind (wpAny_pure ?_)
  refine wpAny_bind (wpAny_pyIter_list hD ?_)
  refine wpAny_bind (wpAny_newObj_type ?_)
  have m := Mm.start hD
  dsimp only
  rw [max_name, Heap.size_push]
  generalize ((s.heap.push { cls := .type "list_iterator", data := .fields #[.ref D, .int 0 0] }).push { cls := .type "list", data := .seq #[] }) = g at m
  refine wpAny_pure ⟨plainId_quiet PySem.F.plain_max_loop _, ?_⟩
  refine codeAny_builtin PySem.F.entry_max_loop ?_
  rw [Around.under_plainId PySem.F.plain_max_loop _]
  obtain ⟨c, e⟩ := m.bs
  show wpAny _ A.in1 (seqItems? (.ref (s.heap.objs.size + 1)) >>= _) _ _ _
  refine wpAny_bind (wpAny_seqItems e rfl ?_)
  show wpAny _ A.in1 (tryCatch (pyNext (.ref s.heap.objs.size)) _ >>= _) _ _ _
  refine wpAny_bind (wpAny_tryCatch (m.next (A := A.in1) hD rfl fun g' m' => ?_))
  clear m e
  obtain ⟨c, e⟩ := m'.bs
  show wpAny _ A.in1 (updateSeq (s.heap.objs.size + 1) (fun _ => #[.ref a, .ref a]) >>= _) _ _ _
  refine wpAny_bind (wpAny_updateSeq e rfl ?_)
  rw [max_name]
  exact wpAny_pure ⟨plainId_quiet PySem.F.plain_max_loop _, max_t2 hh hD (m'.upd (fun _ => #[.ref a, .ref a]) hD) ha hb hu hQ⟩
end
end
section
open PySem PySem.W PySem.Calls PyProof.Rows
theorem str_cps {x y : Str} : (x.cps.toList == y.cps.toList) = (x == y) := by
  rw [Bool.eq_iff_iff, beq_iff_eq, beq_iff_eq]
  constructor
  · intro h
    cases x; cases y
    exact congrArg Str.mk (Array.toList_inj.mp h)
  · intro h; rw [h]
noncomputable def Low (xs ys : List Str) : Prop := lcp xs ys = xs.length ∨ lcp xs ys < ys.length
theorem low_cons {x y : Str} {xs ys : List Str} (h : (x == y) = true → Low xs ys) : Low (x :: xs) (y :: ys) := by
  unfold Low lcp
  cases e : (x == y) with
  | true =>
    have := h e
    unfold Low at this
    simp; omega
  | false => simp
theorem low_of_lt : ∀ {xs ys : List Str}, cmpS true xs ys = true → Low xs ys
  | [], _, _ => .inl (by simp [lcp])
  | _ :: _, [], h => by simp [cmpS] at h
  | x :: xs, y :: ys, h => low_cons fun e => low_of_lt (by rw [cmpS, str_cps, if_pos e] at h; exact h)
theorem low_of_gt : ∀ {xs ys : List Str}, cmpS false ys xs = true → Low xs ys
  | [], _, _ => .inl (by simp [lcp])
  | _ :: _, [], h => by simp [cmpS] at h
  | x :: xs, y :: ys, h => low_cons fun e => low_of_gt (by
      have e' : (y == x) = true := by rw [eq_of_beq e]; simp
      rw [cmpS, str_cps, if_pos e'] at h; exact h)
theorem eq_of_neither : ∀ {xs ys : List Str}, cmpS true xs ys = false → cmpS false xs ys = false → xs = ys
  | [], [], _, _ => rfl
  | [], _ :: _, h, _ => by simp [cmpS] at h
  | _ :: _, [], _, h => by simp [cmpS] at h
  | x :: xs, y :: ys, h1, h2 => by
    rw [cmpS, str_cps] at h1 h2
    cases e : (x == y) with
    | true =>
      rw [if_pos e] at h1 h2
      rw [eq_of_beq e, eq_of_neither h1 h2]
    | false =>
      rw [if_neg (by rw [e]; decide)] at h1 h2
      simp only [if_true, Bool.false_eq_true, if_false, decide_eq_false_iff_not] at h1 h2
      have h3 : x.cps.toList = y.cps.toList := List.le_antisymm (List.not_lt.mp h2) (List.not_lt.mp h1)
      rw [← str_cps, h3] at e
      simp at e
theorem not_both : ∀ {xs ys : List Str}, cmpS true xs ys = true → cmpS false xs ys = true → False
  | [], _, _, h => by simp [cmpS] at h
  | _ :: _, [], h, _ => by simp [cmpS] at h
  | x :: xs, y :: ys, h1, h2 => by
    rw [cmpS, str_cps] at h1 h2
    cases e : (x == y) with
    | true =>
      rw [if_pos e] at h1 h2
      exact not_both h1 h2
    | false =>
      rw [if_neg (by rw [e]; decide)] at h1 h2
      simp only [if_true, Bool.false_eq_true, if_false, decide_eq_true_eq] at h1 h2
      exact List.lt_asymm h1 h2
theorem lcp_comm : ∀ xs ys : List Str, xs.take (lcp xs ys) = ys.take (lcp ys xs)
  | [], ys => by cases ys <;> simp [lcp]
  | _ :: _, [] => by simp [lcp]
  | x :: xs, y :: ys => by
    unfold lcp
    cases e : (x == y) with
    | true =>
      have e' := eq_of_beq e
      subst e'
      simp [lcp_comm xs ys]
    | false =>
      have e' : (y == x) = false := by
        rw [beq_eq_false_iff_ne] at e ⊢
        exact fun h => e h.symm
      simp [e']
theorem shared_comm (xs ys : List Str) : lawShared xs ys = lawShared ys xs := by unfold lawShared; rw [lcp_comm]
theorem low_self (xs : List Str) : Low xs xs := by
  refine .inl ?_
  induction xs with
  | nil => rfl
  | cons x xs ih => unfold lcp; simp [ih]
end
section
open PySem PySem.W PySem.Calls PyProof.Rows
noncomputable def fcC (a : Str) : Bool := !(a == Str.ofString "") && !(a == Str.ofString ".")
noncomputable def compsF (x : Str) : List Str := (Txt.split x (Str.ofString "/")).filter fcC
theorem fcC_eq (q : Str) : fcC q = (!decide (q.length = 0) && (q != Str.ofString ".")) := by
  unfold fcC
  have : (q == Str.ofString "") = decide (q.length = 0) := by
    by_cases h : q.length = 0
    · have : q = Str.ofString "" := by
        obtain ⟨c⟩ := q
        exact congrArg Str.mk (Array.eq_empty_of_size_eq_zero h)
      subst this
      rfl
    · rw [decide_eq_false h]
      exact beq_false_of_ne fun e => h (by rw [e]; rfl)
  rw [this]
  rfl
end
section
open PySem PySem.W PySem.Calls PyProof.Rows PySem.StrLaws
theorem labS_eq : labS = labN.map tx := by decide +kernel
noncomputable def Host (t : Str) : Prop := ∃ G, Good G ∧ G.length ≤ 4 ∧ t = tx (glue 46 G)
noncomputable def Dom (t : Str) : Prop := ∃ G, Good G ∧ t = tx (glue 46 G)
theorem host_of_row {l : List Str} (h : GoodS l) : Host (Txt.join (Str.ofString ".") l) := by
  obtain ⟨G, hG⟩ : ∃ G : List (List Nat), l = G.map tx ∧ ∀ a ∈ G, a ∈ labN := by
    have hl : ∀ s ∈ l, ∃ a ∈ labN, s = tx a := fun s hs => by
      have := h.lab s hs
      rw [labS_eq] at this
      obtain ⟨a, ha, e⟩ := List.mem_map.mp this
      exact ⟨a, ha, e.symm⟩
    clear h
    induction l with
    | nil => exact ⟨[], rfl, by simp⟩
    | cons s r ih =>
      obtain ⟨G, e, hg⟩ := ih fun s hs => hl s (.tail _ hs)
      obtain ⟨a, ha, e2⟩ := hl s (.head _)
      exact ⟨a :: G, by rw [e, e2]; rfl, fun b hb => by
        rcases List.mem_cons.mp hb with rfl | hb
        · exact ha
        · exact hg b hb⟩
  have hlen : G.length = l.length := by
    have := congrArg List.length hG.1
    simpa using this.symm
  have h1 := h.lo
  have h2 := h.hi
  refine ⟨G, ⟨by rintro rfl; simp at hlen; lia, by lia, hG.2⟩, by lia, ?_⟩
  rw [hG.1, s_dot', join_tx]
theorem Host.dom {t : Str} (h : Host t) : Dom t := by
  obtain ⟨G, h1, _, h3⟩ := h
  exact ⟨G, h1, h3⟩
theorem Host.dot {t : Str} (h : Host t) : Dom (Str.ofString "." ++ t) := by
  obtain ⟨G, h1, h2, rfl⟩ := h
  refine ⟨[] :: G, ⟨by simp, by simp; lia, fun a ha => ?_⟩, ?_⟩
  · rcases List.mem_cons.mp ha with rfl | ha
    · decide
    · exact h1.lab a ha
  · rw [s_dot', tx_app, glue_cons h1.lo]; rfl
theorem Dom.ok {t : Str} (h : Dom t) : Ok t := by
  obtain ⟨G, h1, rfl⟩ := h
  refine ⟨by rw [tx_len]; have := h1.len; lia, fun c hc => ?_⟩
  rw [tx_list] at hc
  exact ⟨(h1.asc c hc).1, (h1.asc c hc).2.1⟩
end
section
open PySem PySem.W PySem.Calls PyProof.Rows PySem.StrLaws
theorem starts_no {b : List Nat} {c : Nat} (h : c ∉ b) : Txt.startswith (tx b) (tx [c]) = false := by
  unfold Txt.startswith
  rw [subAt_eq, tx_list, tx_list, tx_len, tx_len]
  cases b with
  | nil => rfl
  | cons d r =>
    have : d ≠ c := fun e => h (e ▸ .head _)
    simp [this]
theorem starts_yes {r : List Nat} {c : Nat} : Txt.startswith (tx (c :: r)) (tx [c]) = true := by
  unfold Txt.startswith
  rw [subAt_eq, tx_list, tx_list, tx_len, tx_len]
  simp
theorem ends_snoc {l : List Nat} {c d : Nat} : Txt.endswith (tx (l ++ [d])) (tx [c]) = (d == c) := by
  unfold Txt.endswith
  rw [subAt_eq, tx_list, tx_list, tx_len, tx_len]
  simp
structure Cl (ns : List (List Nat)) : Prop where
  ne : ∀ a ∈ ns, a ≠ []
  sl : ∀ a ∈ ns, 47 ∉ a
  dt : ∀ a ∈ ns, 46 ∉ a
theorem Cl.snoc {ns : List (List Nat)} {b : List Nat} (h : Cl ns) (h1 : b ≠ []) (h2 : 47 ∉ b) (h3 : 46 ∉ b) : Cl (ns ++ [b]) := by
  refine ⟨fun a ha => ?_, fun a ha => ?_, fun a ha => ?_⟩ <;> (rcases List.mem_append.mp ha with ha | ha)
  · exact h.ne a ha
  · rw [List.mem_singleton.mp ha]; exact h1
  · exact h.sl a ha
  · rw [List.mem_singleton.mp ha]; exact h2
  · exact h.dt a ha
  · rw [List.mem_singleton.mp ha]; exact h3
theorem glue_end {ns : List (List Nat)} (h : Cl ns) (h0 : ns ≠ []) : ∃ l d, glue 47 ns = l ++ [d] ∧ d ≠ 47 := by
  obtain ⟨K, a, rfl⟩ : ∃ K a, ns = K ++ [a] := ⟨ns.dropLast, ns.getLast h0, (List.dropLast_concat_getLast h0).symm⟩
  have ha := h.ne a (by simp)
  have hs := h.sl a (by simp)
  obtain ⟨a', d, rfl⟩ : ∃ a' d, a = a' ++ [d] := ⟨a.dropLast, a.getLast ha, (List.dropLast_concat_getLast ha).symm⟩
  have hd : d ≠ 47 := fun e => hs (by simp [e])
  by_cases hK : K = []
  · subst hK; exact ⟨a', d, rfl, hd⟩
  · rw [glue_snoc hK]
    exact ⟨glue 47 K ++ 47 :: a', d, by simp, hd⟩
noncomputable def PathIs (l : List Nat) (ns : List (List Nat)) : Prop := Cl ns ∧ (l = 47 :: glue 47 ns ∨ (ns ≠ [] ∧ l = 47 :: (glue 47 ns ++ [47])))
theorem joinStep_no {l' : List Nat} {d : Nat} {b : List Nat} (hb : 47 ∉ b) (hd : d ≠ 47) : joinStep (tx (l' ++ [d])) (tx b) = tx ((l' ++ [d]) ++ 47 :: b) := by
  unfold joinStep
  rw [s_sl, if_neg, if_neg, tx_app, tx_app]
  · simp
  · rw [ends_snoc]; simp [hd]
  · rw [starts_no hb, tx_len]; simp
theorem joinStep_yes {l' : List Nat} {b : List Nat} (hb : 47 ∉ b) : joinStep (tx (l' ++ [47])) (tx b) = tx ((l' ++ [47]) ++ b) := by
  unfold joinStep
  rw [s_sl, if_neg, if_pos, tx_app]
  · rw [ends_snoc]; simp
  · rw [starts_no hb, tx_len]; simp
theorem pathStep {l : List Nat} {ns : List (List Nat)} {b : List Nat} (h : PathIs l ns) (hb : 47 ∉ b) (hb2 : 46 ∉ b) : ∃ l', joinStep (tx l) (tx b) = tx l' ∧ PathIs l' (ns ++ [b].filter (fun a => !(a == []))) := by
  obtain ⟨hc, h⟩ := h
  by_cases hbe : b = []
  · subst hbe
    have e : ns ++ [([] : List Nat)].filter (fun a => !(a == [])) = ns := by simp
    rw [e]
    rcases h with rfl | ⟨h0, rfl⟩
    · by_cases h0 : ns = []
      · subst h0
        exact ⟨_, joinStep_yes (l' := []) (by simp), hc, .inl rfl⟩
      · obtain ⟨l, d, e1, hd⟩ := glue_end hc h0
        refine ⟨47 :: (glue 47 ns ++ [47]), ?_, hc, .inr ⟨h0, rfl⟩⟩
        rw [e1, show 47 :: (l ++ [d]) = (47 :: l) ++ [d] from rfl, joinStep_no (by simp) hd]
        simp
    · refine ⟨47 :: (glue 47 ns ++ [47]), ?_, hc, .inr ⟨h0, rfl⟩⟩
      rw [show 47 :: (glue 47 ns ++ [47]) = (47 :: glue 47 ns) ++ [47] from rfl, joinStep_yes (by simp)]
      simp
  · have e : ns ++ [b].filter (fun a => !(a == [])) = ns ++ [b] := by
      simp [hbe]
    rw [e]
    rcases h with rfl | ⟨h0, rfl⟩
    · by_cases h0 : ns = []
      · subst h0
        refine ⟨_, joinStep_yes (l' := []) hb, hc.snoc hbe hb hb2, .inl rfl⟩
      · obtain ⟨l, d, e1, hd⟩ := glue_end hc h0
        refine ⟨_, ?_, hc.snoc hbe hb hb2, .inl rfl⟩
        rw [glue_snoc h0, e1, show 47 :: (l ++ [d]) = (47 :: l) ++ [d] from rfl, joinStep_no hb hd]
        rfl
    · refine ⟨_, ?_, hc.snoc hbe hb hb2, .inl rfl⟩
      rw [glue_snoc h0, show 47 :: (glue 47 ns ++ [47]) = (47 :: glue 47 ns) ++ [47] from rfl, joinStep_yes hb]
      simp
theorem pathFold : ∀ (B : List (List Nat)) (l : List Nat) (ns : List (List Nat)), PathIs l ns → (∀ b ∈ B, 47 ∉ b ∧ 46 ∉ b) → ∃ l', joinF (tx l) (B.map tx) = tx l' ∧ PathIs l' (ns ++ B.filter (fun a => !(a == [])))
  | [], l, ns, h, _ => ⟨l, rfl, by simpa using h⟩
  | b :: B, l, ns, h, hB => by
    obtain ⟨l1, e1, h1⟩ := pathStep h (hB b (.head _)).1 (hB b (.head _)).2
    obtain ⟨l2, e2, h2⟩ := pathFold B l1 _ h1 fun x hx => hB x (.tail _ hx)
    refine ⟨l2, ?_, ?_⟩
    · show joinF (joinStep (tx l) (tx b)) (B.map tx) = _
      rw [e1, e2]
    · have : ns ++ (b :: B).filter (fun a => !(a == [])) = ns ++ [b].filter (fun a => !(a == [])) ++ B.filter (fun a => !(a == [])) := by
        rw [List.append_assoc, ← List.filter_append]; rfl
      rw [this]; exact h2
noncomputable def namesL (G : List (List Nat)) : List (List Nat) := (lowG G).reverse.filter (fun a => !(a == []))
theorem Good.rev {G : List (List Nat)} (h : Good G) : ∀ b ∈ (lowG G).reverse, 47 ∉ b ∧ 46 ∉ b := fun b hb => by
  have := h.lowal b (List.mem_reverse.mp hb)
  exact ⟨fun hm => (isLow_facts (this _ hm)).2.2.2 rfl, fun hm => (isLow_facts (this _ hm)).2.2.1 rfl⟩
theorem Good.joined {G : List (List Nat)} (h : Good G) : ∃ l, joined (tx (glue 46 G)) = tx l ∧ PathIs l (namesL G) := by
  unfold Mine.joined
  rw [h.splitLow, ← List.map_reverse, s_sl]
  obtain ⟨l, e1, h1⟩ := pathFold (lowG G).reverse [47] [] ⟨⟨by simp, by simp, by simp⟩, .inl rfl⟩ h.rev
  exact ⟨l, e1, by rw [List.nil_append] at h1; exact h1⟩
theorem Good.names {G : List (List Nat)} (h : Good G) : lawNames (tx (glue 46 G)) = (namesL G).map tx := by
  unfold lawNames namesL
  rw [h.splitLow, ← List.map_reverse, List.filter_map]
  congr 1
  refine List.filter_congr fun a _ => ?_
  show (!(tx a == Str.ofString "")) = _
  rw [s_nil, tx_beq]
theorem path_roots {l : List Nat} {ns : List (List Nat)} (h : PathIs l ns) : root1 (tx l) = tx [47] ∧ ∃ r, root2 (tx l) = tx r ∧ l = 47 :: r ∧ ∃ sp : List (List Nat), Txt.split (tx r) (tx [47]) = sp.map tx ∧ sp.filter (fun a => !(a == [])) = ns ∧ (∀ a ∈ sp, a = [] ∨ a ∈ ns) := by
  obtain ⟨hc, h⟩ := h
  obtain ⟨r, hr, hr0⟩ : ∃ r, l = 47 :: r ∧ ∀ c r', r = c :: r' → c ≠ 47 := by
    rcases h with rfl | ⟨h0, rfl⟩
    · refine ⟨_, rfl, fun c r' e => ?_⟩
      match ns, hc, e with
      | [a], hc, e =>
        intro ec
        exact hc.sl a (by simp) (by rw [show a = c :: r' from e, ec]; simp)
      | a :: b :: q, hc, e =>
        intro ec
        cases a with
        | nil => exact hc.ne [] (by simp) rfl
        | cons x a =>
          have e' : (x :: a) ++ 47 :: glue 47 (b :: q) = c :: r' := e
          rw [List.cons_append] at e'
          injection e' with e1 _
          exact hc.sl (x :: a) (by simp) (by rw [e1, ec]; simp)
    · refine ⟨_, rfl, fun c r' e => ?_⟩
      match ns, hc, e with
      | [a], hc, e =>
        intro ec
        cases a with
        | nil => exact hc.ne [] (by simp) rfl
        | cons x a =>
          have e' : (x :: a) ++ [47] = c :: r' := e
          rw [List.cons_append] at e'
          injection e' with e1 _
          exact hc.sl (x :: a) (by simp) (by rw [e1, ec]; simp)
      | a :: b :: q, hc, e =>
        intro ec
        cases a with
        | nil => exact hc.ne [] (by simp) rfl
        | cons x a =>
          have e' : ((x :: a) ++ 47 :: glue 47 (b :: q)) ++ [47] = c :: r' := e
          rw [List.cons_append, List.cons_append] at e'
          injection e' with e1 _
          exact hc.sl (x :: a) (by simp) (by rw [e1, ec]; simp)
  subst hr
  have q1 : (Txt.slice (tx (47 :: r)) none (some 1) != Str.ofString "/") = false := by
    rw [show (1 : Int) = ((1 : Nat) : Int) from rfl, slice_to, s_sl, tx_bne]; simp
  have q2 : (Txt.slice (tx (47 :: r)) (some 1) (some 2) != Str.ofString "/") = true := by
    rw [show (1 : Int) = ((1 : Nat) : Int) from rfl, show (2 : Int) = ((2 : Nat) : Int) from rfl, slice_tx, s_sl, tx_bne]
    cases r with
    | nil => rfl
    | cons c r' =>
      have := hr0 c r' rfl
      simp [this]
  refine ⟨?_, r, ?_, rfl, ?_⟩
  · unfold root1
    rw [q1, if_neg (by decide), if_pos (.inl q2), s_sl]
  · unfold root2
    rw [q1, if_neg (by decide), if_pos (.inl q2), show (1 : Int) = ((1 : Nat) : Int) from rfl, slice_from]
    rfl
  · have hfil : ns.filter (fun a => !(a == [])) = ns := List.filter_eq_self.mpr fun a ha => by
      have := hc.ne a ha
      simpa using this
    rcases h with e | ⟨h0, e⟩
    · have e : r = glue 47 ns := List.cons.inj e |>.2
      subst e
      by_cases h0 : ns = []
      · subst h0
        refine ⟨[[]], ?_, rfl, by simp⟩
        exact split_tx (ls := [[]]) (by simp) (by simp)
      · exact ⟨ns, split_tx h0 hc.sl, hfil, fun a ha => .inr ha⟩
    · have e : r = glue 47 ns ++ [47] := List.cons.inj e |>.2
      subst e
      refine ⟨ns ++ [[]], ?_, by rw [List.filter_append, hfil]; simp, fun a ha => ?_⟩
      · rw [show glue 47 ns ++ [47] = glue 47 (ns ++ [[]]) by rw [glue_snoc h0]]
        refine split_tx (by simp) fun a ha => ?_
        rcases List.mem_append.mp ha with ha | ha
        · exact hc.sl a ha
        · rw [List.mem_singleton.mp ha]; simp
      · rcases List.mem_append.mp ha with ha | ha
        · exact .inr ha
        · exact .inl (List.mem_singleton.mp ha)
theorem s_dotc : Str.ofString "." = tx [46] := s_dot'
theorem norm_path {l : List Nat} {ns : List (List Nat)} (h : PathIs l ns) : normF (tx l) = tx (47 :: glue 47 ns) := by
  obtain ⟨r1, r, r2, hl, sp, hsp, hf, hmem⟩ := path_roots h
  have hc := h.1
  have hcomps : normComps (tx l) = ns.map tx := by
    unfold normComps
    rw [r2, s_sl, hsp, List.filter_map, ← hf]
    congr 1
    refine List.filter_congr fun a ha => ?_
    show (!(tx a == Str.ofString "") && !(tx a == Str.ofString ".")) = _
    rw [s_nil, s_dot', tx_beq, tx_beq]
    rcases hmem a ha with rfl | hn
    · rfl
    · have : (a == [46]) = false := by
        rw [beq_eq_false_iff_ne]
        exact fun e => hc.dt a hn (by rw [e]; simp)
      rw [this]; simp
  unfold normF
  have hj : normJoined (tx l) = tx (47 :: glue 47 ns) := by
    unfold normJoined
    rw [r1, hcomps, s_sl, join_tx, tx_app]; rfl
  rw [hj, if_neg, if_neg]
  · rw [tx_len]; simp
  · rw [tx_len, hl]; simp
theorem Good.path {G : List (List Nat)} (h : Good G) : lawPath (tx (glue 46 G)) = tx (47 :: glue 47 (namesL G)) := by
  obtain ⟨l, e, hl⟩ := h.joined
  unfold lawPath
  rw [e, norm_path hl]
theorem Dom.path {t : Str} (h : Dom t) : lawPath t = Str.ofString "/" ++ Txt.join (Str.ofString "/") (lawNames t) := by
  obtain ⟨G, hG, rfl⟩ := h
  rw [hG.path, hG.names, s_sl, join_tx, tx_app]; rfl
theorem Good.namesCl {G : List (List Nat)} (h : Good G) : Cl (namesL G) := by
  obtain ⟨l, _, hl⟩ := h.joined
  exact hl.1
theorem lowG_len {G : List (List Nat)} (h : Good G) : ∀ a ∈ lowG G, a.length ≤ 5 := fun a ha => by
  obtain ⟨b, hb, rfl⟩ := List.mem_map.mp ha
  rw [List.length_map]
  exact lab_len b (h.lab b hb)
theorem Good.namesLen {G : List (List Nat)} (h : Good G) : (namesL G).length ≤ 5 ∧ ∀ a ∈ namesL G, a.length ≤ 5 := by
  constructor
  · have h1 : (namesL G).length ≤ (lowG G).reverse.length := List.length_filter_le _ _
    rw [List.length_reverse] at h1
    unfold lowG at h1
    rw [List.length_map] at h1
    exact Nat.le_trans h1 h.hi
  · exact fun a ha => lowG_len h a (List.mem_reverse.mp (List.mem_filter.mp ha).1)
theorem path_len {l : List Nat} {ns : List (List Nat)} (h : PathIs l ns) (h1 : ns.length ≤ 5) (h2 : ∀ a ∈ ns, a.length ≤ 5) : l.length ≤ 40 := by
  have h3 := glue_len (c := 47) (n := 5) h2
  have h4 : ns.length * (5 + 1) ≤ 30 := by lia
  rcases h.2 with rfl | ⟨_, rfl⟩ <;> simp <;> lia
theorem Dom.pathFacts {t : Str} (h : Dom t) : (lawPath t).length < 200 ∧ Txt.startswith (lawPath t) (Str.ofString "/") = true := by
  obtain ⟨G, hG, rfl⟩ := h
  rw [hG.path, tx_len, s_sl, starts_yes]
  have := path_len (l := 47 :: glue 47 (namesL G)) ⟨hG.namesCl, .inl rfl⟩ hG.namesLen.1 hG.namesLen.2
  exact ⟨by lia, rfl⟩
theorem Dom.names {t : Str} (h : Dom t) : (lawNames t).length < 100 ∧ ∀ a ∈ lawNames t, a.length < 100 := by
  obtain ⟨G, hG, rfl⟩ := h
  rw [hG.names]
  refine ⟨by rw [List.length_map]; have := hG.namesLen.1; lia, fun a ha => ?_⟩
  obtain ⟨b, hb, rfl⟩ := List.mem_map.mp ha
  rw [tx_len]
  have := hG.namesLen.2 b hb
  lia
theorem Dom.pathOk {t : Str} (h : Dom t) : PathOk t := by
  have hok := h.ok
  obtain ⟨G, hG, rfl⟩ := h
  obtain ⟨l, e, hl⟩ := hG.joined
  have hlen := path_len hl hG.namesLen.1 hG.namesLen.2
  obtain ⟨r1, r, r2, hlr, sp, hsp, hf, hmem⟩ := path_roots hl
  refine ⟨hok, ?_, ?_, ?_, ?_, ?_⟩
  · rw [e, tx_len]; lia
  · rw [e, r2, tx_len]; rw [hlr] at hlen; simp at hlen; lia
  · rw [e, r1, tx_len]; simp
  · rw [e, r2, s_sl, hsp]
    intro a ha ea
    obtain ⟨b, hb, rfl⟩ := List.mem_map.mp ha
    have e2 : b = [46, 46] := tx_inj (ea.trans (by decide +kernel))
    rcases hmem b hb with e3 | hn
    · rw [e3] at e2; cases e2
    · exact hl.1.dt b hn (by rw [e2]; simp)
  · rw [hG.splitLow, List.length_map]
    unfold lowG
    rw [List.length_map]
    have := hG.hi
    lia
end
section
open PySem PySem.W PySem.Calls PyProof.Rows PySem.StrLaws
theorem at_tx {l : List Nat} {c i : Nat} : PySem.StrLaws.At (tx l) (tx [c]) (tx l).length i ↔ l[i]? = some c := by
  have := subAt_one (tx l) c i
  rw [tx_list] at this
  exact this
theorem find_none {l : List Nat} {c : Nat} (h : c ∉ l) : Txt.find (tx l) (tx [c]) = -1 := by
  rcases find_whole (tx l) (tx [c]) with ⟨e, _⟩ | ⟨i, _, hi, _⟩
  · exact e
  · exact absurd (List.mem_of_getElem? (at_tx.mp hi)) h
theorem find_first {a r : List Nat} {c : Nat} (h : c ∉ a) : Txt.find (tx (a ++ c :: r)) (tx [c]) = a.length := by
  rcases find_whole (tx (a ++ c :: r)) (tx [c]) with ⟨_, hn⟩ | ⟨i, e, hi, hn⟩
  · exact absurd (at_tx.mpr (show (a ++ c :: r)[a.length]? = some c by simp)) (hn a.length)
  · have h1 := at_tx.mp hi
    have h2 : ¬ a.length < i := fun hlt => hn a.length hlt (at_tx.mpr (by simp))
    have h3 : ¬ i < a.length := fun hlt => by
      rw [List.getElem?_append_left hlt] at h1
      exact h (List.mem_of_getElem? h1)
    rw [e, Nat.le_antisymm (Nat.le_of_not_lt h2) (Nat.le_of_not_lt h3)]
theorem rfind_last {a r : List Nat} {c : Nat} (h : c ∉ r) : Txt.rfind (tx (a ++ c :: r)) (tx [c]) = a.length := by
  rcases rfind_whole (tx (a ++ c :: r)) (tx [c]) with ⟨_, hn⟩ | ⟨i, e, hi, hn⟩
  · exact absurd (at_tx.mpr (show (a ++ c :: r)[a.length]? = some c by simp)) (hn a.length)
  · have h1 := at_tx.mp hi
    have h2 : ¬ i < a.length := fun hlt => hn a.length hlt (at_tx.mpr (by simp))
    have h3 : ¬ a.length < i := fun hlt => by
      rw [List.getElem?_append_right (Nat.le_of_lt hlt)] at h1
      obtain ⟨k, hk⟩ : ∃ k, i - a.length = k + 1 := ⟨i - a.length - 1, (Nat.sub_add_cancel (Nat.sub_pos_of_lt hlt)).symm⟩
      rw [hk, List.getElem?_cons_succ] at h1
      exact h (List.mem_of_getElem? h1)
    rw [e, Nat.le_antisymm (Nat.le_of_not_lt h3) (Nat.le_of_not_lt h2)]
theorem rstrip_one {m : List Nat} {d c : Nat} (hd : d ≠ c) : Txt.rstripChars (tx (m ++ [d] ++ [c])) (tx [c]) = tx (m ++ [d]) := by
  unfold Txt.rstripChars
  rw [PyProof.Rows.stripBy_eq]
  have hgc : (tx [c]).cps.contains c = true := by simp [tx]
  have hgd : (tx [c]).cps.contains d = false := by simp [tx, hd]
  have hlo : PySem.stripLo (tx [c]).cps.contains false (tx (m ++ [d] ++ [c])) = 0 := rfl
  have hhi : PySem.stripHi (tx [c]).cps.contains true (tx (m ++ [d] ++ [c])) 0 = m.length + 1 := by
    unfold PySem.stripHi
    rw [if_pos rfl, tx_list, tx_len, List.drop_zero, List.reverse_append, List.reverse_append]
    have i1 : c ∈ (tx [c]).cps := by simp [tx]
    have i2 : ¬ d ∈ (tx [c]).cps := by simp [tx, hd]
    simp [List.takeWhile_cons, i1, i2]
  rw [hlo, hhi, tx_of (PySem.Builtin.Str.strSub _ _ _), strSub_toList, tx_list, List.drop_zero]
  congr 1
  rw [List.take_append_of_le_length (by simp), List.take_of_length_le (by simp)]
theorem mem_fold {c : Nat} : ∀ (k : Nat) (acc : Array Nat), (∀ x ∈ acc.toList, x = c) → ∀ x ∈ ((List.replicate k (#[c] : Array Nat)).foldl (· ++ ·) acc).toList, x = c
  | 0, acc, h => h
  | k + 1, acc, h => by
    rw [List.replicate_succ, List.foldl_cons]
    refine mem_fold k _ fun x hx => ?_
    rw [Array.toList_append] at hx
    rcases List.mem_append.mp hx with hx | hx
    · exact h x hx
    · simpa using hx
theorem mul_all {c : Nat} {n : Int} : ∀ x ∈ (Txt.mul (tx [c]) n).cps.toList, x = c := by
  unfold Txt.mul
  split
  · intro x hx; cases hx
  · split
    · intro x hx; simpa [tx] using hx
    · exact mem_fold _ #[] (by simp)
theorem dir_path {ns : List (List Nat)} {x : List Nat} (hc : Cl (ns ++ [x])) (h0 : ns ≠ []) : dirName (tx (47 :: glue 47 (ns ++ [x]))) = tx (47 :: glue 47 ns) := by
  have hcn : Cl ns := ⟨fun a ha => hc.ne a (by simp [ha]), fun a ha => hc.sl a (by simp [ha]), fun a ha => hc.dt a (by simp [ha])⟩
  obtain ⟨l, d, e1, hd⟩ := glue_end hcn h0
  have hx : 47 ∉ x := hc.sl x (by simp)
  have hh : dirHead (tx (47 :: glue 47 (ns ++ [x]))) = tx ((47 :: l) ++ [d] ++ [47]) := by
    unfold dirHead
    rw [glue_snoc h0, e1, show 47 :: ((l ++ [d]) ++ 47 :: x) = (47 :: (l ++ [d])) ++ 47 :: x from rfl, s_sl, rfind_last hx]
    rw [show (((47 :: (l ++ [d])).length : Nat) : Int) + 1 = (((47 :: (l ++ [d])).length + 1 : Nat) : Int) from rfl, slice_to]
    congr 1
    rw [List.take_append, List.take_of_length_le (by simp)]
    simp
  unfold dirName
  rw [hh, if_pos, s_sl, rstrip_one hd, e1]
  · rfl
  · refine ⟨by rw [tx_len]; simp; lia, ?_⟩
    rw [s_sl]
    have : tx ((47 :: l) ++ [d] ++ [47]) ≠ Txt.mul (tx [47]) ((tx ((47 :: l) ++ [d] ++ [47])).length : Int) := fun e => by
      have h1 := mul_all (c := 47) (n := ((tx ((47 :: l) ++ [d] ++ [47])).length : Int)) d (by rw [← e, tx_list]; simp)
      exact hd h1
    exact bne_iff_ne.mpr this
noncomputable def restT (t : Str) : Str := Txt.join (Str.ofString ".") ((Txt.split t (Str.ofString ".")).drop 1)
noncomputable def condR (t : Str) : Bool := lawIsName t && (decide (2 < (Txt.split t (Str.ofString ".")).length) || restT t == Str.ofString "local")
theorem rest_tx {G : List (List Nat)} (h : Good G) : restT (tx (glue 46 G)) = tx (glue 46 (G.drop 1)) := by
  unfold restT
  rw [h.split, ← List.map_drop, s_dot', join_tx]
theorem cond_tx {G : List (List Nat)} (h : Good G) : condR (tx (glue 46 G)) = (nameL G && (decide (2 < G.length) || tx (glue 46 (G.drop 1)) == Str.ofString "local")) := by
  unfold condR
  rw [h.dl.name, h.split, List.length_map, rest_tx h]
theorem namesL_nil (r : List (List Nat)) : namesL ([] :: r) = namesL r := by
  unfold namesL lowG
  simp
theorem namesL_cons {a : List Nat} {r : List (List Nat)} (h : a ≠ []) : namesL (a :: r) = namesL r ++ [a.map lo1] := by
  unfold namesL lowG
  rw [List.map_cons, List.reverse_cons, List.filter_append]
  simp [h]
theorem Host.good {t : Str} (h : Host t) : ∃ G, Good G ∧ G.length ≤ 4 ∧ t = tx (glue 46 G) := h
theorem mem_glue_two {a b : List Nat} {r : List (List Nat)} : 46 ∈ glue 46 (a :: b :: r) := by
  show 46 ∈ a ++ 46 :: glue 46 (b :: r)
  simp
theorem local_dot : (46 : Nat) ∉ (Str.ofString "local").cps.toList := by decide +kernel
theorem reach_tx {G : List (List Nat)} (h : Good G) : (condR (tx (glue 46 G)) = true → reachF (tx (glue 46 G)) = tx (46 :: glue 46 (G.drop 1)) ∧ G.drop 1 ≠ []) ∧ (condR (tx (glue 46 G)) = false → reachF (tx (glue 46 G)) = tx (glue 46 G)) := by
  rw [cond_tx h]
  obtain ⟨a, r, rfl⟩ : ∃ a r, G = a :: r := by
    cases G with
    | nil => exact absurd rfl h.lo
    | cons a r => exact ⟨a, r, rfl⟩
  have ha := h.dot a (.head _)
  rw [show (a :: r).drop 1 = r from rfl]
  cases r with
  | nil =>
    have hf : Txt.find (tx (glue 46 [a])) (Str.ofString ".") = -1 := by rw [s_dot']; exact find_none ha
    have hl : (tx (glue 46 []) == Str.ofString "local") = false := by decide +kernel
    refine ⟨fun hc => ?_, fun _ => ?_⟩
    · rw [hl] at hc; simp at hc
    · unfold reachF
      rw [hf, if_neg]
      rintro ⟨h1, _⟩
      exact absurd h1 (by decide)
  | cons b r =>
    have hf : Txt.find (tx (glue 46 (a :: b :: r))) (Str.ofString ".") = a.length := by rw [s_dot']; exact find_first ha
    have hb : reachB (tx (glue 46 (a :: b :: r))) = tx (glue 46 (b :: r)) := by
      unfold reachB
      rw [hf, show (a.length : Int) + 1 = ((a.length + 1 : Nat) : Int) from rfl, slice_from]
      congr 1
      show (a ++ 46 :: glue 46 (b :: r)).drop (a.length + 1) = _
      rw [show a ++ 46 :: glue 46 (b :: r) = (a ++ [46]) ++ glue 46 (b :: r) by simp, List.drop_left' (by simp)]
    have hd : (0 ≤ Txt.find (tx (glue 46 (b :: r))) (Str.ofString ".")) ↔ 2 < (a :: b :: r).length := by
      rw [s_dot']
      cases r with
      | nil =>
        rw [find_none (l := glue 46 [b]) (h.dot b (by simp))]
        simp
      | cons c r =>
        rw [show glue 46 (b :: c :: r) = b ++ 46 :: glue 46 (c :: r) from rfl, find_first (h.dot b (by simp))]
        simp
    have hcond : (0 ≤ Txt.find (tx (glue 46 (a :: b :: r))) (Str.ofString ".") ∧ isHDN (tx (glue 46 (a :: b :: r))) = true ∧ (0 ≤ Txt.find (reachB (tx (glue 46 (a :: b :: r)))) (Str.ofString ".") ∨ (reachB (tx (glue 46 (a :: b :: r))) == Str.ofString "local") = true)) ↔
        (nameL (a :: b :: r) && (decide (2 < (a :: b :: r).length) || tx (glue 46 (b :: r)) == Str.ofString "local")) = true := by
      rw [hb, hf, h.dl.hdn, hd, Bool.and_eq_true, Bool.or_eq_true, decide_eq_true_eq]
      exact ⟨fun x => x.2, fun x => ⟨by lia, x⟩⟩
    refine ⟨fun hc => ⟨?_, by simp⟩, fun hc => ?_⟩
    · unfold reachF
      rw [if_pos (hcond.mpr hc), hb, s_dot', tx_app]
      rfl
    · unfold reachF
      rw [if_neg fun x => by rw [hcond.mp x] at hc; cases hc]
theorem reach_no {t : Str} (h : Host t) (hc : condR t = false) : reachF t = t := by
  obtain ⟨G, hG, _, rfl⟩ := h
  exact (reach_tx hG).2 hc
theorem reach_yes {t : Str} (h : Host t) (hc : condR t = true) : reachF t = Str.ofString "." ++ restT t ∧ lawPath (Str.ofString "." ++ restT t) = dirName (lawPath t) ∧ Dom (Str.ofString "." ++ restT t) := by
  obtain ⟨G, hG, hl, rfl⟩ := h
  obtain ⟨h1, h2⟩ := (reach_tx hG).1 hc
  have e1 : Str.ofString "." ++ restT (tx (glue 46 G)) = tx (glue 46 ([] :: G.drop 1)) := by
    rw [rest_tx hG, s_dot', tx_app, glue_cons h2]; rfl
  have hG2 : Good ([] :: G.drop 1) := by
    refine ⟨by simp, by simp; lia, fun a ha => ?_⟩
    rcases List.mem_cons.mp ha with rfl | ha
    · decide
    · exact hG.lab a (List.mem_of_mem_drop ha)
  rw [e1]
  refine ⟨?_, ?_, ⟨_, hG2, rfl⟩⟩
  · rw [h1, glue_cons h2]; rfl
  · rw [hG2.path, hG.path]
    rw [cond_tx hG, Bool.and_eq_true] at hc
    have hn := hc.1
    unfold nameL at hn
    simp only [Bool.and_eq_true] at hn
    obtain ⟨⟨hn1, hn2⟩, _⟩ := hn
    obtain ⟨a, r, rfl⟩ : ∃ a r, G = a :: r := by
      cases G with
      | nil => exact absurd rfl hG.lo
      | cons a r => exact ⟨a, r, rfl⟩
    have ha : a ≠ [] := by simpa using hn1
    have hr : r ≠ [] := h2
    rw [namesL_nil, namesL_cons ha]
    show _ = dirName (tx (47 :: glue 47 (namesL r ++ [a.map lo1])))
    have hns : namesL r ≠ [] := by
      obtain ⟨K, z, rfl⟩ : ∃ K z, r = K ++ [z] := ⟨r.dropLast, r.getLast hr, (List.dropLast_concat_getLast hr).symm⟩
      have hz : z ≠ [] := by
        have : (a :: (K ++ [z])).getLast? = some z := by rw [show a :: (K ++ [z]) = (a :: K) ++ [z] from rfl, List.getLast?_append, List.getLast?_singleton]; rfl
        rw [this] at hn2
        simpa using hn2
      intro e
      have hm : z.map lo1 ∈ namesL (K ++ [z]) := by
        unfold namesL lowG
        refine List.mem_filter.mpr ⟨List.mem_reverse.mpr (List.mem_map_of_mem (by simp)), ?_⟩
        simp [hz]
      rw [e] at hm
      cases hm
    have hcl := hG.namesCl
    rw [namesL_cons ha] at hcl
    rw [dir_path hcl hns]
    rfl
end
section
open PySem PySem.W PySem.Calls PyProof.Rows PySem.StrLaws
theorem outS_tx (t : PTok) : outS t = tx (rdL t) := by
  cases t with
  | star => exact s_nil
  | quest => exact s_dot'
  | ch c =>
    show escC c = tx (if c = 46 then [92, 46] else [c])
    unfold escC
    split
    · decide +kernel
    · rfl
  | br x => rfl
theorem join_flat : ∀ ls : List (List Nat), Str.join (tx []) (ls.map tx) = tx ls.flatten
  | [] => rfl
  | [a] => by simp [Str.join]
  | a :: b :: r => by
    show tx a ++ tx [] ++ Str.join (tx []) ((b :: r).map tx) = _
    rw [join_flat (b :: r), tx_app, tx_app]
    simp
theorem join_nil (ls : List (List Nat)) : Txt.join (Str.ofString "") (ls.map tx) = tx ls.flatten := by
  rw [s_nil, join_eq, join_flat]
theorem midJ_tx (mid : List PTok) : midJ mid = tx (midL mid) := by
  unfold midJ midL
  rw [show mid.map outS = (mid.map rdL).map tx by rw [List.map_map]; exact List.map_congr_left fun t _ => outS_tx t, join_nil]
  rfl
theorem s_op : Str.ofString "(?s:" = tx [40, 63, 115, 58] := by decide +kernel
theorem s_cl : Str.ofString ")\\Z" = tx [41, 92, 90] := by decide +kernel
theorem s_emp : Str.empty = tx [] := rfl
theorem join_q (mid : List PTok) : joinRes [.quest] mid [.star] = tx ([40, 63, 115, 58] ++ innerL true mid ++ [41, 92, 90]) := by
  unfold joinRes
  have e : finOuts [.quest] mid [.star] = [[46], [40, 63, 62, 46, 42, 63] ++ midL mid ++ [41], [46, 42]].map tx := by
    unfold finOuts groupS
    rw [if_neg (by simp), midJ_tx, s_first, s_close, s_end, s_emp]
    simp only [List.map_cons, List.map_nil, outS_tx, tx_app]
    rfl
  rw [e, join_nil, s_op, s_cl, s_emp, tx_app, tx_app, tx_app]
  congr 1
  unfold innerL
  simp
theorem join_s (mid : List PTok) : joinRes [] mid [] = tx ([40, 63, 115, 58] ++ innerL false mid ++ [41, 92, 90]) := by
  unfold joinRes
  have e : finOuts [] mid [] = [[46, 42], midL mid].map tx := by
    unfold finOuts
    rw [if_pos rfl, midJ_tx, s_end]
    rfl
  rw [e, join_nil, s_op, s_cl, s_emp, tx_app, tx_app, tx_app]
  congr 1
  unfold innerL
  simp
theorem midL_len (mid : List PTok) : (midL mid).length ≤ mid.length * 4 := by
  unfold midL
  induction mid with
  | nil => simp
  | cons t r ih =>
    have : (rdL t).length ≤ 4 := by
      cases t <;> simp [rdL]
      split <;> simp
    rw [List.flatMap_cons, List.length_append, List.length_cons, Nat.add_mul]
    lia
theorem frame_slices (I : List Nat) : Txt.slice (tx ([40, 63, 115, 58] ++ I ++ [41, 92, 90])) none (some 4) = Str.ofString "(?s:" ∧ Txt.slice (tx ([40, 63, 115, 58] ++ I ++ [41, 92, 90])) (some (-3)) none = Str.ofString ")\\Z" ∧
    Txt.slice (tx ([40, 63, 115, 58] ++ I ++ [41, 92, 90])) (some 4) (some (-3)) = tx I := by
  have hlen : (tx ([40, 63, 115, 58] ++ I ++ [41, 92, 90])).length = I.length + 7 := by rw [tx_len]; simp
  refine ⟨?_, ?_, ?_⟩
  · rw [show (4 : Int) = ((4 : Nat) : Int) from rfl, slice_to, s_op]; rfl
  · rw [slice_eq, sliceText_neg_lo _ none (by decide) (by rw [hlen]; lia), hlen, show (-3 : Int) + ((I.length + 7 : Nat) : Int) = ((I.length + 4 : Nat) : Int) by lia, ← slice_eq, slice_from, s_cl]
    congr 1
    rw [List.drop_left' (by simp)]
  · rw [slice_eq, sliceText_neg_hi _ _ (by decide) (by rw [hlen]; lia), hlen, show (-3 : Int) + ((I.length + 7 : Nat) : Int) = ((I.length + 4 : Nat) : Int) by lia, ← slice_eq, show (4 : Int) = ((4 : Nat) : Int) from rfl, slice_tx]
    congr 1
    rw [List.append_assoc, List.drop_left' (by simp), show I.length + 4 - 4 = I.length by lia, List.take_left' rfl]
theorem inner_len2 (fm : Bool) (mid : List PTok) : (innerL fm mid).length ≤ mid.length * 4 + 10 := by
  have := midL_len mid
  unfold innerL
  split <;> simp <;> lia
theorem read_q {mid : List PTok} (hl : mid.length < 100) : (joinRes [.quest] mid [.star]).length < 500 ∧ Txt.slice (joinRes [.quest] mid [.star]) none (some 4) = Str.ofString "(?s:" ∧ Txt.slice (joinRes [.quest] mid [.star]) (some (-3)) none = Str.ofString ")\\Z" ∧
  Txt.slice (joinRes [.quest] mid [.star]) (some 4) (some (-3)) = tx (innerL true mid) := by
  have := inner_len2 true mid
  rw [join_q]
  refine ⟨?_, frame_slices _⟩
  rw [tx_len]; simp; lia
theorem read_s {mid : List PTok} (hl : mid.length < 100) : (joinRes [] mid []).length < 500 ∧ Txt.slice (joinRes [] mid []) none (some 4) = Str.ofString "(?s:" ∧ Txt.slice (joinRes [] mid []) (some (-3)) none = Str.ofString ")\\Z" ∧
  Txt.slice (joinRes [] mid []) (some 4) (some (-3)) = tx (innerL false mid) := by
  have := inner_len2 false mid
  rw [join_s]
  refine ⟨?_, frame_slices _⟩
  rw [tx_len]; simp; lia
noncomputable def tokL : List Nat → List PTok
  | [] => []
  | c :: r => (if lo1 c = up1 c then .ch c else .br (lo1 c)) :: r.map .ch
noncomputable def tokG : List (List Nat) → List PTok
  | [] => []
  | [a] => tokL a
  | a :: b :: r => tokL a ++ .ch 46 :: tokG (b :: r)
noncomputable def tokD (d : Str) : List PTok := tokG ((Txt.split d (Str.ofString ".")).map fun a => a.cps.toList)
theorem tokD_tx {G : List (List Nat)} (h : Good G) : tokD (tx (glue 46 G)) = tokG G := by
  unfold tokD
  rw [h.split, List.map_map]
  congr 1
  conv => rhs; rw [← List.map_id G]
  exact List.map_congr_left fun a _ => tx_list a
noncomputable def csL (a : List Nat) : List Nat := (tokL a).flatMap PTok.cs
theorem cs_tokG : ∀ G : List (List Nat), (tokG G).flatMap PTok.cs = glue 46 (G.map csL)
  | [] => rfl
  | [a] => rfl
  | a :: b :: r => by
    show (tokL a ++ .ch 46 :: tokG (b :: r)).flatMap PTok.cs = csL a ++ 46 :: glue 46 ((b :: r).map csL)
    rw [List.flatMap_append, List.flatMap_cons, cs_tokG (b :: r)]
    rfl
theorem spell_lab : ∀ a ∈ labN, spellLabel (tx a) = tx (csL a) := by decide +kernel
theorem spelled_tx {G : List (List Nat)} (h : Good G) : lawSpelled (tx (glue 46 G)) = tx ((tokG G).flatMap PTok.cs) := by
  unfold lawSpelled
  rw [h.split, List.map_map, cs_tokG]
  have e : G.map (spellLabel ∘ tx) = (G.map csL).map tx := by
    rw [List.map_map]
    exact List.map_congr_left fun a ha => spell_lab a (h.lab a ha)
  rw [e, s_dot', join_tx]
theorem s_qs : Str.ofString "?*" = tx [63, 42] := by decide +kernel
theorem s_st : Str.ofString "*" = tx [42] := by decide +kernel
theorem spell_q {d : Str} (h : Dom d) : Str.ofString "?*" ++ lawSpelled d ++ Str.ofString "*" = patS ([.quest] ++ (.star :: (tokD d ++ [.star]))) := by
  obtain ⟨G, hG, rfl⟩ := h
  rw [spelled_tx hG, tokD_tx hG, s_qs, s_st, tx_app, tx_app]
  show tx _ = tx _
  congr 1
  simp [List.flatMap_append, PTok.cs]
theorem spell_s {d : Str} (h : Dom d) : Str.ofString "*" ++ lawSpelled d = patS ([] ++ (.star :: (tokD d ++ []))) := by
  obtain ⟨G, hG, rfl⟩ := h
  rw [spelled_tx hG, tokD_tx hG, s_st, tx_app]
  show tx _ = tx _
  congr 1
  simp [PTok.cs]
noncomputable def okB : PTok → Bool
  | .ch c => safeC c
  | .br x => x == 97 || x == 98 || x == 99 || x == 108
  | _ => false
theorem okB_ok {t : PTok} (h : okB t = true) : t.ok ∧ t ≠ .star ∧ t ≠ .quest := by
  cases t with
  | star => cases h
  | quest => cases h
  | ch c => exact ⟨h, (by intro e; cases e), (by intro e; cases e)⟩
  | br x =>
    refine ⟨?_, (by intro e; cases e), (by intro e; cases e)⟩
    simp only [okB, Bool.or_eq_true, beq_iff_eq] at h
    show x = 97 ∨ x = 98 ∨ x = 99 ∨ x = 108
    lia
theorem okB_lab : ∀ a ∈ labN, (tokL a).all okB = true := by decide +kernel
theorem lenB_lab : ∀ a ∈ labN, (tokL a).length ≤ 5 ∧ (csL a).length ≤ 8 := by decide +kernel
theorem okB_tokG : ∀ G : List (List Nat), (∀ a ∈ G, a ∈ labN) → (tokG G).all okB = true
  | [], _ => rfl
  | [a], h => okB_lab a (h a (.head _))
  | a :: b :: r, h => by
    show (tokL a ++ .ch 46 :: tokG (b :: r)).all okB = true
    rw [List.all_append, List.all_cons, okB_lab a (h a (.head _)), okB_tokG (b :: r) fun x hx => h x (.tail _ hx)]
    rfl
theorem tokG_len : ∀ G : List (List Nat), (∀ a ∈ G, a ∈ labN) → (tokG G).length ≤ G.length * 6
  | [], _ => Nat.zero_le _
  | [a], h => by
    have := (lenB_lab a (h a (.head _))).1
    show (tokL a).length ≤ 1 * 6
    lia
  | a :: b :: r, h => by
    have h1 := (lenB_lab a (h a (.head _))).1
    have h2 := tokG_len (b :: r) fun x hx => h x (.tail _ hx)
    show (tokL a ++ .ch 46 :: tokG (b :: r)).length ≤ (r.length + 1 + 1) * 6
    rw [List.length_append, List.length_cons]
    rw [List.length_cons] at h2
    lia
theorem tok_ok {d : Str} (h : Dom d) : (∀ t ∈ tokD d, t.ok ∧ t ≠ .star ∧ t ≠ .quest) ∧ (tokD d).length < 100 ∧ (lawSpelled d).length < 150 := by
  obtain ⟨G, hG, rfl⟩ := h
  rw [tokD_tx hG, spelled_tx hG, tx_len, cs_tokG]
  have h1 := okB_tokG G hG.lab
  have h2 := tokG_len G hG.lab
  have h3 := hG.hi
  have h4 := glue_len (c := 46) (n := 8) (ls := G.map csL) fun a ha => by
    obtain ⟨b, hb, rfl⟩ := List.mem_map.mp ha
    exact (lenB_lab b (hG.lab b hb)).2
  rw [List.length_map] at h4
  exact ⟨fun t ht => okB_ok (List.all_eq_true.mp h1 t ht), by lia, by lia⟩
noncomputable def dotted (d : Str) : Bool := Txt.slice d none (some 1) == Str.ofString "."
theorem dotted_tx {G : List (List Nat)} (h : Dl G) : dotted (tx (glue 46 G)) = true ↔ ∃ r, r ≠ [] ∧ G = [] :: r := by
  unfold dotted
  rw [show (1 : Int) = ((1 : Nat) : Int) from rfl, slice_to, s_dot', tx_beq, beq_iff_eq]
  obtain ⟨a, r, rfl⟩ : ∃ a r, G = a :: r := by
    cases G with
    | nil => exact absurd rfl h.lo
    | cons a r => exact ⟨a, r, rfl⟩
  have ha := h.dot a (.head _)
  constructor
  · intro e
    cases r with
    | nil =>
      have e' : a.take 1 = [46] := e
      exact absurd (List.mem_of_mem_take (by rw [e']; simp : (46 : Nat) ∈ a.take 1)) ha
    | cons b r =>
      cases a with
      | nil => exact ⟨_, by simp, rfl⟩
      | cons x a =>
        have e' : ((x :: a) ++ 46 :: glue 46 (b :: r)).take 1 = [46] := e
        simp at e'
        exact absurd (by rw [e']; simp) ha
  · rintro ⟨r', h0, e⟩
    injection e with e1 e2
    subst e1 e2
    rw [glue_cons h0]
    rfl
theorem tok_pos {d : Str} (h : Dom d) (hd : dotted d = true) : 1 ≤ (tokD d).length := by
  obtain ⟨G, hG, rfl⟩ := h
  obtain ⟨r, h0, rfl⟩ := (dotted_tx hG.dl).mp hd
  rw [tokD_tx hG]
  cases r with
  | nil => exact absurd rfl h0
  | cons b r =>
    show 1 ≤ (tokL [] ++ .ch 46 :: tokG (b :: r)).length
    rw [List.length_append, List.length_cons]; lia
end
section
open PySem PySem.W PySem.Calls PyProof.Rows PySem.StrLaws
noncomputable def mTok : PTok → Nat → Bool
  | .ch x, c => c == x
  | .br x, c => c == x || c == x - 32
  | _, _ => true
noncomputable def all2 : List PTok → List Nat → Bool
  | [], [] => true
  | t :: ts, c :: cs => mTok t c && all2 ts cs
  | _, _ => false
theorem all2_len : ∀ {ts : List PTok} {cs : List Nat}, all2 ts cs = true → ts.length = cs.length
  | [], [], _ => rfl
  | t :: ts, c :: cs, h => by
    rw [all2, Bool.and_eq_true] at h
    rw [List.length_cons, List.length_cons, all2_len h.2]
  | [], _ :: _, h => by cases h
  | _ :: _, [], h => by cases h
theorem all2_app : ∀ (ts us : List PTok) (cs ds : List Nat), ts.length = cs.length → all2 (ts ++ us) (cs ++ ds) = (all2 ts cs && all2 us ds)
  | [], us, [], ds, _ => by simp [all2]
  | t :: ts, us, c :: cs, ds, h => by
    show (mTok t c && all2 (ts ++ us) (cs ++ ds)) = ((mTok t c && all2 ts cs) && all2 us ds)
    rw [all2_app ts us cs ds (by simpa using h), Bool.and_assoc]
  | [], _, _ :: _, _, h => by simp at h
  | _ :: _, _, [], _, h => by simp at h
noncomputable def upOk : Nat → List Nat → Bool
  | _, [] => true
  | pc, c :: r => (!(decide (65 ≤ c) && decide (c ≤ 90)) || pc == 46) && upOk c r
theorem upOk_app : ∀ (a : List Nat) (pc : Nat) (r : List Nat), upOk pc a = true → upOk 46 r = true → upOk pc (a ++ 46 :: r) = true
  | [], pc, r, _, h => by
    show ((!(decide (65 ≤ 46) && decide (46 ≤ 90)) || pc == 46) && upOk 46 r) = true
    rw [h]; simp
  | c :: a, pc, r, h1, h => by
    rw [upOk, Bool.and_eq_true] at h1
    show (_ && upOk c (a ++ 46 :: r)) = true
    rw [upOk_app a c r h1.2 h, h1.1]; rfl
theorem upOk_lab : ∀ a ∈ labN, upOk 46 a = true := by decide +kernel
theorem upOk_glue : ∀ G : List (List Nat), (∀ a ∈ G, a ∈ labN) → upOk 46 (glue 46 G) = true
  | [], _ => rfl
  | [a], h => upOk_lab a (h a (.head _))
  | a :: b :: r, h => upOk_app a 46 _ (upOk_lab a (h a (.head _))) (upOk_glue (b :: r) fun x hx => h x (.tail _ hx))
theorem upOk_drop : ∀ (l : List Nat) (pc n : Nat), upOk pc l = true → ∃ pc', upOk pc' (l.drop n) = true
  | l, pc, 0, h => ⟨pc, h⟩
  | [], pc, n + 1, h => ⟨pc, rfl⟩
  | c :: l, pc, n + 1, h => by
    rw [upOk, Bool.and_eq_true] at h
    exact upOk_drop l c n h.2
theorem upOk_take : ∀ (l : List Nat) (pc n : Nat), upOk pc l = true → upOk pc (l.take n) = true
  | l, pc, 0, h => by simp [upOk]
  | [], pc, n + 1, h => rfl
  | c :: l, pc, n + 1, h => by
    rw [upOk, Bool.and_eq_true] at h
    show (_ && upOk c (l.take n)) = true
    rw [upOk_take l c n h.2, h.1]; rfl
theorem upOk_mid : ∀ (a : List Nat) (pc c : Nat) (r : List Nat), upOk pc (a ++ c :: r) = true → upOk pc a = true ∧ upOk c r = true
  | [], pc, c, r, h => by
    have h' : ((!(decide (65 ≤ c) && decide (c ≤ 90)) || pc == 46) && upOk c r) = true := h
    rw [Bool.and_eq_true] at h'
    exact ⟨rfl, h'.2⟩
  | d :: a, pc, c, r, h => by
    have h' : ((!(decide (65 ≤ d) && decide (d ≤ 90)) || pc == 46) && upOk d (a ++ c :: r)) = true := h
    rw [Bool.and_eq_true] at h'
    obtain ⟨h1, h2⟩ := upOk_mid a d c r h'.2
    refine ⟨?_, h2⟩
    show (_ && upOk d a) = true
    rw [h1, h'.1]; rfl
theorem lo_low {x : Nat} (h : isLow x = true) : lo1 x = x := by
  unfold lo1
  simp [isLow] at h
  rw [if_neg (by lia)]
theorem tail_match : ∀ (xs : List Nat) (cs : List Nat) (pc : Nat), (∀ x ∈ xs, isLow x = true) → pc ≠ 46 → upOk pc cs = true → (all2 (xs.map .ch) cs = true ↔ cs.map lo1 = xs)
  | [], [], _, _, _, _ => by simp [all2]
  | [], c :: cs, _, _, _, _ => by simp [all2]
  | x :: xs, [], _, _, _, _ => by simp [all2]
  | x :: xs, c :: cs, pc, hx, hpc, hu => by
    have hx0 := hx x (.head _)
    rw [upOk, Bool.and_eq_true] at hu
    have hcu : ¬ (65 ≤ c ∧ c ≤ 90) := fun hc => by
      have h1 := hu.1
      simp [hc.1, hc.2] at h1
      exact hpc h1
    have hlo : lo1 c = c := by unfold lo1; rw [if_neg hcu]
    show (((c == x) && all2 (xs.map .ch) cs) = true) ↔ lo1 c :: cs.map lo1 = x :: xs
    rw [Bool.and_eq_true, beq_iff_eq, List.cons.injEq, hlo]
    constructor
    · rintro ⟨rfl, h2⟩
      exact ⟨rfl, (tail_match xs cs c (fun y hy => hx y (.tail _ hy)) (isLow_facts hx0).2.2.1 hu.2).mp h2⟩
    · rintro ⟨rfl, h2⟩
      exact ⟨rfl, (tail_match xs cs c (fun y hy => hx y (.tail _ hy)) (isLow_facts hx0).2.2.1 hu.2).mpr h2⟩
theorem lab_first : ∀ a ∈ labN, ∀ x r, a = x :: r → (isAl x = true ∧ ∀ y ∈ r, isLow y = true) := by
  intro a ha x r e
  subst e
  exact ⟨lab_al _ ha x (.head _), lab_tail _ ha⟩
theorem first_match {x c : Nat} (hx : isAl x = true) : mTok (if lo1 x = up1 x then .ch x else .br (lo1 x)) c = true ↔ lo1 c = lo1 x := by
  simp only [isAl, isLow, Bool.or_eq_true, Bool.and_eq_true, decide_eq_true_eq] at hx
  by_cases hc : (65 ≤ c ∧ c ≤ 90)
  · have h1 : lo1 c = c + 32 := by unfold lo1; rw [if_pos hc]
    by_cases hu : (65 ≤ x ∧ x ≤ 90)
    · have h2 : lo1 x = x + 32 := by unfold lo1; rw [if_pos hu]
      have h3 : up1 x = x := by unfold up1; rw [if_neg (by lia)]
      rw [if_neg (by lia), h1, h2]
      show (c == x + 32 || c == x + 32 - 32) = true ↔ _
      simp; lia
    · have h2 : lo1 x = x := by unfold lo1; rw [if_neg hu]
      by_cases hl : (97 ≤ x ∧ x ≤ 122)
      · have h3 : up1 x = x - 32 := by unfold up1; rw [if_pos hl]
        rw [if_neg (by lia), h1, h2]
        show (c == x || c == x - 32) = true ↔ _
        simp; lia
      · have h3 : up1 x = x := by unfold up1; rw [if_neg hl]
        rw [if_pos (by lia), h1, h2]
        show (c == x) = true ↔ _
        simp; lia
  · have h1 : lo1 c = c := by unfold lo1; rw [if_neg hc]
    by_cases hu : (65 ≤ x ∧ x ≤ 90)
    · have h2 : lo1 x = x + 32 := by unfold lo1; rw [if_pos hu]
      have h3 : up1 x = x := by unfold up1; rw [if_neg (by lia)]
      rw [if_neg (by lia), h1, h2]
      show (c == x + 32 || c == x + 32 - 32) = true ↔ _
      simp; lia
    · have h2 : lo1 x = x := by unfold lo1; rw [if_neg hu]
      by_cases hl : (97 ≤ x ∧ x ≤ 122)
      · have h3 : up1 x = x - 32 := by unfold up1; rw [if_pos hl]
        rw [if_neg (by lia), h1, h2]
        show (c == x || c == x - 32) = true ↔ _
        simp; lia
      · have h3 : up1 x = x := by unfold up1; rw [if_neg hl]
        rw [if_pos (by lia), h1, h2]
        show (c == x) = true ↔ _
        simp
theorem lo_dot46 {c : Nat} : lo1 c = 46 ↔ c = 46 := by
  unfold lo1
  split <;> lia
theorem lab_match {a : List Nat} (ha : a ∈ labN) {cs : List Nat} {pc : Nat} (hu : upOk pc cs = true) : all2 (tokL a) cs = true ↔ cs.map lo1 = a.map lo1 := by
  cases a with
  | nil => cases cs <;> simp [tokL, all2]
  | cons x r =>
    obtain ⟨hx, hr⟩ := lab_first _ ha x r rfl
    cases cs with
    | nil => simp [tokL, all2]
    | cons c cs =>
      rw [upOk, Bool.and_eq_true] at hu
      have hrl : r.map lo1 = r := by
        conv => rhs; rw [← List.map_id r]
        exact List.map_congr_left fun y hy => lo_low (hr y hy)
      show (mTok _ c && all2 (r.map .ch) cs) = true ↔ lo1 c :: cs.map lo1 = lo1 x :: r.map lo1
      rw [Bool.and_eq_true, first_match hx, List.cons.injEq, hrl]
      have hne : lo1 c = lo1 x → c ≠ 46 := fun e ec => by
        subst ec
        have h1 : lo1 x = 46 := e.symm
        have h2 := lo_dot46.mp h1
        exact (isAl_facts hx).2.2.1 h2
      exact ⟨fun h => ⟨h.1, (tail_match r cs c hr (hne h.1) hu.2).mp h.2⟩, fun h => ⟨h.1, (tail_match r cs c hr (hne h.1) hu.2).mpr h.2⟩⟩
theorem tokL_len (a : List Nat) : (tokL a).length = a.length := by cases a <;> simp [tokL]
theorem tokG_len2 : ∀ G : List (List Nat), (tokG G).length = (glue 46 G).length
  | [] => rfl
  | [a] => tokL_len a
  | a :: b :: r => by
    show (tokL a ++ .ch 46 :: tokG (b :: r)).length = (a ++ 46 :: glue 46 (b :: r)).length
    rw [List.length_append, List.length_append, List.length_cons, List.length_cons, tokL_len, tokG_len2 (b :: r)]
theorem glue_match : ∀ (D : List (List Nat)), (∀ a ∈ D, a ∈ labN) → ∀ (cs : List Nat) (pc : Nat), cs.length = (glue 46 D).length → upOk pc cs = true → (all2 (tokG D) cs = true ↔ cs.map lo1 = (glue 46 D).map lo1)
  | [], _, cs, _, hl, _ => by
    have : cs = [] := List.eq_nil_of_length_eq_zero hl
    subst this
    simp [tokG, all2, glue]
  | [a], h, cs, pc, _, hu => lab_match (h a (.head _)) hu
  | a :: b :: r, h, cs, pc, hl, hu => by
    have hl' : cs.length = (a ++ 46 :: glue 46 (b :: r)).length := hl
    rw [List.length_append, List.length_cons] at hl'
    obtain ⟨c1, c, c2, rfl, h1⟩ : ∃ c1 c c2, cs = c1 ++ c :: c2 ∧ c1.length = a.length := by
      have hlt : a.length < cs.length := by lia
      refine ⟨cs.take a.length, cs[a.length], cs.drop (a.length + 1), ?_, by simp; lia⟩
      rw [← List.drop_eq_getElem_cons hlt, List.take_append_drop]
    obtain ⟨hu1, hu2⟩ := upOk_mid c1 pc c c2 hu
    have h2 : c2.length = (glue 46 (b :: r)).length := by
      rw [List.length_append, List.length_cons] at hl'
      lia
    show all2 (tokL a ++ .ch 46 :: tokG (b :: r)) (c1 ++ c :: c2) = true ↔ (c1 ++ c :: c2).map lo1 = (a ++ 46 :: glue 46 (b :: r)).map lo1
    rw [all2_app _ _ _ _ (by rw [tokL_len, h1]), Bool.and_eq_true, lab_match (h a (.head _)) hu1]
    show (_ ∧ ((c == 46) && all2 (tokG (b :: r)) c2) = true) ↔ _
    rw [Bool.and_eq_true, beq_iff_eq, glue_match (b :: r) (fun x hx => h x (.tail _ hx)) c2 c h2 hu2, List.map_append, List.map_append, List.map_cons, List.map_cons]
    constructor
    · rintro ⟨e1, rfl, e2⟩
      rw [e1, e2]
    · intro e
      obtain ⟨e1, e2⟩ := List.append_inj e (by rw [List.length_map, List.length_map, h1])
      injection e2 with e2 e3
      exact ⟨e1, lo_dot46.mp (e2.trans (by decide)), e3⟩
end
section
open PySem PySem.W PySem.Calls PyProof.Rows PySem.StrLaws
theorem all2_iff : ∀ (ts : List PTok) (cs : List Nat), ts.length = cs.length → (all2 ts cs = true ↔ ∀ (k : Nat) (t : PTok) (c : Nat), ts[k]? = some t → cs[k]? = some c → mTok t c = true)
  | [], [], _ => by simp [all2]
  | t :: ts, c :: cs, h => by
    rw [all2, Bool.and_eq_true, all2_iff ts cs (by simpa using h)]
    constructor
    · rintro ⟨h1, h2⟩ k u d e1 e2
      cases k with
      | zero =>
        simp at e1 e2
        subst e1 e2
        exact h1
      | succ k => exact h2 k u d (by simpa using e1) (by simpa using e2)
    · intro h1
      exact ⟨h1 0 t c rfl rfl, fun k u d e1 e2 => h1 (k + 1) u d (by simpa using e1) (by simpa using e2)⟩
  | [], _ :: _, h => by simp at h
  | _ :: _, [], h => by simp at h
theorem fit_tok {mid : List PTok} {l : List Nat} {n k : Nat} {t : PTok} {c : Nat} (ht : okB t = true) (h1 : mid[k]? = some t) (h2 : l[n + k]? = some c) : fitAt (mid.map sgn) (tx l) (n : Int) k = mTok t c := by
  unfold fitAt
  rw [List.getD_eq_getElem?_getD, List.getElem?_map, h1, show ((n : Int) + (k : Int)) = ((n + k : Nat) : Int) from rfl, item_tx h2]
  show (sgn t == _ || Txt.contains (sgn t) (tx [c])) = _
  cases t with
  | star => cases ht
  | quest => cases ht
  | ch x =>
    show (tx [x] == _ || Txt.contains (tx [x]) ⟨#[c]⟩) = (c == x)
    unfold Txt.contains
    rw [s_nil, tx_beq, found_one, tx_list, Bool.eq_iff_iff]
    simp
  | br x =>
    show (tx [x, x - 32] == _ || Txt.contains (tx [x, x - 32]) ⟨#[c]⟩) = (c == x || c == x - 32)
    unfold Txt.contains
    rw [s_nil, tx_beq, found_one, tx_list, Bool.eq_iff_iff]
    simp
theorem fits_iff {mid : List PTok} {l : List Nat} {n : Nat} (hm : mid.all okB = true) : fits (mid.map sgn) (tx l) (n : Int) = true ↔ n + mid.length ≤ l.length ∧ all2 mid ((l.drop n).take mid.length) = true := by
  unfold fits
  rw [tx_len, List.length_map]
  by_cases hlen : n + mid.length ≤ l.length
  · rw [if_neg (by lia), List.all_eq_true, all2_iff _ _ (by simp; lia)]
    constructor
    · intro h
      refine ⟨hlen, fun k t c e1 e2 => ?_⟩
      have hk : k < mid.length := (List.getElem?_eq_some_iff.mp e1).1
      have e3 : l[n + k]? = some c := by rw [List.getElem?_take_of_lt hk, List.getElem?_drop] at e2; exact e2
      rw [← fit_tok (List.all_eq_true.mp hm t (List.mem_of_getElem? e1)) e1 e3]
      exact h k (List.mem_range.mpr hk)
    · rintro ⟨_, h⟩ k hk
      have hk := List.mem_range.mp hk
      have hk2 : n + k < l.length := by lia
      have e1 : mid[k]? = some mid[k] := List.getElem?_eq_getElem hk
      have e3 : l[n + k]? = some l[n + k] := List.getElem?_eq_getElem hk2
      rw [fit_tok (List.all_eq_true.mp hm _ (List.mem_of_getElem? e1)) e1 e3]
      exact h k _ _ e1 (by rw [List.getElem?_take_of_lt hk, List.getElem?_drop]; exact e3)
  · rw [if_pos (by lia)]
    constructor
    · intro h; cases h
    · rintro ⟨h, _⟩; exact absurd h hlen
theorem at_tx2 {a b : List Nat} {n : Nat} : PySem.StrLaws.At (tx a) (tx b) (tx a).length n ↔ n + b.length ≤ a.length ∧ (a.drop n).take b.length = b := by
  unfold PySem.StrLaws.At
  rw [subAt_eq, tx_list, tx_list, tx_len, tx_len, beq_iff_eq]
theorem low_g {G : List (List Nat)} (h : Good G) : Txt.lower (tx (glue 46 G)) = tx ((glue 46 G).map lo1) := lower_tx fun c hc => (h.asc c hc).1
theorem fits_at {G D : List (List Nat)} (hG : Good G) (hD : Good D) (n : Nat) : fits ((tokG D).map sgn) (tx (glue 46 G)) (n : Int) = true ↔ PySem.StrLaws.At (Txt.lower (tx (glue 46 G))) (Txt.lower (tx (glue 46 D))) (Txt.lower (tx (glue 46 G))).length n := by
  rw [fits_iff (okB_tokG D hD.lab), low_g hG, low_g hD, at_tx2, tokG_len2, List.length_map, List.length_map, ← List.map_drop, ← List.map_take]
  refine and_congr_right fun hl => ?_
  obtain ⟨pc, hu⟩ := upOk_drop (glue 46 G) 46 n (upOk_glue G hG.lab)
  exact glue_match D hD.lab _ pc (by rw [List.length_take, List.length_drop]; lia) (upOk_take _ _ _ hu)
theorem first_fit {ss : List Str} {t : Str} : ∀ (n : Nat) (p : Int), (t.length : Int) + 1 ≤ p + n → (fits ss t (firstFit ss t n p) = true ↔ ∃ q, p ≤ q ∧ fits ss t q = true)
  | 0, p, h => by
    show fits ss t p = true ↔ _
    constructor
    · exact fun h => ⟨p, by lia, h⟩
    · rintro ⟨q, h1, h2⟩
      unfold fits at h2
      rw [if_pos (by lia)] at h2
      cases h2
  | n + 1, p, h => by
    unfold firstFit
    by_cases hc : p ≤ t.length ∧ fits ss t p = false
    · rw [if_pos hc, first_fit n (p + 1) (by lia)]
      constructor
      · rintro ⟨q, h1, h2⟩; exact ⟨q, by lia, h2⟩
      · rintro ⟨q, h1, h2⟩
        refine ⟨q, ?_, h2⟩
        rcases Int.lt_or_le p q with h3 | h3
        · lia
        · have : q = p := by lia
          rw [this, hc.2] at h2; cases h2
    · rw [if_neg hc]
      constructor
      · exact fun h => ⟨p, by lia, h⟩
      · rintro ⟨q, h1, h2⟩
        by_cases hp : p ≤ t.length
        · cases hf : fits ss t p with
          | true => rfl
          | false => exact absurd ⟨hp, hf⟩ hc
        · unfold fits at h2
          rw [if_pos (by lia)] at h2
          cases h2
theorem fits_nil {t : Str} {p : Int} (h0 : 0 ≤ p) (h1 : p ≤ t.length) : fits [] t p = true := by
  unfold fits
  rw [if_neg (by simp; lia)]
  rfl
theorem fits_le {ss : List Str} {t : Str} {p : Int} (h : fits ss t p = true) : 0 ≤ p ∧ p + ss.length ≤ t.length := by
  unfold fits at h
  split at h
  · cases h
  · lia
theorem k_here1 : (Str.ofString "here" == Str.ofString "end") = false := by decide +kernel
theorem k_here2 : (Str.ofString "here" == Str.ofString "first") = false := by decide +kernel
theorem k_first1 : (Str.ofString "first" == Str.ofString "end") = false := by decide +kernel
theorem takes_here {t : Str} {ss : List Str} {r : List (Str × List Str)} {p : Int} : takesFrom t ((Str.ofString "here", ss) :: r) p = (fits ss t p && takesFrom t r (p + ss.length)) := by
  rw [takesFrom, k_here1, k_here2]
  simp only [Bool.false_eq_true, if_false]
  cases fits ss t p <;> simp
theorem takes_first {t : Str} {ss : List Str} {r : List (Str × List Str)} {p : Int} : takesFrom t ((Str.ofString "first", ss) :: r) p = (fits ss t (firstFit ss t (t.length + 1 - p).toNat p) && takesFrom t r (firstFit ss t (t.length + 1 - p).toNat p + ss.length)) := by
  rw [takesFrom, k_first1]
  simp only [Bool.false_eq_true, if_false, beq_self_eq_true, if_true]
  cases fits ss t (firstFit ss t (t.length + 1 - p).toNat p) <;> simp
theorem takes_end {t : Str} {ss : List Str} {r : List (Str × List Str)} {p : Int} : takesFrom t ((Str.ofString "end", ss) :: r) p = (decide (p ≤ (t.length : Int) - ss.length) && fits ss t ((t.length : Int) - ss.length)) := by
  rw [takesFrom]
  simp
theorem takes_q {mid : List PTok} {t : Str} : takesFrom t (absRows true mid) 0 = true ↔ ∃ n : Nat, 1 ≤ n ∧ fits (mid.map sgn) t (n : Int) = true := by
  rw [show absRows true mid = [(Str.ofString "here", [Str.ofString ""]), (Str.ofString "first", mid.map sgn), (Str.ofString "here", []), (Str.ofString "end", [])] from rfl]
  rw [takes_here, takes_first, takes_here, takes_end]
  have e1 : ∀ p : Int, fits [Str.ofString ""] t 0 = true ↔ 1 ≤ t.length := fun _ => by
    unfold fits
    by_cases h : 1 ≤ t.length
    · rw [if_neg (by simp; lia)]
      simp [h, fitAt, List.range, List.range.loop]
    · rw [if_pos (by simp; lia)]
      simp; lia
  simp only [Bool.and_eq_true, e1 0, List.length_singleton, Int.natCast_one, Int.zero_add]
  rw [first_fit _ _ (by lia)]
  constructor
  · rintro ⟨h1, ⟨q, h2, h3⟩, _⟩
    exact ⟨q.toNat, by lia, by rw [show ((q.toNat : Nat) : Int) = q by lia]; exact h3⟩
  · rintro ⟨n, h1, h2⟩
    have h3 := fits_le h2
    refine ⟨by lia, ⟨n, by lia, h2⟩, ?_⟩
    have h4 : fits (mid.map sgn) t (firstFit (mid.map sgn) t (t.length + 1 - 1 : Int).toNat 1) = true := (first_fit _ _ (by lia)).mpr ⟨n, by lia, h2⟩
    have h5 := fits_le h4
    generalize firstFit (mid.map sgn) t (t.length + 1 - 1 : Int).toNat 1 = f at h5 ⊢
    simp only [List.length_nil, Int.natCast_zero, Int.add_zero, Int.sub_zero, decide_eq_true_eq]
    exact ⟨fits_nil (by lia) (by lia), by lia, fits_nil (by lia) (by lia)⟩
theorem takes_s {mid : List PTok} {t : Str} : takesFrom t (absRows false mid) 0 = true ↔ mid.length ≤ t.length ∧ fits (mid.map sgn) t ((t.length - mid.length : Nat) : Int) = true := by
  rw [show absRows false mid = [(Str.ofString "here", []), (Str.ofString "end", mid.map sgn)] from rfl]
  rw [takes_here, takes_end, fits_nil (by lia) (by lia)]
  simp only [Bool.and_eq_true, true_and, List.length_nil, Int.natCast_zero, Int.add_zero, decide_eq_true_eq, List.length_map]
  constructor
  · rintro ⟨h1, h2⟩
    exact ⟨by lia, by rw [show ((t.length - mid.length : Nat) : Int) = (t.length : Int) - mid.length by lia]; exact h2⟩
  · rintro ⟨h1, h2⟩
    exact ⟨by lia, by rw [show (t.length : Int) - mid.length = ((t.length - mid.length : Nat) : Int) by lia]; exact h2⟩
theorem starts_eq {l : List Nat} {c : Nat} : Txt.startswith (tx l) (tx [c]) = (l.take 1 == [c]) := by
  unfold Txt.startswith
  rw [subAt_eq, tx_list, tx_list, tx_len, tx_len]
  cases l <;> simp
theorem starts_low {G : List (List Nat)} (h : Good G) : Txt.startswith (Txt.lower (tx (glue 46 G))) (Str.ofString ".") = dotted (tx (glue 46 G)) := by
  unfold dotted
  rw [show (1 : Int) = ((1 : Nat) : Int) from rfl, slice_to, s_dot', tx_beq, low_g h, starts_eq, ← List.map_take, Bool.eq_iff_iff, beq_iff_eq, beq_iff_eq]
  cases (glue 46 G) with
  | nil => simp
  | cons x r => simp [lo_dot46]
noncomputable def sameB (h d : Str) : Bool := Txt.lower h == Txt.lower d
noncomputable def namesB (h d : Str) : Bool := lawIsName h && dotted d && lawIsName (Txt.slice d (some 1) none)
noncomputable def plainB (h d : Str) : Bool := !lawFig h && !lawFig d
theorem hdn_low {G : List (List Nat)} (h : Good G) : isHDN (Txt.lower (tx (glue 46 G))) = lawIsName (tx (glue 46 G)) := by
  rw [h.low, h.dlLow.hdn, name_low, h.dl.name]
theorem ip4_low {G : List (List Nat)} (h : Good G) : libHDN (Txt.lower (tx (glue 46 G))) = !lawFig (tx (glue 46 G)) := by
  unfold libHDN
  rw [h.low, h.dlLow.ip4, fig_low, h.dl.fig]
theorem Good.tail {r : List (List Nat)} (h : Good ([] :: r)) (h0 : r ≠ []) : Good r := ⟨h0, by have := h.hi; simp at this; lia, fun a ha => h.lab a (.tail _ ha)⟩
theorem slice_dot {r : List (List Nat)} (h0 : r ≠ []) : Txt.slice (tx (glue 46 ([] :: r))) (some 1) none = tx (glue 46 r) := by
  rw [glue_cons h0, show (1 : Int) = ((1 : Nat) : Int) from rfl, slice_from]
  rfl
theorem slice_low {r : List (List Nat)} (h : Good ([] :: r)) (h0 : r ≠ []) : Txt.slice (Txt.lower (tx (glue 46 ([] :: r)))) (some 1) none = Txt.lower (tx (glue 46 r)) := by
  rw [low_g h, low_g (h.tail h0), glue_cons h0, show (1 : Int) = ((1 : Nat) : Int) from rfl, slice_from]
  rfl
theorem rfind_iff {x y : Str} : (!(Txt.rfind x y == -1) && !(Txt.rfind x y == 0)) = true ↔ ∃ n : Nat, 1 ≤ n ∧ PySem.StrLaws.At x y x.length n := by
  rw [Bool.and_eq_true]
  rcases rfind_whole x y with ⟨e, hn⟩ | ⟨i, e, hi, hn⟩
  · rw [e]
    constructor
    · intro h; exact absurd h.1 (by decide)
    · rintro ⟨n, _, h⟩; exact absurd h (hn n)
  · rw [e]
    constructor
    · rintro ⟨_, h⟩
      refine ⟨i, ?_, hi⟩
      have : (i : Int) ≠ 0 := by simpa using h
      lia
    · rintro ⟨n, h1, h⟩
      have h2 : n ≤ i := by
        rcases Nat.lt_or_ge i n with h3 | h3
        · exact absurd h (hn n h3)
        · exact h3
      have e1 : (i : Int) ≠ -1 := by lia
      have e2 : (i : Int) ≠ 0 := by lia
      exact ⟨by simp, by simp; lia⟩
theorem dom_match {h d : Str} (hh : Host h) (hd : Dom d) : domMatch h d = (sameB h d || (namesB h d && takesFrom h (absRows true (tokD d)) 0)) := by
  obtain ⟨G, hG, _, rfl⟩ := hh
  obtain ⟨D, hD, rfl⟩ := hd
  unfold domMatch namesB sameB
  rw [hdn_low hG, starts_low hD, tokD_tx hD]
  congr 1
  cases hdt : dotted (tx (glue 46 D)) with
  | false => simp
  | true =>
    obtain ⟨r, h0, rfl⟩ := (dotted_tx hD.dl).mp hdt
    rw [slice_low hD h0, slice_dot h0, hdn_low (hD.tail h0)]
    have e : (!(Txt.rfind (Txt.lower (tx (glue 46 G))) (Txt.lower (tx (glue 46 ([] :: r)))) == -1) && !(Txt.rfind (Txt.lower (tx (glue 46 G))) (Txt.lower (tx (glue 46 ([] :: r)))) == 0)) = takesFrom (tx (glue 46 G)) (absRows true (tokG ([] :: r))) 0 := by
      rw [Bool.eq_iff_iff, rfind_iff, takes_q]
      exact exists_congr fun n => and_congr_right fun _ => (fits_at hG hD n).symm
    rw [← e]
    generalize lawIsName (tx (glue 46 G)) = b1
    generalize (!(Txt.rfind (Txt.lower (tx (glue 46 G))) (Txt.lower (tx (glue 46 ([] :: r)))) == -1)) = b2
    generalize (!(Txt.rfind (Txt.lower (tx (glue 46 G))) (Txt.lower (tx (glue 46 ([] :: r)))) == 0)) = b3
    generalize lawIsName (tx (glue 46 r)) = b4
    cases b1 <;> cases b2 <;> cases b3 <;> cases b4 <;> rfl
theorem ends_iff {x y : Str} : Txt.endswith x y = true ↔ y.length ≤ x.length ∧ PySem.StrLaws.At x y x.length (x.length - y.length) := by
  unfold Txt.endswith PySem.StrLaws.At
  rw [Bool.and_eq_true, decide_eq_true_eq]
  constructor
  · rintro ⟨h1, h2⟩; exact ⟨by lia, by lia, h2⟩
  · rintro ⟨h1, _, h2⟩; exact ⟨by lia, h2⟩
theorem ends_takes {G D : List (List Nat)} (hG : Good G) (hD : Good D) : Txt.endswith (Txt.lower (tx (glue 46 G))) (Txt.lower (tx (glue 46 D))) = takesFrom (tx (glue 46 G)) (absRows false (tokG D)) 0 := by
  rw [Bool.eq_iff_iff, ends_iff, takes_s, fits_at hG hD, low_g hG, low_g hD, tx_len, tx_len, tx_len, List.length_map, List.length_map, tokG_len2]
theorem same_ends {x y : Str} (h : x = y) : Txt.endswith x y = true := by
  subst h
  rw [ends_iff]
  refine ⟨Nat.le_refl _, by lia, ?_⟩
  rw [subAt_eq, Nat.sub_self, List.drop_zero, beq_iff_eq]
  exact List.take_of_length_le (by rw [Array.length_toList]; exact Nat.le_refl _)
theorem usr_match {h d : Str} (hh : Host h) (hd : Dom d) : usrMatch h d = (sameB h d || (dotted d && plainB h d && takesFrom h (absRows false (tokD d)) 0)) := by
  obtain ⟨G, hG, _, rfl⟩ := hh
  obtain ⟨D, hD, rfl⟩ := hd
  unfold usrMatch plainB sameB
  rw [ip4_low hG, ip4_low hD, starts_low hD, tokD_tx hD, ← ends_takes hG hD]
  have hs : (Txt.lower (tx (glue 46 G)) == Txt.lower (tx (glue 46 D))) = true → Txt.endswith (Txt.lower (tx (glue 46 G))) (Txt.lower (tx (glue 46 D))) = true := fun h => same_ends (beq_iff_eq.mp h)
  generalize (Txt.lower (tx (glue 46 G)) == Txt.lower (tx (glue 46 D))) = b1 at hs ⊢
  generalize Txt.endswith (Txt.lower (tx (glue 46 G))) (Txt.lower (tx (glue 46 D))) = b2 at hs ⊢
  generalize (!lawFig (tx (glue 46 G))) = b3
  generalize (!lawFig (tx (glue 46 D))) = b4
  generalize dotted (tx (glue 46 D)) = b5
  revert hs
  revert b1 b2 b3 b4 b5
  decide
theorem comps_path {ns : List (List Nat)} (h : Cl ns) : compsF (tx (47 :: glue 47 ns)) = ns.map tx := by
  have e : ∃ ls : List (List Nat), 47 :: glue 47 ns = glue 47 ([] :: ls) ∧ ls ≠ [] ∧ (∀ a ∈ ls, 47 ∉ a) ∧ ls.filter (fun a => !(a == [])) = ns ∧ ∀ a ∈ ls, a = [] ∨ a ∈ ns := by
    by_cases h0 : ns = []
    · subst h0
      exact ⟨[[]], rfl, by simp, by simp, rfl, by simp⟩
    · refine ⟨ns, (by rw [glue_cons h0]; rfl), h0, h.sl, List.filter_eq_self.mpr fun a ha => ?_, fun a ha => .inr ha⟩
      have := h.ne a ha
      simpa using this
  obtain ⟨ls, e1, h1, h2, h3, h4⟩ := e
  unfold compsF
  rw [e1, s_sl, split_tx (by simp) (fun a ha => by
    rcases List.mem_cons.mp ha with rfl | ha
    · simp
    · exact h2 a ha), List.filter_map, ← h3]
  congr 1
  rw [List.filter_cons]
  have e2 : (fcC ∘ tx) [] = false := by decide +kernel
  rw [e2]
  simp only [Bool.false_eq_true, if_false]
  refine List.filter_congr fun a ha => ?_
  show (!(tx a == Str.ofString "") && !(tx a == Str.ofString ".")) = _
  rw [s_nil, s_dot', tx_beq, tx_beq]
  rcases h4 a ha with rfl | hn
  · rfl
  · have : (a == [46]) = false := by
      rw [beq_eq_false_iff_ne]
      exact fun e => h.dt a hn (by rw [e]; simp)
    rw [this]; simp
theorem shared_eq {h d : Str} (hh : Dom h) (hd : Dom d) : lawShared (compsF (lawPath h)) (compsF (lawPath d)) = lawShared (lawNames h) (lawNames d) := by
  obtain ⟨G, hG, rfl⟩ := hh
  obtain ⟨D, hD, rfl⟩ := hd
  rw [hG.path, hD.path, hG.names, hD.names, comps_path hG.namesCl, comps_path hD.namesCl]
theorem cut46 : ∀ X : List Nat, ∃ K : List (List Nat), K ≠ [] ∧ X = glue 46 K ∧ ∀ a ∈ K, 46 ∉ a
  | [] => ⟨[[]], by simp, rfl, by simp⟩
  | c :: X => by
    obtain ⟨K, h0, e, h⟩ := cut46 X
    by_cases hc : c = 46
    · subst hc
      refine ⟨[] :: K, by simp, by rw [glue_cons h0, e]; rfl, fun a ha => ?_⟩
      rcases List.mem_cons.mp ha with rfl | ha
      · simp
      · exact h a ha
    · cases K with
      | nil => exact absurd rfl h0
      | cons a r =>
        refine ⟨(c :: a) :: r, by simp, ?_, fun b hb => ?_⟩
        · rw [e]
          cases r <;> rfl
        · rcases List.mem_cons.mp hb with rfl | hb
          · intro hm
            rcases List.mem_cons.mp hm with e | hm
            · exact hc e.symm
            · exact h a (.head _) hm
          · exact h b (.tail _ hb)
theorem glue_app {c : Nat} : ∀ {K r : List (List Nat)}, K ≠ [] → r ≠ [] → glue c (K ++ r) = glue c K ++ c :: glue c r
  | [], _, h, _ => absurd rfl h
  | [a], r, _, h => glue_cons h
  | a :: b :: K, r, _, h => by
    show a ++ c :: glue c ((b :: K) ++ r) = (a ++ c :: glue c (b :: K)) ++ c :: glue c r
    rw [glue_app (by simp) h]
    simp
theorem glue_suffix {A B : List (List Nat)} (hA : A ≠ []) (hB : B ≠ []) (dA : ∀ a ∈ A, 46 ∉ a) (dB : ∀ a ∈ B, 46 ∉ a) : (∃ X, glue 46 A = X ++ 46 :: glue 46 B) ↔ ∃ K, K ≠ [] ∧ A = K ++ B := by
  constructor
  · rintro ⟨X, e⟩
    obtain ⟨K, h0, rfl, h⟩ := cut46 X
    rw [← glue_app h0 hB] at e
    refine ⟨K, h0, glue_inj hA (by simp [h0]) dA (fun a ha => ?_) e⟩
    rcases List.mem_append.mp ha with ha | ha
    · exact h a ha
    · exact dB a ha
  · rintro ⟨K, h0, rfl⟩
    exact ⟨glue 46 K, glue_app h0 hB⟩
theorem lcp_pre : ∀ (s J : List (List Nat)), lcp ((s ++ J).map tx) (s.map tx) = s.length
  | [], J => by cases J <;> rfl
  | a :: s, J => by
    show lcp (tx a :: (s ++ J).map tx) (tx a :: s.map tx) = s.length + 1
    rw [lcp, if_pos (beq_self_eq_true _), lcp_pre s J]
theorem shared_is {n1 n2 : List (List Nat)} (h1 : Cl n1) (h2 : Cl n2) (h0 : n2 ≠ []) : (lawShared (n1.map tx) (n2.map tx) == tx (47 :: glue 47 n2)) = true ↔ ∃ J, n1 = n2 ++ J := by
  unfold lawShared
  rw [beq_iff_eq, ← List.map_take, s_sl, join_tx, tx_app]
  constructor
  · intro e
    have e2 : glue 47 (n1.take (lcp (n1.map tx) (n2.map tx))) = glue 47 n2 := (List.cons.inj (tx_inj e)).2
    generalize lcp (n1.map tx) (n2.map tx) = k at e2
    by_cases h3 : n1.take k = []
    · rw [h3] at e2
      obtain ⟨l, d, e4, _⟩ := glue_end h2 h0
      rw [e4] at e2
      have e5 : ([] : List Nat) = l ++ [d] := e2
      simp at e5
    · have := glue_inj h3 h0 (fun a ha => h1.sl a (List.mem_of_mem_take ha)) h2.sl e2
      exact ⟨n1.drop k, by rw [← this, List.take_append_drop]⟩
  · rintro ⟨J, rfl⟩
    rw [lcp_pre, List.take_left]
    rfl
theorem path_ne {n1 n2 : List (List Nat)} (h1 : Cl n1) (h2 : Cl n2) (h0 : n1 ≠ []) (h3 : n2 ≠ []) : (tx (47 :: glue 47 n2) != tx (47 :: glue 47 n1)) = true ↔ n2 ≠ n1 := by
  rw [tx_bne, bne_iff_ne]
  refine not_congr ⟨fun e => glue_inj h3 h0 h2.sl h1.sl (List.cons.inj e).2, fun e => by rw [e]⟩
theorem namesL_full {G : List (List Nat)} (h : ∀ a ∈ G, a ≠ []) : namesL G = (lowG G).reverse := by
  unfold namesL
  refine List.filter_eq_self.mpr fun a ha => ?_
  obtain ⟨b, hb, rfl⟩ := List.mem_map.mp (List.mem_reverse.mp ha)
  have := h b hb
  simpa using this
theorem last_eq {h d : Str} (hh : Host h) (hd : Dom d) (h1 : dotted d = true) (h2 : plainB h d = true) (h3 : ∀ a ∈ Txt.split h (Str.ofString ".") ++ Txt.split (Txt.slice d (some 1) none) (Str.ofString "."), a ≠ Str.ofString "") :
    usrMatch h d = (lawShared (lawNames h) (lawNames d) == lawPath d && lawPath d != lawPath h) := by
  rw [usr_match hh hd, h1, h2]
  obtain ⟨G, hG, _, rfl⟩ := hh
  obtain ⟨D, hD, rfl⟩ := hd
  obtain ⟨r, h0, rfl⟩ := (dotted_tx hD.dl).mp h1
  have hr := hD.tail h0
  rw [slice_dot h0, hG.split, hr.split] at h3
  have nG : ∀ a ∈ G, a ≠ [] := fun a ha e => h3 (tx a) (by simp; exact .inl ⟨a, ha, rfl⟩) (by rw [e, s_nil])
  have nr : ∀ a ∈ r, a ≠ [] := fun a ha e => h3 (tx a) (by simp; exact .inr ⟨a, ha, rfl⟩) (by rw [e, s_nil])
  have clG := hG.namesCl
  have clD := hD.namesCl
  rw [hG.names, hD.names, hG.path, hD.path]
  rw [namesL_nil, namesL_full nr] at clD ⊢
  rw [namesL_full nG] at clG ⊢
  have lG : lowG G ≠ [] := hG.dlLow.lo
  have lr : lowG r ≠ [] := hr.dlLow.lo
  rw [tokD_tx hD, ← ends_takes hG hD]
  unfold sameB
  have e0 : ((Txt.lower (tx (glue 46 G)) == Txt.lower (tx (glue 46 ([] :: r)))) || (true && true && Txt.endswith (Txt.lower (tx (glue 46 G))) (Txt.lower (tx (glue 46 ([] :: r)))))) = Txt.endswith (Txt.lower (tx (glue 46 G))) (Txt.lower (tx (glue 46 ([] :: r)))) := by
    cases hs : (Txt.lower (tx (glue 46 G)) == Txt.lower (tx (glue 46 ([] :: r)))) with
    | false => simp
    | true => rw [same_ends (beq_iff_eq.mp hs)]; rfl
  rw [e0, hG.low, hD.low, Bool.eq_iff_iff, ends_iff, at_tx2, Bool.and_eq_true, shared_is clG clD (by simpa using lr), path_ne clG clD (by simpa using lG) (by simpa using lr)]
  have eM : glue 46 (lowG ([] :: r)) = 46 :: glue 46 (lowG r) := by
    show glue 46 ([] :: lowG r) = _
    rw [glue_cons lr]; rfl
  rw [eM, tx_len, tx_len]
  have step1 : ((46 :: glue 46 (lowG r)).length ≤ (glue 46 (lowG G)).length ∧ (glue 46 (lowG G)).length - (46 :: glue 46 (lowG r)).length + (46 :: glue 46 (lowG r)).length ≤ (glue 46 (lowG G)).length ∧ ((glue 46 (lowG G)).drop ((glue 46 (lowG G)).length - (46 :: glue 46 (lowG r)).length)).take (46 :: glue 46 (lowG r)).length = 46 :: glue 46 (lowG r)) ↔ ∃ X, glue 46 (lowG G) = X ++ 46 :: glue 46 (lowG r) := by
    generalize 46 :: glue 46 (lowG r) = M
    generalize glue 46 (lowG G) = L
    constructor
    · rintro ⟨_, _, e⟩
      refine ⟨L.take (L.length - M.length), ?_⟩
      rw [List.take_of_length_le (by rw [List.length_drop]; lia)] at e
      conv => lhs; rw [← List.take_append_drop (L.length - M.length) L, e]
    · rintro ⟨X, rfl⟩
      refine ⟨by rw [List.length_append]; lia, by rw [List.length_append]; lia, ?_⟩
      rw [List.length_append, Nat.add_sub_cancel, List.drop_left, List.take_length]
  rw [step1, glue_suffix lG lr hG.dlLow.dot hr.dlLow.dot]
  constructor
  · rintro ⟨K, hK, e⟩
    refine ⟨⟨K.reverse, by rw [e, List.reverse_append]⟩, fun e2 => hK ?_⟩
    have e3 := congrArg List.length e2
    rw [List.length_reverse, List.length_reverse, e, List.length_append] at e3
    exact List.eq_nil_of_length_eq_zero (by lia)
  · rintro ⟨⟨J, e⟩, hne⟩
    have e2 : lowG G = J.reverse ++ lowG r := by
      have := congrArg List.reverse e
      rw [List.reverse_append, List.reverse_reverse, List.reverse_reverse] at this
      exact this
    refine ⟨J.reverse, fun hJ => hne ?_, e2⟩
    rw [e2, hJ]; rfl
end
section
open PySem PySem.W PySem.Calls PyProof.Rows
theorem mro_map : mroOf (.type "map") = pure [.type "map", .type "object"] := by rw [mroOf_type]; kernel_rfl
theorem lookup_map_new : typeLookup (.type "map") "__new__" = pure (some (.builtin "map.__new__")) := by rw [typeLookup_type, builtinLookup_eq_fast]; kernel_rfl
theorem slot_map_init : Slot "map" "__init__" "object.__init__" :=
  .of (owner := "object") (n := "__init__") (by rw [typeLookup_type, builtinLookup_eq_fast]; kernel_rfl) (by decide +kernel) (by decide +kernel) (by decide +kernel)
    (by first | exact .inl (by decide +kernel) | exact .inr (by decide +kernel)) (by rw [isSubtype_type]; kernel_rfl)
theorem called_map : TypeCalled "map" "map.__new__" "object.__init__" :=
  ⟨by decide +kernel, by decide +kernel, ⟨_, _, mro_map⟩, madeBy_type mro_map lookup_map_new (by decide +kernel), by decide +kernel, by rw [isSubtype_type]; kernel_rfl, slot_map_init⟩
theorem typeCall_map (a b : Value) : checkTypeCall "map" ⟨[a, b], []⟩ = pure () := by kernel_rfl
theorem newCall_map (a b : Value) : checkBuiltinCall "map.__new__" ⟨[.type "map", a, b], []⟩ = pure () := by kernel_rfl
theorem entry_map_new : entryFor table "map.__new__" = some Builtin.«map.__new__» := entryFor_of_tree (by kernel_rfl)
theorem slot_map_next : Slot "map" "__next__" "map.__next__" :=
  .of (owner := "map") (n := "__next__") (by rw [typeLookup_type, builtinLookup_eq_fast]; kernel_rfl) (by decide +kernel) (by decide +kernel) (by decide +kernel)
    (by first | exact .inl (by decide +kernel) | exact .inr (by decide +kernel)) (by rw [isSubtype_type]; kernel_rfl)
theorem entry_map_next : entryFor table "map.__next__" = some Builtin.«map.__next__» := entryFor_of_tree (by kernel_rfl)
theorem args_map_next (a : Value) : argsOk "map.__next__" ⟨[a], []⟩ := by unfold argsOk; kernel_rfl
theorem slot_map_iter : Slot "map" "__iter__" "map.__iter__" := .of (owner := "map") (n := "__iter__") (by rw [typeLookup_type, builtinLookup_eq_fast]; kernel_rfl) (by decide +kernel) (by decide +kernel) (by decide +kernel)
    (by first | exact .inl (by decide +kernel) | exact .inr (by decide +kernel)) (by rw [isSubtype_type]; kernel_rfl)
theorem entry_map_iter : entryFor table "map.__iter__" = some Builtin.«dict_keyiterator.__iter__» :=
  entryFor_alias (id' := "dict_keyiterator.__iter__") (by kernel_rfl) (by first | rfl | decide +kernel) (by decide +kernel) (by kernel_rfl)
theorem args_map_iter (a : Value) : argsOk "map.__iter__" ⟨[a], []⟩ := by unfold argsOk; kernel_rfl
theorem sub_map_map : isSubtype (.type "map") (.type "map") = pure true := by rw [isSubtype_type]; kernel_rfl
theorem map_no_len : typeLookup (.type "map") "__len__" = pure none := by rw [typeLookup_type, builtinLookup_eq_fast]; kernel_rfl
theorem map_no_hint : typeLookup (.type "map") "__length_hint__" = pure none := by rw [typeLookup_type, builtinLookup_eq_fast]; kernel_rfl
noncomputable abbrev mapObj (f T : Addr) : Obj := { cls := .type "map", data := .fields #[.ref T, .ref f] }
noncomputable abbrev tup1 (it : Addr) : Obj := { cls := .type "tuple", data := .seq #[.ref it] }
theorem meets_map_new (f l : Addr) (items : Array Value) :
    Meets (Builtin.«map.__new__» ⟨[.type "map", .ref f, .ref l], []⟩) (fun _ R s => s.heap.IsList l items ∧
      R (.ok (.ret (.ref (s.heap.objs.size + 2)))) { s with heap := ((s.heap.push { cls := .type "list_iterator", data := .fields #[.ref l, .int 0 0] }).push (tup1 s.heap.objs.size)).push (mapObj f (s.heap.objs.size + 1)) }) :=
  .of_wp fun prog w A R s h => by
    obtain ⟨hp, g, d, tk, os⟩ := s; obtain ⟨hl, h⟩ := h
    have hsub := sub_map_map
    have hL : Heap.IsList (Shared.heap ⟨hp, g, d, tk, os⟩) l items := hl
    wp_walk using wpAny_pyIter_list hL
    refine ⟨_, rfl, ?_⟩
    dsimp only at h ⊢
    simp only [Heap.size_push] at h ⊢
    exact h
section
variable {prog : Program} {w : World} {A : Around} {E : Value → Shared → Prop} {s : Shared}
theorem call_map {f l : Addr} {items : Array Value} {Q : Value → Shared → Prop} (hl : s.heap.IsList l items)
    (h : Q (.ref (s.heap.objs.size + 2)) { s with heap := ((s.heap.push { cls := .type "list_iterator", data := .fields #[.ref l, .int 0 0] }).push (tup1 s.heap.objs.size)).push (mapObj f (s.heap.objs.size + 1)) }) :
    wpAny (model prog w) A (call (.type "map") [.ref f, .ref l]) Q E s := by
  refine callType_new called_map (by decide +kernel) (typeCall_map _ _) (newCall_map _ _) (fun obj => PySem.F.args_object_init_3 obj _ _) entry_map_new (meets_map_new f l items) ⟨hl, ?_⟩
  refine ⟨⟨mapObj f (s.heap.objs.size + 1), ?_, rfl⟩, h⟩
  have := Heap.get?_push_size ((s.heap.push ({ cls := .type "list_iterator", data := .fields #[.ref l, .int 0 0] } : Obj)).push (tup1 s.heap.objs.size)) (o := mapObj f (s.heap.objs.size + 1)) rfl
  simpa [Heap.size_push] using this
theorem map_next_item {I T f it l : Addr} {i : Nat} {items : Array Value} {a : Str} {u : Tok} {Q : Option Value → Shared → Prop} (hne : I ≠ it) (hI : s.heap.get? I = some (mapObj f T)) (hT : s.heap.get? T = some (tup1 it)) (hit : s.heap.IsListIter it l i) (hl : s.heap.IsList l items) (hx : items[i]? = some (.str a u))
    (hcall : ∀ h', h'.IsListIter it l (i + 1) → Heap.SameBut it s.heap h' → ∀ E', wpAny (model prog w) A.in1 (call (.ref f) [.str a u]) (fun v s' => ∃ b t, v = .str b t ∧ Q (some v) s') E' { s with heap := h' }) :
    wpAny (model prog w) A (pyNext (.ref I)) Q E s := by
  have hTy : s.TypeIs (.ref I) "map" := ⟨_, hI, rfl⟩
  unfold pyNext
  refine wpAny_bind (wpAny_attempt (wpAny_callSpecial?_slot (name := Str.ofString "__next__") hTy slot_map_next
    (wpAny_call_entry slot_map_next hTy entry_map_next ?_ (args_map_next _))))
  unfold Builtin.«map.__next__»
  repeat (any_goals (first | assumption | ((with_reducible show wpAny _ _ (Builtin.SmallTypes.nextOf _) _ _ _); refine Stop.out ?_) | wp_step))
  unfold Stop
  refine wpAny_nextOf_list_item hit hl hx fun h' hit' hs' => ?_
  have hI2 : h'.get? I = some (mapObj f T) := (hs'.2 I hne).trans hI
  repeat (any_goals (first | assumption | ((with_reducible show wpAny _ _ (call _ _) _ _ _); refine Stop.out ?_) | wp_step))
  unfold Stop
  refine wpAny_mono (hcall h' hit' hs' _) (fun v s' hv => ?_) fun _ _ e => e
  obtain ⟨b, t, rfl, hq⟩ := hv
  repeat (any_goals (first | assumption | wp_step))
  exact ⟨_, rfl, wpAny_pure hq⟩
theorem sub_stop : isSubtype (.type "StopIteration") (.type "StopIteration") = pure true := by rw [isSubtype_type]; kernel_rfl
theorem map_next_end {I T f it l : Addr} {i : Nat} {items : Array Value} {Q : Option Value → Shared → Prop} (hh : A.handled = none) (hI : s.heap.get? I = some (mapObj f T)) (hT : s.heap.get? T = some (tup1 it)) (hit : s.heap.IsListIter it l i) (hl : s.heap.IsList l items) (hx : items[i]? = none)
    (hq : ∀ h', Heap.ExtBut it s.heap h' → Q none { s with heap := h' }) :
    wpAny (model prog w) A (pyNext (.ref I)) Q E s := by
  have hTy : s.TypeIs (.ref I) "map" := ⟨_, hI, rfl⟩
  have f1 := sub_stop
  unfold pyNext
  refine wpAny_bind (wpAny_attempt (wpAny_callSpecial?_slot (name := Str.ofString "__next__") hTy slot_map_next
    (wpAny_call_entry slot_map_next hTy entry_map_next ?_ (args_map_next _))))
  unfold Builtin.«map.__next__»
  repeat (any_goals (first | assumption | ((with_reducible show wpAny _ _ (Builtin.SmallTypes.nextOf _) _ _ _); refine Stop.out ?_) | wp_step))
  unfold Stop
  refine wpAny_nextOf_list_end hh hit hl hx fun h' e hx' he => ?_
  obtain ⟨o, ho, hoc⟩ := he
  have hTe : Shared.TypeIs { s with heap := h' } (.ref e) "StopIteration" := ⟨o, ho, hoc⟩
  repeat (any_goals (first | assumption | wp_step))
  exact hq h' hx'
theorem ext_step {S I : Addr} {res : Value} {R : Result → Shared → Prop}
    (h : wpAny (model prog w) A.in1 (pyNext (.ref I)) (fun r s₁ => match r with
      | none => R (.ok (.ret res)) s₁
      | some v => ∃ acc c, s₁.heap.get? S = some { cls := .type "list", data := .seq acc c } ∧ acc.size ≤ 1000 ∧ codeAny (model prog w) A (.builtin "list.extend.loop" ⟨[.ref S, .ref I, res], []⟩) R { s₁ with heap := s₁.heap.update S (Obj.mapSeq (·.push v)) }) (fun e s' => R (.error e) s') s) :
    codeAny (model prog w) A (.builtin "list.extend.loop" ⟨[.ref S, .ref I, res], []⟩) R s := by
  refine codeAny_builtin PySem.F.entry_extend_loop ?_
  rw [Around.under_plainId PySem.F.plain_extend_loop _]
  show wpAny _ A.in1 (pyNext (.ref I) >>= _) _ _ s
  refine wpAny_bind (wpAny_mono h (fun r s₁ h₁ => ?_) fun _ _ e => e)
  cases r with
  | none => exact wpAny_pure h₁
  | some v =>
    obtain ⟨acc, c, hS, hsz, hc⟩ := h₁
    show wpAny _ A.in1 (updateSeq S (·.push v) >>= _) _ _ _
    refine wpAny_bind ?_
    refine wpAny_updateSeq hS rfl (wpAny_pure ⟨plainId_quiet PySem.F.plain_extend_loop _, hc⟩) (by rw [sizeLine_eq]; lia) (by show (acc.push v).size ≤ sizeLine + 1; rw [Array.size_push, sizeLine_eq]; lia)
structure MNe (h₀ : Heap) (I T it l S : Addr) : Prop where
  Iit : I ≠ it
  Tit : T ≠ it
  lit : l ≠ it
  IS : I ≠ S
  TS : T ≠ S
  itS : it ≠ S
  lS : l ≠ S
  nit : h₀.get? it = none
  nS : h₀.get? S = none
structure MSt (h₀ h : Heap) (I T f it l S : Addr) (xs : List (Str × Tok)) (i c : Nat) : Prop where
  base : h₀.StaysIn h
  mI : h.get? I = some (mapObj f T)
  mT : h.get? T = some (tup1 it)
  hit : h.IsListIter it l i
  hl : h.IsList l (strValues xs).toArray
  hS : h.get? S = some { cls := .type "list", data := .seq (strValues (xs.take i)).toArray c }
noncomputable def CallsId (prog : Program) (w : World) (A₀ : Around) (h₀ : Heap) (f : Addr) : Prop :=
  ∀ (s₁ : Shared) (x : Str) (u : Tok) (Q' E' : Value → Shared → Prop), h₀.StaysIn s₁.heap → (∀ h' tk', s₁.heap.StaysIn h' → Q' (.str x u) { s₁ with heap := h', toks := tk' }) → wpAny (model prog w) A₀ (call (.ref f) [.str x u]) Q' E' s₁
theorem loop_map {h₀ : Heap} {I T f it l S : Addr} {xs : List (Str × Tok)} {res : Value} {R : Result → Shared → Prop} (hh : A.handled = none) (D : MNe h₀ I T it l S) (hc : CallsId prog w A.in1.in1 h₀ f) (hx : xs.length ≤ 100) :
    ∀ (k i c : Nat) (s : Shared), i + k = xs.length → MSt h₀ s.heap I T f it l S xs i c →
    (∀ h' tk' c', (∀ b o, b ≠ it → b ≠ S → s.heap.get? b = some o → h'.get? b = some o) → h'.get? S = some { cls := .type "list", data := .seq (strValues xs).toArray c' } → R (.ok (.ret res)) { s with heap := h', toks := tk' }) →
    codeAny (model prog w) A (.builtin "list.extend.loop" ⟨[.ref S, .ref I, res], []⟩) R s
  | 0, i, c, s, hk, M, hR => by
    refine ext_step (map_next_end hh M.mI M.mT M.hit M.hl (by simp [strValues]; lia) fun h' hx' => ?_)
    refine hR h' s.toks c (fun b o h1 _ e => hx' b o h1 e) ?_
    have := hx' S _ D.itS.symm M.hS
    rwa [List.take_of_length_le (by lia)] at this
  | k + 1, i, c, s, hk, M, hR => by
    have hi : i < xs.length := by lia
    have hxi : (strValues xs).toArray[i]? = some (.str xs[i].1 xs[i].2) := by simp [strValues, hi]
    refine ext_step (map_next_item D.Iit M.mI M.mT M.hit M.hl hxi fun h' hit' hs' E' => ?_)
    have b1 : h₀.StaysIn h' := fun b o e => (hs'.2 b (fun q => by rw [q, D.nit] at e; cases e)).trans (M.base b o e)
    refine hc _ _ _ _ _ b1 fun h2 tk2 st2 => ⟨_, _, rfl, ?_⟩
    have hS2 : h2.get? S = some { cls := .type "list", data := .seq (strValues (xs.take i)).toArray c } := st2 _ _ ((hs'.2 S D.itS.symm).trans M.hS)
    refine ⟨_, _, hS2, by simp [strValues]; lia, ?_⟩
    have oth : ∀ b o, b ≠ S → h2.get? b = some o → (h2.update S (Obj.mapSeq (·.push (.str xs[i].1 xs[i].2)))).get? b = some o := fun b o hb e => (Heap.get?_update_other _ _ (Ne.symm hb)).trans e
    have e1 : (strValues (xs.take (i + 1))).toArray = (strValues (xs.take i)).toArray.push (.str xs[i].1 xs[i].2) := by
      rw [strValues_push, List.take_add_one, List.getElem?_eq_getElem hi]; rfl
    refine loop_map hh D hc hx k (i + 1) (c + 1) _ (by lia) ⟨?_, ?_, ?_, ?_, ?_, ?_⟩ fun h3 tk3 c3 h4 h5 => ?_
    · exact fun b o e => oth b o (fun q => by rw [q, D.nS] at e; cases e) (st2 _ _ (b1 b o e))
    · exact oth _ _ D.IS (st2 _ _ ((hs'.2 I D.Iit).trans M.mI))
    · exact oth _ _ D.TS (st2 _ _ ((hs'.2 T D.Tit).trans M.mT))
    · exact (hit'.at fun o e => st2 _ _ e).at fun o e => oth _ _ D.itS e
    · exact M.hl.at fun o e => oth _ _ D.lS (st2 _ _ ((hs'.2 l D.lit).trans e))
    · rw [e1]
      have q4 : ({ cls := .type "list", data := .seq (strValues (xs.take i)).toArray c } : Obj) = listOf (strValues (xs.take i)).toArray c := rfl
      rw [q4] at hS2
      dsimp only
      rw [Heap.get?_update_self _ hS2 (by rw [mapSeq_push]; rfl), mapSeq_push]
    · exact hR h3 tk3 c3 (fun b o h6 h7 e => h4 b o h6 h7 (oth b o h7 (st2 _ _ ((hs'.2 b h6).trans e)))) h5
theorem map_iter {I T f : Addr} {Q : Value → Shared → Prop} (hI : s.heap.get? I = some (mapObj f T)) (h : Q (.ref I) s) : wpAny (model prog w) A (pyIter (.ref I)) Q E s := by
  have hTy : s.TypeIs (.ref I) "map" := ⟨_, hI, rfl⟩
  refine wpAny_pyIter_slot hTy slot_map_iter (wpAny_call_entry slot_map_iter hTy entry_map_iter ?_ (args_map_iter _))
  show wpAny _ _ (ret (.ref I)) _ _ s
  exact wpAny_pure ⟨_, rfl, "map", _, hTy, slot_map_next.lookup, h⟩
theorem collect_map {h₀ : Heap} {I T f it l : Addr} {xs : List (Str × Tok)} {Q : List Value → Shared → Prop} (hh : A.handled = none) (D : MNe h₀ I T it l s.heap.objs.size) (hc : CallsId prog w A.in1.in1 h₀ f) (hx : xs.length ≤ 100)
    (b0 : h₀.StaysIn s.heap) (mI : s.heap.get? I = some (mapObj f T)) (mT : s.heap.get? T = some (tup1 it)) (hit : s.heap.IsListIter it l 0) (hl : s.heap.IsList l (strValues xs).toArray)
    (hQ : ∀ h' tk', (∀ b o, b ≠ it → s.heap.get? b = some o → h'.get? b = some o) → Q (strValues xs) { s with heap := h', toks := tk' }) :
    wpAny (model prog w) A (collect (.ref I)) Q E s := by
  have D0 := D
  have hSI : s.heap.objs.size ≠ I := D0.IS.symm
  unfold collect
  refine wpAny_bind (wpAny_runValue (codeAny_builtin PySem.F.entry_proto_collect ?_))
  rw [Around.under_plainId PySem.F.plain_proto_collect _]
  show wpAny _ A.in1 (newList [] >>= fun l => again (.builtin "list.__iadd__" ⟨[l, .ref I], []⟩)) _ _ s
  refine wpAny_bind (wpAny_newObj_type ?_)
  refine wpAny_pure ⟨plainId_quiet PySem.F.plain_list_iadd _, codeAny_builtin PySem.F.entry_list_iadd ?_⟩
  rw [Around.under_plainId PySem.F.plain_list_iadd _]
  have up : ∀ b o, s.heap.get? b = some o → (s.heap.push ({ cls := .type "list", data := .seq ([] : List Value).toArray } : Obj)).get? b = some o := fun b o e => Heap.get?_push_of_some _ e
  have hS₁ : (s.heap.push ({ cls := .type "list", data := .seq ([] : List Value).toArray } : Obj)).get? s.heap.objs.size = some { cls := .type "list", data := .seq ([] : List Value).toArray } := Heap.get?_push_size _ rfl
  have hTy : Shared.TypeIs { s with heap := s.heap.push ({ cls := .type "list", data := .seq ([] : List Value).toArray } : Obj) } (.ref I) "map" := ⟨_, up _ _ mI, rfl⟩
  show wpAny _ A.in1 (Builtin.List.listExtendWith (.ref s.heap.objs.size) (.ref I) (.ref s.heap.objs.size)) _ _ _
  unfold Builtin.List.listExtendWith
  refine wpAny_bind (wpAny_typeOf hTy ?_)
  have h1 : Builtin.List.listSameRef (.ref s.heap.objs.size) (.ref I) = false := by simp [Builtin.List.listSameRef, hSI]
  have h2 : (Value.type "map" == Value.type "list") = false := by decide
  have h3 : (Value.type "map" == Value.type "tuple") = false := by decide
  simp only [h1, h2, h3, Bool.or_false, Bool.false_eq_true, if_false]
  refine wpAny_bind (map_iter (up _ _ mI) ?_)
  refine wpAny_bind (wpAny_holding ?_)
  unfold Builtin.List.listLengthHint
  refine wpAny_bind (wpAny_specialOf hTy map_no_len ?_)
  show wpAny _ A.in1 (specialOf (Value.ref I) (Str.ofString "__length_hint__") >>= _) _ _ _
  refine wpAny_bind (wpAny_specialOf hTy map_no_hint ?_)
  refine wpAny_pure ?_
  show wpAny _ A.in1 (rule "list.extend.makes-room" >>= fun _ => Builtin.List.listTouch (.ref s.heap.objs.size) >>= fun _ =>
    again (.builtin "list.extend.loop" ⟨[.ref s.heap.objs.size, .ref I, .ref s.heap.objs.size], []⟩)) _ _ _
  refine wpAny_bind (wpAny_rule ?_)
  refine wpAny_bind ?_
  show wpAny _ A.in1 (updateSeq s.heap.objs.size (·.push .none) >>= fun _ => updateSeq s.heap.objs.size (·.pop)) _ _ _
  refine wpAny_bind (wpAny_updateSeq hS₁ rfl ?_)
  have hS₂ := Heap.get?_update_self (Obj.mapSeq (·.push Value.none)) hS₁ rfl
  refine wpAny_updateSeq hS₂ rfl ?_
  have hS₃ := Heap.get?_update_self (Obj.mapSeq (·.pop)) hS₂ rfl
  have oth : ∀ b o, b ≠ s.heap.objs.size → s.heap.get? b = some o →
      (((s.heap.push ({ cls := .type "list", data := .seq ([] : List Value).toArray } : Obj)).update s.heap.objs.size (Obj.mapSeq (·.push Value.none))).update s.heap.objs.size (Obj.mapSeq (·.pop))).get? b = some o :=
    fun b o hb e => (Heap.get?_update_other _ _ (Ne.symm hb)).trans ((Heap.get?_update_other _ _ (Ne.symm hb)).trans (up b o e))
  have ne : ∀ {b o}, s.heap.get? b = some o → b ≠ s.heap.objs.size := fun e => Nat.ne_of_lt (Heap.lt_size e)
  refine wpAny_pure ⟨plainId_quiet PySem.F.plain_extend_loop _, loop_map hh D0 hc hx xs.length 0 _ _ (by lia) ⟨?_, ?_, ?_, ?_, ?_, hS₃⟩ fun h' tk' c' k' hS' => ?_⟩
  · exact fun b o e => oth b o (ne (b0 b o e)) (b0 b o e)
  · exact oth _ _ (ne mI) mI
  · exact oth _ _ (ne mT) mT
  · exact hit.at fun o e => oth _ _ (ne e) e
  · exact hl.at fun o e => oth _ _ (ne e) e
  · show wpAny _ A (load s.heap.objs.size >>= _) _ _ _
    refine wpAny_bind (wpAny_load hS' ?_)
    exact wpAny_pure (hQ h' tk' fun b o hb e => k' b o hb (ne e) (oth b o (ne e) e))
theorem call_tuple_map {h₀ : Heap} {I T f it l : Addr} {xs : List (Str × Tok)} {Q : Value → Shared → Prop} (hh : A.handled = none) (D : MNe h₀ I T it l s.heap.objs.size) (hc : CallsId prog w A.in1.in1.in1.in1 h₀ f) (hx : xs.length ≤ 100)
    (b0 : h₀.StaysIn s.heap) (mI : s.heap.get? I = some (mapObj f T)) (mT : s.heap.get? T = some (tup1 it)) (hit : s.heap.IsListIter it l 0) (hl : s.heap.IsList l (strValues xs).toArray)
    (hQ : ∀ (h' : Heap) (tk' : Nat), (∀ b o, b ≠ it → s.heap.get? b = some o → h'.get? b = some o) → Q (.ref h'.objs.size) { s with heap := h'.push { cls := .type "tuple", data := .seq (strValues xs).toArray }, toks := tk' }) :
    wpAny (model prog w) A (call (.type "tuple") [.ref I]) Q E s := by
  refine callType_codes (Q₁ := fun obj s₁ => s₁.TypeIs obj "tuple" ∧ Q obj s₁) PySem.F.called_tuple (PySem.F.typeCall_tuple_1 _) PySem.F.entry_object_init ?_ fun obj s₁ h₁ => ?_
  · refine codeAny_of_tree ?_
    show wpAny _ A.in1.in1 (do checkBuiltinCall "tuple.__new__" ⟨[.type "tuple", .ref I], []⟩; again (.builtin "tuple.__new__" ⟨[.type "tuple", .ref I], []⟩)) _ _ s
    refine wpAny_bind (wpAny_of_eq (PySem.F.newCall_tuple_1 _) (wpAny_pure ⟨plainId_quiet PySem.F.plain_tuple_new _, codeAny_builtin PySem.F.entry_tuple_new ?_⟩))
    rw [Around.under_plainId PySem.F.plain_tuple_new _]
    have hsub := sub_tuple_self
    have hinit := init_tuple_lookup
    have hmh := madeHere_tuple
    have hTI : s.TypeIs (.ref I) "map" := ⟨_, mI, rfl⟩
    repeat (any_goals (first | assumption | ((with_reducible show wpAny _ _ (collect _) _ _ _); refine Stop.out ?_) | wp_step))
    unfold Stop
    refine collect_map (A := A.in1.in1) hh D hc hx b0 mI mT hit hl fun h' tk' k' => ?_
    repeat (any_goals (first | assumption | ((with_reducible show wpAny _ _ (Builtin.Tuple.tupleExact _) _ _ _); refine Stop.out ?_) | wp_step))
    unfold Stop
    unfold Builtin.Tuple.tupleExact
    refine wpAny_newObj_type ?_ (by show (strValues xs).toArray.size ≤ sizeLine; rw [sizeLine_eq]; simp [strValues]; lia)
    refine wpAny_pure ?_
    exact ⟨⟨_, Heap.get?_push_size _ rfl, rfl⟩, hQ h' tk' k'⟩
  · exact ⟨h₁.1, PySem.F.args_object_init_2 obj _, object_init_meets PySem.F.called_tuple.init.lookup PySem.F.called_tuple.made (by decide) prog w A.in1 _ s₁ ⟨h₁.1, rfl, h₁.2⟩⟩
theorem tuple_map_K {h₀ : Heap} {f l L : Addr} {m : Str → Option Value} {news : List (Addr × Obj)} {xs : List (Str × Tok)} {Q : Value → Shared → Prop} (hh : A.handled = none) (F : Fr h₀ L s.heap m) (N : News h₀ L s.heap news) (hl : s.heap.IsList l (strValues xs).toArray) (hx : xs.length ≤ 100)
    (hc : CallsId prog w A.in1.in1.in1.in1 h₀ f)
    (hQ : ∀ D h' tk', Fr h₀ L h' m → News h₀ L h' ((D, { cls := .type "tuple", data := .seq (strValues xs).toArray }) :: news) → (∀ p ∈ news, p.1 < D) → Q (.ref D) { s with heap := h', toks := tk' }) :
    wpAny (model prog w) A (call (.type "map") [.ref f, .ref l]) (fun v s₁ => wpAny (model prog w) A (call (.type "tuple") [v]) Q E s₁) E s := by
  have hlt : l < s.heap.objs.size := by obtain ⟨o, ho, _⟩ := hl; exact Heap.lt_size ho
  have hL : L < s.heap.objs.size := F.ns.lt
  have hab : h₀.objs.size ≤ s.heap.objs.size := Nat.le_trans F.above (Nat.le_of_lt hL)
  refine call_map hl ?_
  have up : ∀ b o, s.heap.get? b = some o → (((s.heap.push ({ cls := .type "list_iterator", data := .fields #[.ref l, .int 0 0] } : Obj)).push (tup1 s.heap.objs.size)).push (mapObj f (s.heap.objs.size + 1))).get? b = some o :=
    fun b o e => Heap.get?_push_of_some _ (Heap.get?_push_of_some _ (Heap.get?_push_of_some _ e))
  have z1 : (s.heap.push ({ cls := .type "list_iterator", data := .fields #[.ref l, .int 0 0] } : Obj)).objs.size = s.heap.objs.size + 1 := Heap.size_push ..
  have z2 : ((s.heap.push ({ cls := .type "list_iterator", data := .fields #[.ref l, .int 0 0] } : Obj)).push (tup1 s.heap.objs.size)).objs.size = s.heap.objs.size + 2 := by rw [Heap.size_push, z1]
  have z3 : (((s.heap.push ({ cls := .type "list_iterator", data := .fields #[.ref l, .int 0 0] } : Obj)).push (tup1 s.heap.objs.size)).push (mapObj f (s.heap.objs.size + 1))).objs.size = s.heap.objs.size + 3 := by rw [Heap.size_push, z2]
  have g1 := Heap.get?_push_size s.heap (o := ({ cls := .type "list_iterator", data := .fields #[.ref l, .int 0 0] } : Obj)) rfl
  have g2 := Heap.get?_push_size (s.heap.push ({ cls := .type "list_iterator", data := .fields #[.ref l, .int 0 0] } : Obj)) (o := tup1 s.heap.objs.size) rfl
  have g3 := Heap.get?_push_size ((s.heap.push ({ cls := .type "list_iterator", data := .fields #[.ref l, .int 0 0] } : Obj)).push (tup1 s.heap.objs.size)) (o := mapObj f (s.heap.objs.size + 1)) rfl
  rw [z1] at g2
  rw [z2] at g3
  refine call_tuple_map (h₀ := h₀) (it := s.heap.objs.size) hh ?_ hc hx (fun b o e => up b o (F.keep b o e)) g3 (Heap.get?_push_of_some _ g2) ⟨_, Heap.get?_push_of_some _ (Heap.get?_push_of_some _ g1), rfl, rfl⟩ (hl.at fun o e => up _ _ e) fun h' tk' k' => ?_
  · have n0 : h₀.get? s.heap.objs.size = none := Heap.get?_none_of_le hab
    have n1 : h₀.get? (s.heap.objs.size + 3) = none := Heap.get?_none_of_le (Nat.le_trans hab (Nat.le_add_right _ _))
    dsimp only
    rw [z3]
    generalize s.heap.objs.size = n at hlt n0 n1
    exact ⟨neN (by lia), neN (by lia), Nat.ne_of_lt hlt, neN (by lia), neN (by lia), neN (by lia), Nat.ne_of_lt (Nat.lt_of_lt_of_le hlt (Nat.le_add_right _ _)), n0, n1⟩
  · have k2 : ∀ b o, s.heap.get? b = some o → h'.get? b = some o := fun b o e => k' b o (Nat.ne_of_lt (Heap.lt_size e)) (up b o e)
    have hsz : s.heap.objs.size < h'.objs.size := by
      have h1 := Heap.lt_size (k' (s.heap.objs.size + 2) _ (neN (by lia)) g3)
      exact Nat.lt_of_le_of_lt (Nat.le_add_right _ 2) h1
    refine hQ h'.objs.size _ tk' ((F.keeps k2).push _) (News.push (F.keeps k2) (N.grown k2) _) fun p hp => ?_
    exact Nat.lt_trans (Heap.lt_size (N p hp).1) hsz
end
end
section
open PySem PySem.W PySem.Calls PyProof.Rows
open PySem.Builtin PySem.Builtin.Str
section
variable {prog : Program} {w : World} {A : Around} {E : Value → Shared → Prop} {s : Shared} {x y : Str} {t u : Tok} {Q : Value → Shared → Prop}
theorem split_fresh (hy : (y.length == 0) = false)
    (h : ∀ D h' k l, l.map (·.1) = Txt.split x y → (∀ b o, s.heap.get? b = some o → h'.get? b = some o) → s.heap.get? D = none → h'.IsList D (strValues l).toArray → Q (.ref D) { s with heap := h', toks := k })
    (hsz : x.length + 2 ≤ sizeLine) :
    wpAny (model prog w) A (call (.builtin "str.split") [.str x t, .str y u]) Q E s := by
  have hI : s.heap.get? s.heap.objs.size = none := by
    cases e : s.heap.get? s.heap.objs.size with
    | none => rfl
    | some o => exact absurd (Heap.lt_size e) (Nat.lt_irrefl _)
  have hn : (PySem.Builtin.Str.partsBetween x (PySem.Builtin.Str.occurrences x y 0 x.length (x.length + 1)) y.length).length ≤ sizeLine := by
    have e1 := StrLaws.occ_length_le x y 0 x.length (x.length + 1)
    rw [length_partsBetween]; lia
  have put : ∀ l k, l.map (·.1) = Txt.split x y → Q (.ref s.heap.objs.size) { s with heap := s.heap.push { cls := .type "list", data := .seq (strValues l).toArray }, toks := k } := fun l k e =>
    h _ _ _ l e (fun b o e => Heap.get?_push_of_some _ e) hI ⟨_, Heap.get?_push_size _ rfl, rfl, _, rfl⟩
  cases h1 : (decide (x.length < y.length) || decide (PySem.Builtin.Str.strKind x < PySem.Builtin.Str.strKind y))
  · cases hf : (PySem.Builtin.Str.occurrences x y 0 x.length (x.length + 1)).isEmpty
    · refine call_meets F.slot_str_split (typeIs_str _ _ _) F.entry_str_split (F.args_str_split_2 _ _) (meets_str_split_sep x y t u h1 hy hf (by lia) hn) ?_
      show wants Q E _ { s with toks := _, heap := s.heap.push { cls := .type "list", data := .seq (strsFrom s.toks (PySem.Builtin.Str.partsBetween x (PySem.Builtin.Str.occurrences x y 0 x.length (x.length + 1)) y.length)).toArray } }
      rw [strsFrom_eq]
      exact put (numbered s.toks _) _ ((numbered_texts _ _).trans ((if_neg (ne_true_of_eq_false h1)).trans (if_neg (ne_true_of_eq_false hf))).symm)
    · exact call_meets F.slot_str_split (typeIs_str _ _ _) F.entry_str_split (F.args_str_split_2 _ _) (meets_str_split_not_found x y t u h1 hy hf)
        (put [(x, t)] s.toks ((if_neg (ne_true_of_eq_false h1)).trans (if_pos hf)).symm)
  · exact call_meets F.slot_str_split (typeIs_str _ _ _) F.entry_str_split (F.args_str_split_2 _ _) (meets_str_split_cannot_occur x y t u h1)
      (put [(x, t)] s.toks (if_pos h1).symm)
end
end
section
open PySem PySem.W PySem.Calls PyProof.Rows
noncomputable def isTrueV : Value → Bool
  | .bool true => true
  | _ => false
theorem isTrueV_shape {v : Value} (h : isTrueV v = true) : v = .bool true := by
  cases v with
  | bool b => cases b with
    | true => rfl
    | false => cases h
  | _ => cases h
section
variable {prog : Program} {w : World} {A : Around} {E : Value → Shared → Prop} {s : Shared}
theorem pyHash_true {Q : Int → Shared → Prop} (h : Q 1 { s with toks := s.toks + 1 }) :
    wpAny (model prog w) A (pyHash (.bool true)) Q E s := by
  have hT : s.TypeIs (.bool true) "bool" := rfl
  unfold pyHash
  have hv : [Value.bool true].any Value.onHeap = false := rfl
  refine wpAny_bind ?_
  rw [cRoomFor, if_neg (by rw [hv]; exact Bool.false_ne_true)]; refine wpAny_pure ?_
  refine wpAny_bind (wpAny_specialOf hT F.slot_bool_hash.lookup ?_)
  show wpAny _ _ (if (some (Value.builtin "int.__hash__") == some Value.none) = true then _ else _) Q E s
  rw [if_neg (by rw [beq_builtin_none]; exact Bool.false_ne_true)]
  refine wpAny_bind (wpAny_specialOf hT F.slot_bool_hash.lookup ?_)
  show wpAny _ _ (callSpecialIfBoundUnlessNone? (.bool true) "__hash__" _ >>= _) Q E s
  refine wpAny_bind (wpAny_callSpecialIfBoundUnlessNone?_slot hT F.slot_bool_hash
    (wpAny_call_entry F.slot_bool_hash hT F.entry_int_hash
      (show wpAny _ _ (do ret (← mkInt (rawHash 1))) _ _ s from wpAny_ret_mkInt ?_) (F.args_int_hash_1 _)))
  show wpAny _ _ (if (decide (-(2 : Int) ^ 63 ≤ rawHash 1) && decide (rawHash 1 < 2 ^ 63)) = true then _ else _) Q E _
  rw [if_pos (by decide +kernel)]
  exact wpAny_pure h
theorem eqBool_true {Q : Bool → Shared → Prop} (h : Q true s) :
    wpAny (model prog w) A (eqBool (.bool true) (.bool true)) Q E s := by
  unfold eqBool
  refine wpAny_holding ?_
  rw [if_pos (by decide)]
  exact wpAny_bind (wpAny_rule (wpAny_pure h))
end
noncomputable def trueKind (prog : Program) (w : World) : KeyKind prog w Unit where
  is := fun _ => isTrueV
  hash := fun _ => 1
  inj := fun _ _ _ _ _ => rfl
  byValue := fun k v h => by rw [isTrueV_shape h]; rfl
  pyHash := fun hv h => by rw [isTrueV_shape hv]; exact pyHash_true h
  eqBool := fun hu hv h => by
    rw [isTrueV_shape hu, isTrueV_shape hv]
    exact eqBool_true (by simpa using h)
  «strs» := fun k x t v h => by simp [isTrueV] at h
noncomputable def setT1 (led : Bool) : SetTable := (layNew (.fresh 0 0 led) #[] 1 (.bool true)).2.1
noncomputable def setObj (led : Bool) : Nat → Obj
  | 0 => { cls := .type "set", dict := none, data := .set #[] 0 (.fresh 0 0 led) }
  | _ + 1 => { cls := .type "set", dict := none, data := .set #[(1, .bool true)] 1 (setT1 led) }
theorem layNew1 (led : Bool) : layNew (.fresh 0 0 led) #[] 1 (.bool true) = (#[(1, .bool true)], setT1 led, false, false) := by
  cases led <;> rfl
theorem setT1_fits (led : Bool) : (setT1 led).fits 1 = true := by cases led <;> rfl
theorem setT1_plain (led : Bool) : (setT1 led).plain = true := by cases led <;> rfl
theorem setT1_tooFull (led : Bool) : (setT1 led).tooFull = false := by cases led <;> rfl
section
variable {prog : Program} {w : World} {A : Around} {E : Value → Shared → Prop} {s : Shared} {a : Addr}
theorem typeIs_setObj {led : Bool} {i : Nat} (ho : s.heap.get? a = some (setObj led i)) : s.TypeIs (.ref a) "set" := ⟨_, ho, by cases i <;> rfl⟩
theorem set_add_body {led : Bool} {i : Nat} {Q : Value → Shared → Prop} (ho : s.heap.get? a = some (setObj led i))
    (h : wpAny (model prog w) A.in1 (setAddHashed a (.bool true) 1) (fun _ s' => Q .none s') E { s with toks := s.toks + 1 }) :
    wpAny (model prog w) A (call (.builtin "set.add") [.ref a, .bool true]) Q E s := by
  refine wpAny_call_entry F.slot_set_add (typeIs_setObj ho) F.entry_set_add ?_ (F.args_set_add_2 _ _)
  unfold Builtin.«set.add» Builtin.Frozenset.oneOther
  simp only [List.isEmpty_nil, bind_assoc]
  unfold Builtin.Frozenset.addrOf setAdd
  refine wpAny_bind (wpAny_pure ?_)
  try dsimp only
  refine wpAny_bind (wpAny_pure ?_)
  try dsimp only
  refine wpAny_bind ?_
  refine wpAny_holding ?_
  refine wpAny_bind (pyHash_true ?_)
  refine wpAny_mono h (fun b s' hq => ?_) fun _ _ e => e
  show wpAny _ _ (ret Value.none) _ _ _
  exact wpAny_pure ⟨_, rfl, hq⟩
theorem elems1 : ElemsOf (trueKind prog w) (#[((1 : Int), Value.bool true)]).toList := fun e he => by
  simp at he
  subst he
  exact ⟨⟨(), rfl, rfl⟩, rfl⟩
theorem set_add1 {led : Bool} {i : Nat} {Q : Value → Shared → Prop} (ho : s.heap.get? a = some (setObj led (i + 1))) (h : Q .none { s with toks := s.toks + 1 }) :
    wpAny (model prog w) A (call (.builtin "set.add") [.ref a, .bool true]) Q E s := by
  refine set_add_body ho ?_
  unfold setAddHashed setAddHashedIn
  refine wpAny_holding (wpAny_bind (wpAny_setState_of (s := { s with toks := s.toks + 1 }) ho rfl (setT1_fits led) ?_))
  dsimp only
  rw [byScan_of (knd := trueKind prog w) rfl (by decide) elems1]
  simp only [↓reduceIte]
  unfold setAddByScan
  refine wpAny_bind ?_
  refine wpAny_bind (wpAny_rule ?_)
  refine wpAny_bind (wpAny_setScan_of (knd := trueKind prog w) (k := ()) rfl ho rfl (setT1_fits led) elems1 ?_)
  show wpAny _ _ (pure (some false)) _ _ _
  exact wpAny_pure (wpAny_pure h)
theorem set_add0 {led : Bool} {Q : Value → Shared → Prop} (ho : s.heap.get? a = some (setObj led 0))
    (h : ∀ h', Heap.SameBut a s.heap h' → h'.get? a = some (setObj led 1) → Q .none { s with heap := h', toks := s.toks + 1 }) :
    wpAny (model prog w) A (call (.builtin "set.add") [.ref a, .bool true]) Q E s := by
  refine set_add_body ho ?_
  unfold setAddHashed setAddHashedIn
  refine wpAny_holding (wpAny_bind (wpAny_setState_of (s := { s with toks := s.toks + 1 }) ho rfl rfl ?_))
  dsimp only
  rw [byScan_of (knd := trueKind prog w) rfl (by decide) (fun e he => by simp at he)]
  simp only [↓reduceIte]
  unfold setAddByScan
  refine wpAny_bind ?_
  refine wpAny_bind (wpAny_rule ?_)
  refine wpAny_bind (wpAny_setScan_of (knd := trueKind prog w) (k := ()) rfl ho rfl rfl (fun e he => by simp at he) ?_)
  dsimp only
  rw [layNew1]
  dsimp only
  refine wpAny_bind (wpAny_pure ?_)
  rw [if_pos (setT1_plain led)]
  refine wpAny_bind ?_
  rw [hashByValue_scannable 8 rfl]
  refine wpAny_pure ?_
  simp only [show plainKind (Value.bool true) = true from rfl, ↓reduceIte]
  refine wpAny_bind (wpAny_storeSet_of (s := { s with toks := s.toks + 1 }) ho rfl ?_ (fits_of_scanBound (by decide)))
  rw [setT1_tooFull]
  rw [if_neg (by simp)]
  refine wpAny_pure (wpAny_pure ?_)
  refine h _ (Heap.SameBut.update s.heap a (Obj.putSet _ _)) ?_
  have := Heap.get?_update_self (Obj.putSet #[((1 : Int), Value.bool true)] (setT1 led)) ho rfl
  exact this
theorem newSet_obj {Q : Value → Shared → Prop}
    (h : Q (.ref s.heap.objs.size) { s with heap := s.heap.push (setObj (!w.params.followText "set-order") 0) }) :
    wpAny (model prog w) A (newSet (.type "set")) Q E s := by
  unfold newSet setsByText
  refine wpAny_bind (wpAny_bind (wpAny_askSetting (wpAny_pure ?_)))
  dsimp only
  simp only [newObj]
  exact wpAny_bind (wpAny_alloc (wpAny_pure h))
end
theorem compTurn_set1 (elt target iter : Expr) (scope : Scope) (pos : Pos) (it acc : Value) (env : Env) :
    compTurn (.SetComp elt [⟨target, iter, [], 0⟩] scope pos) 0 it acc env = (standAt iter.pos >>= fun _ => pyNext it >>= fun r => match r with
      | none => pure (.done .next)
      | some v => letOwnedTupleGo target it v >>= fun _ => assign target env v >>= fun _ =>
        (eval elt env >>= fun x => standAt elt.pos >>= fun _ => call (.builtin "set.add") [acc, x] >>= fun _ => pure ()) >>= fun _ =>
          again (.compLoop (.SetComp elt [⟨target, iter, [], 0⟩] scope pos) 0 it acc env)) := by rfl
section
variable {prog : Program} {w : World} {A : Around} {R : Result → Shared → Prop} {s : Shared}
theorem compStart_set {elt target iter ifs rest scope pos it acc env}
    (h0 : codeAny (model prog w) A (.compLoop (.SetComp elt (⟨target, iter, ifs, 0⟩ :: rest) scope pos) 0 it acc env) R s)
    (h : wpAny (model prog w) A (pyIter it) (fun it' s' => codeAny (model prog w) A (.compLoop (.SetComp elt (⟨target, iter, ifs, 0⟩ :: rest) scope pos) 0 it' acc env) R s')
      (notedBy (model prog w) A env fun x s' => R (.error x) s') s) :
    codeAny (model prog w) A (.compStart (.SetComp elt (⟨target, iter, ifs, 0⟩ :: rest) scope pos) 0 it acc env) R s := by
  refine codeAny_of_tree ?_
  show wpAny _ A ((compStart (.SetComp elt (⟨target, iter, ifs, 0⟩ :: rest) scope pos) 0 it acc env).onRaise (fun x => do noteFrame x env; standAt theWindowsPlace)) _ _ s
  refine wpAny_notedAt ?_
  unfold compStart
  show wpAny _ A (ask >>= _) _ _ s
  refine wpAny_bind (wpAny_askSetting (wpAny_ite ?_))
  split
  · first
      | exact wpAny_bind (wpAny_pure (wpAny_pure (And.intro rfl h0)))
      | exact wpAny_pure (And.intro rfl h0)
  · first
      | exact wpAny_bind (wpAny_rule (wpAny_bind (wpAny_standAt (wpAny_bind (wpAny_mono h (fun it' s' h' => wpAny_pure (And.intro rfl h')) fun _ _ x => x)))))
      | (refine wpAny_bind (wpAny_rule ?_); show wpAny _ _ (standAt iter.pos >>= _) _ _ s; exact wpAny_bind (wpAny_standAt (wpAny_bind (wpAny_mono h (fun it' s' h' => wpAny_pure (And.intro rfl h')) fun _ _ x => x))))
theorem compLoop_set {elt target iter : Expr} {scope : Scope} {pos : Pos} {it acc : Value} {env : Env} (I : Nat → Shared → Prop)
    (turn : ∀ n s, I n s → wpAny (model prog w) A (pyNext it) (fun r s₁ => match r with
      | none => R (.ok .next) s₁
      | some v => wpAny (model prog w) A (assign target env v) (fun _ s₂ => wpAny (model prog w) A (eval elt env) (fun x s₃ =>
          wpAny (model prog w) A (call (.builtin "set.add") [acc, x]) (fun _ s₄ => ∃ m, m < n ∧ I m s₄) (notedBy (model prog w) A env fun e s' => R (.error e) s') s₃)
          (notedBy (model prog w) A env fun e s' => R (.error e) s') s₂) (notedBy (model prog w) A env fun e s' => R (.error e) s') s₁) (notedBy (model prog w) A env fun e s' => R (.error e) s') s)
    (n : Nat) (h : I n s) (ht : ∀ v, letOwnedTupleGo target it v = pure () := by intro _; rfl) :
    codeAny (model prog w) A (.compLoop (.SetComp elt [⟨target, iter, [], 0⟩] scope pos) 0 it acc env) R s := by
  refine codeAny_loop rfl I (fun n s hI => ?_) n h
  show wpAny _ A ((compTurn (.SetComp elt [⟨target, iter, [], 0⟩] scope pos) 0 it acc env).onRaise (fun x => do noteFrame x env; theTreesLotGoes x)) _ _ s
  refine wpAny_noted ?_
  rw [compTurn_set1]
  refine wpAny_bind (wpAny_standAt (wpAny_bind (wpAny_mono (turn n s hI) (fun r s₁ h₁ => ?_) fun _ _ h' => h')))
  cases r with
  | none => exact wpAny_pure h₁
  | some v =>
    refine wpAny_bind (wpAny_of_eq (ht v) ?_)
    refine wpAny_bind (wpAny_mono h₁ (fun _ s₂ h₂ => ?_) fun _ _ h' => h')
    exact wpAny_bind (wpAny_bind (wpAny_mono h₂ (fun x s₃ h₃ => wpAny_bind (wpAny_standAt (wpAny_bind (wpAny_mono h₃ (fun _ s₄ h₄ => wpAny_pure (wpAny_pure ⟨rfl, h₄⟩)) fun _ _ h' => h')))) fun _ _ h' => h'))
inductive SetInv (s : Shared) (C D : Addr) (wr : List Addr) (n : Nat) (St : Nat → Heap → Prop) (led : Bool) : Nat → Shared → Prop
  | mk {h : Heap} {tk i k : Nat} {m : Str → Option Value} (hst : St i h) (hacc : h.get? D = some (setObj led i)) (hn : h.Ns C m) (hi : i ≤ n) (hk : KeepBut C D wr s.heap h) (e : i + k = n + 1) : SetInv s C D wr n St led k { s with heap := h, toks := tk }
theorem SetInv.next {C D : Addr} {wr : List Addr} {n i k tk : Nat} {St : Nat → Heap → Prop} {led : Bool} {h : Heap} {m : Str → Option Value} (e : i + k = n + 1) (hlt : i < n) (hst : St (i + 1) h) (hacc : h.get? D = some (setObj led (i + 1))) (hn : h.Ns C m) (hk : KeepBut C D wr s.heap h) :
    ∃ k', k' < k ∧ SetInv s C D wr n St led k' { s with heap := h, toks := tk } := by
  cases k with
  | zero => exact absurd (show i = n + 1 from e) (Nat.ne_of_lt (Nat.lt_succ_of_lt hlt))
  | succ k => exact ⟨k, Nat.lt_succ_self k, hst, hacc, hn, hlt, hk, (Nat.succ_add i k).trans e⟩
theorem compLoop_true {elt iter : Expr} {x : Str} {px : Pos} {scope : Scope} {pos : Pos} {I D : Addr} {fp wr : List Addr} {n : Nat} {P : Nat → Value → Prop} {St : Nat → Heap → Prop}
    {cenv : Env} {m : Str → Option Value} (W : Walks prog w A I fp wr n P St)
    (hx : cenv.kindOf x = some .local) (hp : (cenv.scope.kind == .class || (cenv.scope.kind == .module && cenv.locals != cenv.globals)) = false)
    (hDC : D ≠ cenv.locals) (hDf : D ∉ fp) (hCf : cenv.locals ∉ fp)
    (hst : St 0 s.heap) {led : Bool} (hacc : s.heap.get? D = some (setObj led 0)) (hn : s.heap.Ns cenv.locals m)
    (helt : ∀ i v s₂ m₂, P i v → s₂.heap.Ns cenv.locals m₂ → m₂ x = some v → (∀ b o, b ≠ cenv.locals → b ∉ wr → b ≠ D → s.heap.get? b = some o → s₂.heap.get? b = some o) →
      wpAny (model prog w) A (eval elt cenv) (fun y s₃ => y = .bool true ∧ Keeps s₂ s₃) (notedBy (model prog w) A cenv fun e s' => R (.error e) s') s₂)
    (hR : ∀ h' tk m', h'.Ns cenv.locals m' → h'.get? D = some (setObj led n) →
      (∀ b o, b ≠ cenv.locals → b ∉ wr → b ≠ D → s.heap.get? b = some o → h'.get? b = some o) → R (.ok .next) { s with heap := h', toks := tk }) :
    codeAny (model prog w) A (.compLoop (.SetComp elt [⟨.Name x px, iter, [], 0⟩] scope pos) 0 (.ref I) (.ref D) cenv) R s := by
  refine compLoop_set (SetInv s cenv.locals D wr n St led) ?_ (n + 1) (.mk (i := 0) hst hacc hn (Nat.zero_le _) (fun _ _ _ _ _ e => e) (Nat.zero_add _))
  rintro k _ ⟨hst', hacc', hn', hi, hkp, hk⟩
  rename_i H tk i m'
  have hCw : cenv.locals ∉ wr := fun h => hCf (W.sub _ h)
  have hDw : D ∉ wr := fun h => hDf (W.sub _ h)
  rcases Nat.lt_or_ge i n with hlt | hge
  · refine W.item i _ _ _ hlt hst' fun v h₁ tk₁ hPv hst₁ hk₁ => ?_
    refine wpAny_assign_Name (wpAny_storeName_local hx (hn'.at' fun o e => hk₁ _ o hCw e) (fun h₂ hn₂ hs₂ => ?_) hp)
    have hk₂ : KeepBut cenv.locals D wr s.heap h₂ := hkp.turn hk₁ hs₂.extBut fun _ _ e => e
    refine wpAny_mono (helt i v _ _ hPv hn₂ (if_pos rfl) hk₂) (fun y s₃ h₃ => ?_) fun _ _ e => e
    obtain ⟨rfl, h₃, tk₃, rfl, hk₃⟩ := h₃
    have hst₃ : St (i + 1) h₃ := W.frame _ _ _ hst₁ fun b hb o e => hk₃ b o (hs₂.extBut b o (fun h => hCf (h ▸ hb)) e)
    have hacc₃ : h₃.get? D = some (setObj led i) := hk₃ _ _ (hs₂.extBut D _ hDC (hk₁ D _ hDw hacc'))
    have hkp₃ : KeepBut cenv.locals D wr s.heap h₃ := fun b o h1 h2 h3 e => hk₃ b o (hk₂ b o h1 h2 h3 e)
    cases i with
    | zero => exact set_add0 (led := led) hacc₃ fun h₄ hs₄ hacc₄ => SetInv.next hk hlt (W.frame _ _ _ hst₃ fun b hb o e => hs₄.extBut b o (fun h => hDf (h ▸ hb)) e) hacc₄ ((hn₂.keeps hk₃).sameBut hs₄ (Ne.symm hDC)) fun b o h1 h2 h3 e => hs₄.extBut b o h3 (hkp₃ b o h1 h2 h3 e)
    | succ i => exact set_add1 (led := led) hacc₃ (SetInv.next hk hlt hst₃ hacc₃ (hn₂.keeps hk₃) hkp₃)
  · cases Nat.le_antisymm hi hge
    exact W.done _ _ _ hst' fun h₁ tk₁ hk₁ => hR h₁ tk₁ m' (hn'.at' fun o e => hk₁ _ o hCw e) (hk₁ _ _ hDw hacc') fun b o hbC hbf hbD e => hk₁ b o hbf (hkp b o hbC hbf hbD e)
end
end
section
open PySem PySem.W PySem.Calls PyProof.Rows
theorem entry_set_iter9 : entryFor table "set.__iter__" = some Builtin.«frozenset.__iter__» :=
  entryFor_alias (id' := "frozenset.__iter__") (by kernel_rfl) (by first | rfl | decide +kernel) (by decide +kernel) (by kernel_rfl)
theorem slot_seti_next : Slot "set_iterator" "__next__" "set_iterator.__next__" :=
  .of (owner := "set_iterator") (n := "__next__") (by rw [typeLookup_type, builtinLookup_eq_fast]; kernel_rfl) (by decide +kernel) (by decide +kernel) (by decide +kernel)
    (by first | exact .inl (by decide +kernel) | exact .inr (by decide +kernel)) (by rw [isSubtype_type]; kernel_rfl)
theorem entry_seti_next : entryFor table "set_iterator.__next__" = some Builtin.«set_iterator.__next__» := entryFor_of_tree (by kernel_rfl)
theorem args_seti_next (a : Value) : argsOk "set_iterator.__next__" ⟨[a], []⟩ := by unfold argsOk; kernel_rfl
theorem pickOrder1 {α : Type} (next : Nat → Nat) (x : α) : pickOrder next #[x] = #[x] := by
  show (match [x][next 0 % 1]? with | some y => pickOrder.go next 0 1 ([x].eraseIdx (next 0 % 1)) (#[].push y) | none => #[]) = #[x]
  rw [Nat.mod_one]
  rfl
noncomputable def setIt (f g : Int) (a : Value) : Obj := { cls := .type "set_iterator", data := .fields #[.int f 0, .int g 0, a, .int 1 0, .int 1 0] }
section
variable {prog : Program} {w : World} {A : Around} {E : Value → Shared → Prop} {s : Shared} {a : Addr}
theorem pyIter_set {led : Bool} {Q : Value → Shared → Prop} (ho : s.heap.get? a = some (setObj led 1))
    (h : Q (.ref s.heap.objs.size) { s with heap := s.heap.push (setIt 0 0 (.ref a)) }) : wpAny (model prog w) A (pyIter (.ref a)) Q E s := by
  refine wpAny_pyIter_slot (typeIs_setObj ho) F.slot_set_iter (wpAny_call_entry F.slot_set_iter (typeIs_setObj ho) entry_set_iter9 ?_ (F.args_set_iter_1 _))
  unfold Builtin.«frozenset.__iter__» Builtin.Frozenset.slot0 Builtin.Frozenset.addrOf Builtin.Frozenset.sizeOf
  refine wpAny_bind (wpAny_of_eq rfl ?_)
  refine wpAny_bind (wpAny_bind (wpAny_setEntries_of ho rfl (setT1_fits led) (wpAny_pure ?_)))
  unfold setDrawn
  refine wpAny_bind (wpAny_bind (wpAny_setState_of ho rfl (setT1_fits led) ?_))
  dsimp only
  unfold setsByText
  refine wpAny_bind (wpAny_bind (wpAny_askSetting (wpAny_pure ?_)))
  refine wpAny_pure ?_
  split
  · rename_i hc
    exfalso
    revert hc
    generalize (model prog w).w.params.followText "set-order" = b
    intro hc
    cases b <;> cases led <;> exact Bool.noConfusion hc
  · refine wpAny_bind (wpAny_pure ?_)
    refine wpAny_bind (wpAny_setEpoch_of ho rfl (setT1_fits led) ?_)
    exact wpAny_bind (wpAny_newObj_type (wpAny_pure ⟨_, rfl, "set_iterator", _, ⟨_, Heap.get?_push_size _ rfl, rfl⟩, slot_seti_next.lookup, h⟩))
theorem typeIs_setIt {it : Addr} {f g : Int} {v : Value} (hi : s.heap.get? it = some (setIt f g v)) : s.TypeIs (.ref it) "set_iterator" := ⟨_, hi, rfl⟩
noncomputable def setiK (it : Value) (g : Int) : Option (Value × Nat) → Sem PySem.Fin
  | some (x, next) => do
    setField it 0 (rawInt next)
    setField it 1 (rawInt (g + 1))
    ret x
  | none => do
    setField it 2 .none
    raiseNew (← newExc (.type "StopIteration") [])
theorem pyNext_seti {it : Addr} {led : Bool} {f g : Int} {Q : Option Value → Shared → Prop} (ho : s.heap.get? a = some (setObj led 1)) (hi : s.heap.get? it = some (setIt f g (.ref a)))
    (h : wpAny (model prog w) A.in1 (setNext a f.toNat g.toNat 1 >>= setiK (.ref it) g) (fun v s' => ∃ u, v = .done (.ret u) ∧ Q (some u) s') (fun e s' => ∃ b, e = .ref b ∧ s'.TypeIs e "StopIteration" ∧ Q none s') s) : wpAny (model prog w) A (pyNext (.ref it)) Q E s := by
  unfold pyNext
  refine wpAny_bind (wpAny_attempt (wpAny_callSpecial?_slot (name := Str.ofString "__next__") (typeIs_setIt hi) slot_seti_next
    (wpAny_call_entry slot_seti_next (typeIs_setIt hi) entry_seti_next ?_ (args_seti_next _))))
  unfold Builtin.«set_iterator.__next__»
  refine wpAny_bind (wpAny_of_eq rfl ?_)
  refine wpAny_bind (wpAny_fieldsOf hi rfl ?_)
  show wpAny _ _ (setEntries a >>= _) _ _ _
  refine wpAny_bind (wpAny_setEntries_of ho rfl (setT1_fits _) ?_)
  rw [if_neg (by decide)]
  refine wpAny_mono h ?_ ?_
  · intro v s' ⟨u, e, q⟩
    exact ⟨u, e, wpAny_pure q⟩
  · rintro e s' ⟨b, rfl, ty, q⟩
    exact wpAny_bind (wpAny_isInstance (T := "StopIteration") (b := true) ty isSubtype_stop (wpAny_pure q))
noncomputable def slotR (slot : Nat) : Option (Value × Nat) :=
  match (#[((1 : Int), Value.bool true)])[SetTable.below (setT1 true).place slot]?, (setT1 true).place[SetTable.below (setT1 true).place slot]? with
  | some (_, x), some j => some (x, j + 1)
  | _, _ => none
theorem setNext_at {slot i : Nat} {r : Option (Value × Nat)} {Q : Option (Value × Nat) → Shared → Prop} (ho : s.heap.get? a = some (setObj (!w.params.followText "set-order") 1))
    (ht : w.params.followText "set-order" = true → (#[((1 : Int), Value.bool true)][i]?).map (fun e => (e.2, slot)) = r)
    (hf : w.params.followText "set-order" = false → slotR slot = r) (h : Q r s) : wpAny (model prog w) A (setNext a slot i 1) Q E s := by
  unfold setNext
  refine wpAny_bind (wpAny_setState_of ho rfl (setT1_fits _) ?_)
  dsimp only
  unfold setsByText
  refine wpAny_bind (wpAny_bind (wpAny_askSetting (wpAny_pure ?_)))
  show wpAny _ _ (if w.params.followText "set-order" = true then _ else _) _ _ _
  cases hb : w.params.followText "set-order" with
  | true =>
    rw [if_pos rfl, if_neg (by decide)]
    unfold setWalk setsByText
    refine wpAny_bind (wpAny_bind (wpAny_setState_of ho rfl (setT1_fits _) ?_))
    dsimp only
    refine wpAny_bind (wpAny_bind (wpAny_askSetting (wpAny_pure ?_)))
    show wpAny _ _ (if w.params.followText "set-order" = true then _ else _) _ _ _
    rw [if_pos hb]
    refine wpAny_bind (wpAny_askSetting (wpAny_pure (wpAny_pure ?_)))
    rw [pickOrder1, ht hb]
    exact h
  | false =>
    rw [if_neg (by decide), if_neg (by intro hc; exact Bool.noConfusion hc)]
    exact wpAny_bind (wpAny_of_eq (show _ = pure () from rfl) (wpAny_pure (show Q (slotR slot) s by rw [hf hb]; exact h)))
theorem pyNext_set0 {it : Addr} {Q : Option Value → Shared → Prop} (ho : s.heap.get? a = some (setObj (!w.params.followText "set-order") 1)) (hi : s.heap.get? it = some (setIt 0 0 (.ref a)))
    (h : ∀ h' f, Heap.SameBut it s.heap h' → h'.get? it = some (setIt f 1 (.ref a)) → (w.params.followText "set-order" = false → f = 2) → Q (some (.bool true)) { s with heap := h' }) : wpAny (model prog w) A (pyNext (.ref it)) Q E s := by
  have fin (nx : Nat) (hx : w.params.followText "set-order" = false → nx = 2) {E' : Value → Shared → Prop} : wpAny (model prog w) A.in1 (setiK (.ref it) 0 (some (.bool true, nx))) (fun v s' => ∃ u, v = .done (.ret u) ∧ Q (some u) s') E' s :=
    wpAny_bind (wpAny_setField_rec hi (Nat.le_of_ble_eq_true rfl) fun h₁ g₁ b₁ =>
      wpAny_bind (wpAny_setField_rec (s := { s with heap := h₁ }) g₁ (Nat.le_of_ble_eq_true rfl) fun h₂ g₂ b₂ =>
        wpAny_pure ⟨_, rfl, h h₂ nx (b₁.trans b₂) g₂ fun hb => congrArg Nat.cast (hx hb)⟩))
  refine pyNext_seti ho hi (wpAny_bind ?_)
  cases hb : w.params.followText "set-order" with
  | true => exact setNext_at ho (fun _ => rfl) (fun e => Bool.noConfusion (hb.symm.trans e)) (fin 0 fun e => Bool.noConfusion (hb.symm.trans e))
  | false => exact setNext_at ho (fun e => Bool.noConfusion (hb.symm.trans e)) (fun _ => rfl) (fin 2 fun _ => rfl)
theorem pyNext_set1 {it : Addr} {f : Int} {Q : Option Value → Shared → Prop} (hh : A.handled = none) (ho : s.heap.get? a = some (setObj (!w.params.followText "set-order") 1)) (hi : s.heap.get? it = some (setIt f 1 (.ref a)))
    (hf : w.params.followText "set-order" = false → f = 2)
    (h : ∀ h', Heap.ExtBut it s.heap h' → Q none { s with heap := h' }) : wpAny (model prog w) A (pyNext (.ref it)) Q E s := by
  refine pyNext_seti ho hi (wpAny_bind (setNext_at (r := Option.none) ho (fun _ => rfl) (fun e => by rw [hf e]; rfl) ?_))
  refine wpAny_bind (wpAny_setField hi rfl (Nat.le_of_ble_eq_true rfl) ?_)
  show wpAny _ _ (newExc (.type "StopIteration") [] >>= _) _ _ _
  refine wpAny_bind ?_
  unfold newExc newTuple
  refine wpAny_bind (wpAny_newObj_type ?_ (by size_fits))
  refine wpAny_bind (m := firstArgMember _ _) (wpAny_of_eq (a := Value.none) (by first | rfl | (simp only [firstArgMember]; rfl)) ?_)
  refine wpAny_newObj_type ?_ (by size_fits)
  refine wpAny_raiseNew_none hh ?_
  exact ⟨_, rfl, ⟨_, Heap.get?_push_size _ rfl, rfl⟩, h _ (((Heap.SameBut.update ..).extBut.push _).push _)⟩
theorem assign_set1 {env : Env} {elts : List Expr} {x1} {pos : Pos} {Q : Unit → Shared → Prop} (hh : A.handled = none) (ho : s.heap.get? a = some (setObj (!w.params.followText "set-order") 1))
    (hn : (assignEach elts env).length = 1) (hstar : (assignEach elts env).findIdx? (·.1) = none)
    (h : ∀ h', (∀ b o, s.heap.get? b = some o → h'.get? b = some o) → wpAny (model prog w) A (assignInOrder ((assignEach elts env).map (·.2)) [.bool true]) Q E { s with heap := h' }) :
    wpAny (model prog w) A (assign (.Tuple elts x1 pos) env (.ref a)) Q E s := by
  rw [arm_assign_Tuple]
  refine wpAny_bind (wpAny_standAt ?_)
  unfold unpack
  rw [hn, hstar]
  refine wpAny_bind (wpAny_holding ?_)
  have hne : a ≠ s.heap.objs.size := Nat.ne_of_lt (Heap.lt_size ho)
  unfold unpackItems
  refine wpAny_bind ?_
  unfold notIterableAtAll
  refine wpAny_bind (wpAny_specialOf (typeIs_setObj ho) F.slot_set_iter.lookup ?_)
  refine wpAny_pure ?_
  simp only [Bool.false_eq_true, if_false]
  refine wpAny_bind (wpAny_holding (pyIter_set ho ?_))
  refine wpAny_bind (wpAny_holding ?_)
  show wpAny _ _ (pyNext (.ref s.heap.objs.size) >>= _) _ _ _
  refine wpAny_bind (pyNext_set0 (s := { s with heap := s.heap.push (setIt 0 0 (.ref a)) }) (Heap.get?_push_of_some _ ho) (Heap.get?_push_size _ rfl) fun h₁ f b₁ g₁ hf => ?_)
  refine wpAny_bind (wpAny_holding (wpAny_pure (wpAny_pure ?_)))
  rw [if_neg (by simp)]
  refine wpAny_bind (wpAny_holding (pyNext_set1 (s := { s with heap := h₁ }) hh (b₁.extBut _ _ hne (Heap.get?_push_of_some _ ho)) g₁ hf fun h₂ b₂ => ?_))
  simp only [Option.isSome_none, Bool.false_eq_true, if_false]
  refine wpAny_pure (h h₂ fun b o e => ?_)
  have hb : b ≠ s.heap.objs.size := Nat.ne_of_lt (Heap.lt_size e)
  exact b₂ b o hb (b₁.extBut b o hb (Heap.get?_push_of_some _ e))
end
end
section
open PySem PySem.W PySem.Calls PyProof.Rows
noncomputable def cell0 : AO := .pred fun o => o.data = .cell none
noncomputable def cellV (p : PV) : AO := .pred fun o => ∃ v, o.data = .cell (some v) ∧ p.rep v
theorem enterC {w : World} {A : Around} {E : Value → Shared → Prop} {s : Shared} {K : Frag} {h₀ : Heap} {mg mb : Str → Option Value} {p : Program} {loose : List Str} {mean : ExcName → Option Value} {Q : Value → Shared → Prop} {name qual : Str} {params : Arguments} {body : List Stmt} {scope : Scope} {dV kV doc pm cdv ct oc : Value} {an od : Option Addr} {osl : Array (Option Value)} {f : Addr} {pos : List Value} {kw : List (Str × Value)} {binds : List (Str × Value)}
    (X : K.In h₀) (T : Top p loose mean mg mb h₀) (hs : s.heap = h₀)
    (ho : K.lookup f = some ⟨oc, od, .func (fnOf name qual params body scope dV kV doc pm an cdv ct), osl⟩) (hcd : codeIn K cdv qual = true) (hroom : A.depth < recursionLimit)
    (hbind : BindsTo s (fnOf name qual params body scope dV kV doc pm an cdv ct) ⟨pos, kw⟩ binds) (hkind : (binds.all fun y => scope.names.lookup y.1 == some .local || scope.names.lookup y.1 == some .cell) = true)
    (hnd : ((cellsFrom 0 scope.names []).map (·.1)).Nodup)
    (h : ∀ h₁ tk₁ cells, Fr h₀ h₀.objs.size h₁ (bindL (envOfC qual scope h₀.objs.size f cdv).kindOf binds fun _ => none) → News h₀ h₀.objs.size h₁ cells →
      CellsAre (bindC (envOfC qual scope h₀.objs.size f cdv).kindOf binds fun _ => none) (cellsFrom (h₀.objs.size + 1) scope.names []) cells →
      wpAny (model PySem.Challenge.pw_in0083_01 w) (A.deeper (envOfC qual scope h₀.objs.size f cdv)) (execs body (envOfC qual scope h₀.objs.size f cdv))
        (fun fl s' => Q (match fl with | .ret v => v | _ => .none) s')
        (fun e s' => wpAny (model PySem.Challenge.pw_in0083_01 w) (A.deeper (envOfC qual scope h₀.objs.size f cdv)) (leaving (envOfC qual scope h₀.objs.size f cdv) e) (fun _ s'' => E e s'') (fun e' s'' => E e' s'') s')
        { s with heap := h₁, toks := tk₁ })
    (hco : scope.isCoroutine = false) (hgen : scope.isGenerator = false) (hk : scope.kind = .function) : wpAny (model PySem.Challenge.pw_in0083_01 w) A (call (.ref f) pos kw) Q E s := by
  subst hs
  refine wpAny_call ?_
  refine codeAny_call_function hroom (X _ _ ho) rfl hco hgen rfl (codeRec_of X hcd) (hbind _ _ _ _ ?_)
  refine wpAny_newFunctionEnv_cells hk (kindsX hkind _) fun env' he s' x => ?_
  subst he
  refine ⟨T.nolimit.keeps x.toInCall.keep, codeAny_func ?_⟩
  obtain ⟨h₁, tk, rfl, _⟩ := x.done
  have hk₁ := x.toInCall.keep
  obtain ⟨cells, NC, Y⟩ := Cl.news (h₀ := s.heap) (Nat.le_refl _) fun n c hm => ⟨x.cell n c (lookup_of_mem_nodup (cellsFrom_names scope.names 0 (s.heap.objs.size + 1) [] [] rfl ▸ hnd) hm), x.above n c hm⟩
  exact h h₁ tk cells ⟨x.toInCall.ns, fun b o e => hk₁ b o e, Nat.le_refl _⟩ NC Y
theorem Con.ofC {F : FI} {N : Nat} {vs : List Value} {P : Heap → Prop} {R : Heap → Value → Heap → Prop} {name : Str} {body : List Stmt} {params : Arguments} {dV kV doc pm ct oc : Value} {an od : Option Addr} {osl : Array (Option Value)} {binds : List (Str × Value)} {ps : List PV} {x1 x2 : Str}
    (ho : ∀ q, (Mine.hd.heap_39 q).lookup F.f = some ⟨oc, od, .func (fnOf name F.qual params body F.scope dV kV doc pm an F.cd ct), osl⟩) (hcd : ∀ q, codeIn (Mine.hd.heap_39 q) F.cd F.qual = true)
    (hbind : ∀ s, BindsTo s (fnOf name F.qual params body F.scope dV kV doc pm an F.cd ct) ⟨vs, []⟩ binds) (hkind : (binds.all fun y => F.scope.names.lookup y.1 == some .local || F.scope.names.lookup y.1 == some .cell) = true) (hnd : ((cellsFrom 0 F.scope.names []).map (·.1)).Nodup)
    (hgen : F.scope.isGenerator = false) (hco : F.scope.isCoroutine = false) (hcs : ∀ n, cellsFrom n F.scope.names [] = [(x1, n + 1), (x2, n)]) (hcm : ∀ L, bindC (envOfC F.qual F.scope L F.f F.cd).kindOf binds (fun _ => none) x1 = none ∧ bindC (envOfC F.qual F.scope L F.f F.cd).kindOf binds (fun _ => none) x2 = none)
    (hf : ∀ L, frep F.locals ps (bindL (envOfC F.qual F.scope L F.f F.cd).kindOf binds fun _ => none))
    (k : ∀ (c : Cx F N) (Φ : Flow → Shared → Prop) (E : Value → Shared → Prop), Rets c R Φ → PassesOwn c.M c.A c.env E → P c.h₀ → Sx c ps [(c.L + 2, cell0), (c.L + 1, cell0)] body Φ E) (hmk : F.en = fun L => envOfC F.qual F.scope L F.f F.cd := by rfl) : Con (N + 1) F.f vs P R := by
  obtain ⟨qual, scope, f, cd, locals, en, kf, lk, nd, hsc, hgl, hbu⟩ := F
  dsimp only at hmk
  subst hmk
  intro w p loose mean mg mb A h₀ s Q E X T hs hd hu hA hP hret
  have hd' : (A.deeper (envOfC qual scope h₀.objs.size f cd)).depth + N < recursionLimit := room_d hd
  have hu' : (A.deeper (envOfC qual scope h₀.objs.size f cd)).units + N * 100 < cLine := room_u hu
  refine enterC X T hs (ho _) (hcd _) (by omega) (hbind s) hkind hnd (fun h₁ tk₁ cells F₁ N₁ Y => ?_) hco hgen kf
  rw [hcs] at Y
  obtain ⟨o1, o2, rfl, d1, d2⟩ := CellsAre.two Y
  rw [(hcm _).1] at d1
  rw [(hcm _).2] at d2
  let c : Cx ⟨qual, scope, f, cd, locals, _, kf, lk, nd, hsc, hgl, hbu⟩ N := { w, p, loose, mean, mg, mb, A := A.deeper (envOfC qual scope h₀.objs.size f cd), h₀, L := h₀.objs.size, s, X, T, hh := hA, hd := hd', hu := hu' }
  exact (k c _ _ (fun v h' tk' st r => hret v h' tk' st r) PassesOwn.leaving hP).run h₁ tk₁ ⟨_, _, F₁, N₁, hf _, ⟨⟨rfl, d1⟩, ⟨rfl, d2⟩, trivial⟩, List.nodup_cons.mpr ⟨fun hm => absurd (List.mem_singleton.mp hm) (Nat.succ_ne_self _), List.nodup_cons.mpr ⟨nofun, .nil⟩⟩⟩
section
variable {F : FI} {N : Nat} {c : Cx F N} {ps : List PV} {W : Led} {Φ : Flow → Shared → Prop} {E : Value → Shared → Prop} {rest : List Stmt}
theorem Ep.cell {x : Str} {pos : Pos} {a : Addr} {p : PV} (hx : F.scope.names.lookup x = some .cell) (hc : c.env.cells.lookup x = some a) (hm : (a, cellV p) ∈ W) (hd : (x == ("__debug__" : Str)) = false := by decide) : Ep c ps W (.Name x pos) p := by
  intro h tk Q E i hq
  obtain ⟨ob, g, v, d, r⟩ := i.get hm
  exact wpAny_Name (wpAny_loadName_cell c.kk (c.ko hx) hc ⟨ob, g, d⟩ (hq _ _ _ r i)) hd
theorem lrep_updG {a : Addr} {x x' : AO} : ∀ {W W' : Led} {news : List (Addr × Obj)}, UpdL a x x' W W' → lrep W news → (W.map (·.1)).Nodup → ∃ ob, x.rep ob ∧ (a, ob) ∈ news ∧ ∀ ob', x'.rep ob' → ∃ news', lrep W' news' ∧ ∀ q ∈ news', q = (a, ob') ∨ (q ∈ news ∧ q.1 ≠ a) := by
  intro W W' news u l nd
  obtain ⟨ob, h1, h2, h3⟩ := u.upd nd l
  refine ⟨ob, h1, h2, fun ob' hr => ?_⟩
  obtain ⟨news', U, l'⟩ := h3 ob' hr
  refine ⟨news', l', ?_⟩
  clear h1 h2 h3 l l' hr u nd
  induction U with
  | head hne =>
    intro q hq
    rcases List.mem_cons.mp hq with rfl | hq
    · exact .inl rfl
    · exact .inr ⟨.tail _ hq, hne q hq⟩
  | tail hne _ ih =>
    intro q hq
    rcases List.mem_cons.mp hq with rfl | hq
    · exact .inr ⟨.head _, hne⟩
    · exact (ih q hq).imp id fun z => ⟨.tail _ z.1, z.2⟩
theorem Sx.assignCell {x : Str} {px pos : Pos} {e : PySem.Expr} {a : Addr} {o : AO} {p : PV} {W' : Led} (hx : F.scope.names.lookup x = some .cell) (hc : c.env.cells.lookup x = some a) (h : Ep c ps W e p) (u : UpdL a o (cellV p) W W') (ho : ∀ ob, o.rep ob → ∃ v, ob.data = .cell v) (k : Sx c ps W' rest Φ E)
    (hw : swapsWith e (some (.Name x px)) pos.line c.env = pure false := by rfl) : Sx c ps W (.Assign [.Name x px] e pos :: rest) Φ E := by
  refine ⟨fun hh tk i => wpAny_execs_cons (wpAny_Assign_Name (h _ _ _ _ i fun v h' tk' r i' => ?_) hw)⟩
  obtain ⟨m, news, hF, hN, hf, hl, nd⟩ := i'
  obtain ⟨ob, h1, h2, h3⟩ := lrep_updG u hl nd
  obtain ⟨v0, d0⟩ := ho ob h1
  refine wpAny_storeName_cell c.kk (c.ko hx) hc ⟨ob, (hN _ h2).1, d0⟩ fun h3' hv hs => ?_
  obtain ⟨ob', g', d'⟩ := hv
  obtain ⟨news', l', hn'⟩ := h3 ob' ⟨v, d', r⟩
  have hna := hN _ h2
  refine k.run _ _ ⟨m, news', ⟨hF.ns.sameBut hs (Ne.symm hna.2.1), fun b o e => (hs.2 b fun q => by rw [q, hna.2.2] at e; cases e).trans (hF.keep b o e), hF.above⟩, fun q hq => ?_, hf, l', by rw [u.fst.1]; exact nd⟩
  rcases hn' q hq with rfl | ⟨hq, hne⟩
  · exact ⟨g', hna.2⟩
  · exact ⟨(hs.2 _ hne).trans (hN q hq).1, (hN q hq).2⟩
theorem Ek.cell {x : Str} {pos : Pos} {a : Addr} {p : PV} (hx : F.scope.names.lookup x = some .cell) (hc : c.env.cells.lookup x = some a) (hb : ∃ ob, c.h₀.get? a = some ob ∧ (cellV p).rep ob) (hd : (x == ("__debug__" : Str)) = false := by decide) : Ek c ps (.Name x pos) p.k := by
  intro h tk Q E i hq
  obtain ⟨ob, g, v, d, r⟩ := hb
  obtain ⟨_, _, hF, _⟩ := _root_.id i
  exact wpAny_Name (wpAny_loadName_cell c.kk (c.ko hx) hc ⟨ob, hF.keep _ _ g, d⟩ (hq _ _ _ (fun _ _ e => e) i r)) hd
noncomputable def lstA (l : List Str) : AO := .pred fun ob => ∃ (ys : List (Str × Tok)) (n : Nat), ob.cls = .type "list" ∧ ob.data = .seq (strValues ys).toArray n ∧ ys.map (·.1) = l
noncomputable def IsStrs (o : AO) (l : List Str) : Prop := ∀ ob, o.rep ob → (lstA l).rep ob
theorem IsStrs.lst {l : List Str} : IsStrs (lstA l) l := fun _ h => h
theorem IsStrs.strs {l : List Str} : IsStrs (.strs l) l := fun ob ⟨ys, n, e, h⟩ => ⟨ys, n, by rw [e], by rw [e], h⟩
theorem IsStrs.obj {o : AO} {ao : Obj} {l : List Str} (h : IsStrs o l) (r : o.rep ao) : IsStrs (.obj ao) l := fun ob e => by
  have e' : ob = ao := e
  rw [e']; exact h _ r
theorem In.lst {h : Heap} {a : Addr} {o : AO} {l : List Str} (i : In c ps W h) (hm : (a, o) ∈ W) (hs : IsStrs o l) : ∃ ys : List (Str × Tok), h.IsList a (strValues ys).toArray ∧ ys.map (·.1) = l := by
  obtain ⟨ob, g, r⟩ := i.get hm
  obtain ⟨ys, n, e1, e2, e3⟩ := hs ob r
  exact ⟨ys, ⟨ob, g, e1, n, e2⟩, e3⟩
noncomputable def ElK (c : Cx F N) (ps : List PV) (e : PySem.Expr) (l : List Str) : Prop :=
  ∀ (h : Heap) (tk : Nat) (Q E : Value → Shared → Prop), In c ps [] h → (∀ D ys h' tk', ys.map (·.1) = l → h.StaysIn h' → h.get? D = none → h'.IsList D (strValues ys).toArray → Q (.ref D) (c.st h' tk')) → wpAny c.M c.A (eval e c.env) Q E (c.st h tk)
theorem ElK.split {pl : Sem Bool} {o e : PySem.Expr} {ap pos : Pos} {x y : Str} (h1 : Ek c ps o (PV.str x).k) (h2 : Ek c ps e (PV.str y).k) (hy : (y.length == 0) = false) (hx : x.length + 2 ≤ sizeLine) (he : McOk c o (Str.ofString "split") ap pos [e] pl := by exact rfl) (hst : starEach [e] c.env = (false, eval e c.env) :: starEach [] c.env := by rfl) :
    ElK c ps (.Call (.Attribute o (Str.ofString "split") ap) [e] [] pos) (Txt.split x y) := by
  intro h tk Q E i hq
  refine MethodCall_ (h1 _ _ _ _ i fun v h' tk' s1 i1 r1 => ?_) he
  obtain ⟨t, rfl⟩ := r1
  refine GM.split (callWith_method1 (args_cons (h2 _ _ _ _ i1 fun u h2' tk2 s2 i2 r2 => args_nil ?_) hst) hst)
  obtain ⟨t2, rfl⟩ := r2
  exact split_fresh (s := c.st h2' tk2) hy (fun D h3 k l e st hD hl => hq D l _ _ e (fun b o q => st b o (s2 b o (s1 b o q))) (by
    cases q : h.get? D with
    | none => rfl
    | some o => have := s2 _ _ (s1 _ _ q); rw [show h2'.get? D = none from hD] at this; cases this) hl) hx
theorem ElK.lcomp {sc : Scope} {cl : List (Str × Addr)} {x : Str} {ifs : List PySem.Expr} {iter : PySem.Expr} {Fc : FI} {q : Str → Bool} {px px2 pos : Pos} {a : Addr} {l : List Str} (s : ScOk c.env sc cl x iter) (hi : Ek c ps iter (PV.ref a).k) (hb : ∃ ob, c.h₀.get? a = some ob ∧ (lstA l).rep ob) (hn : l.length ≤ 1000) (hen : ∀ C, Fc.en C = compEnvC sc cl C c.env) (hlo : Fc.locals = [x])
    (tests : ∀ (c' : Cx Fc N) (b : Str), b ∈ l → c.h₀.StaysIn c'.h₀ → Ts c' [.str b] ifs (q b)) :
    ElK c ps (.ListComp (.Name x px2) [⟨.Name x px, iter, ifs, 0⟩] sc pos) (l.filter q) := by
  intro h tk Q E i hq
  refine lc_post s (hi _ _ _ _ i fun v h' tk' s1 i' hr => ?_)
  cases hr
  obtain ⟨ob, g, ys, n, c1, d1, rfl⟩ := hb
  obtain ⟨m, news, hF, hN, hf, hl, nd⟩ := _root_.id i'
  rw [List.length_map] at hn
  have hls : h'.IsList a (strValues ys).toArray := ⟨_, hF.keep _ _ g, c1, n, d1⟩
  have hyl : (strValues ys).length ≤ 1000 := by unfold strValues; rw [List.length_map]; exact hn
  refine wpAny_pyIter_list (s := c.st h' tk') hls (crest (Pv := (· ∈ strValues ys)) (tp := isS q) (tf := StrV strOf) ⟨hen, hlo, ?_⟩ (CWalk.list hls hyl) (fun j v hv => List.mem_of_getElem? (i := j) (by rwa [List.getElem?_toArray] at hv)) s hF hN fun D n' h2 tk2 zs vs F2 N2 hne st hD hlen hP hp => ?_)
  · intro c' v hv st
    obtain ⟨z, hz, rfl⟩ := List.mem_map.mp hv
    exact ⟨.str z.1, ⟨_, rfl⟩, tests c' z.1 (List.mem_map_of_mem hz) (fun b o e => st _ _ (hF.keep _ _ e)), fun _ => (Ek.name (by rw [hlo]; exact .here)).keep⟩
  · obtain rfl := eq_of_at hlen fun j v e => by have := hP j v e; rwa [List.getElem?_toArray] at this
    obtain ⟨l', rfl, e⟩ := strV_arr hp
    exact hq D l' h2 tk2 (by rw [e, strOf_filter]) (fun b o q => st b o (s1 b o q)) (none_of s1 hD) ⟨_, (N2 _ (.head _)).1, rfl, n', rfl⟩
theorem nodup3 {D T1 T2 : Addr} {l : List Addr} (a2 : T1 ≠ D) (b2 : T2 ≠ D) (h12 : T1 ≠ T2) (hD : D ∉ l) (h1 : T1 ∉ l) (h2 : T2 ∉ l) (nd : l.Nodup) : (D :: T1 :: T2 :: l).Nodup :=
  List.nodup_cons.mpr ⟨fun hm => by
    rcases List.mem_cons.mp hm with e | hm
    · exact a2 e.symm
    rcases List.mem_cons.mp hm with e | hm
    · exact b2 e.symm
    · exact hD hm, List.nodup_cons.mpr ⟨fun hm => by
    rcases List.mem_cons.mp hm with e | hm
    · exact h12 e
    · exact h1 hm, List.nodup_cons.mpr ⟨h2, nd⟩⟩⟩
noncomputable def LstD (h : Heap) (D : Addr) (G : Value → Array Value → Prop) (h' : Heap) (v y : Value) : Prop := ∃ T its, y = .ref T ∧ h.get? T = Option.none ∧ T ≠ D ∧ h'.IsList T its ∧ G v its
noncomputable def ElO (G : Value → Array Value → Prop) (v : Value) (s₃ : Shared) (y : Value) (s₄ : Shared) : Prop := (∃ T its, y = .ref T ∧ s₃.heap.get? T = Option.none ∧ s₄.heap.IsList T its ∧ G v its) ∧ Keeps s₃ s₄
section
variable {sc : Scope} {cl : List (Str × Addr)} {x y : Str} {elt iter : PySem.Expr} {Fc : FI} {px pos py : Pos} {h : Heap} {Pv : Value → Prop} {o : Obj} {fp : List Addr} {n tk : Nat} {P : Nat → Value → Prop} {St : Nat → Heap → Prop} {G : Value → Array Value → Prop} {m : Str → Option Value} {news : List (Addr × Obj)}
theorem CEl.quietO (k : CEl c h sc cl x [] elt Fc Pv (fun _ => true) (ElO G)) (i : c.h₀.StaysIn h) (hPv : ∀ j v, P j v → Pv v) : QuietOnCO PySem.Challenge.pw_in0083_01 c.w c.A c.env sc cl x [] elt [h.objs.size] P (fun _ => true) G (c.st (h.push o) tk) :=
  ⟨fun _ _ _ _ _ E' hC hP hn hx hk _ => (k.go i (hPv _ _ hP) hC hn hx hk).1 E', fun _ _ _ _ _ E' hC hP hp hn hx hk _ => (k.go i (hPv _ _ hP) hC hn hx hk).2 hp E'⟩
theorem crestO {Q : Shared → Prop} (k : CEl c h sc cl x [] elt Fc Pv (fun _ => true) (ElO G)) (w : CWalk c h o fp n P St) (hlive : ∀ i h', St i h' → ∃ o, h'.get? h.objs.size = some o) (hPv : ∀ j v, P j v → Pv v) (s : ScOk c.env sc cl x iter) (hy : y ∈ F.locals) (F₁ : Fr c.h₀ c.env.locals h m) (N₁ : News c.h₀ c.env.locals h news)
    (done : ∀ D n' h' tk' ys (vs : List Value), Fr c.h₀ c.env.locals h' (fun z => if z = y then some (.ref D) else m z) → News c.h₀ c.env.locals h' ((D, { cls := .type "list", data := .seq ys n' }) :: news) → (∀ q ∈ news, q.1 ≠ D) → vs.length = n → (∀ j v, vs[j]? = some v → P j v) → Paired (LstD h D G h') vs ys.toList → ys.toList.Pairwise (· ≠ ·) → Q (c.st h' tk')) :
    CRest c (some (PySem.assign (.Name y py) c.env)) elt [⟨.Name x px, iter, [], 0⟩] sc cl pos (fun _ s' => Q s') E (.ref h.objs.size) (c.st (h.push o) tk) := by
  refine comp_block_walkCO (RR := fun acc C => compPost c.M c.A E (some (PySem.assign (.Name y py) c.env)) (fun _ s' => Q s') acc C) w.W w.hsz (fun _ => true) G (fun i h' st b hb => List.mem_singleton.mp hb ▸ hlive i h' st) s.hcell s.hkind s.hx w.hst w.hfp (k.quietO F₁.keep hPv) ?_
  intro D C h' tk' m' ys vs hD hC hDC hn hl ⟨n', hpl⟩ hlen hP hF hpw hk
  have hDs := none_of push_stays hD
  have hCs := none_of push_stays hC
  have st := of_push hk
  refine store_y hy (F₁.ns.keeps st) (ns_ne F₁.ns hCs) hn fun h₃ tk₃ n₃ e₃ => ?_
  obtain ⟨F2, N2, hne⟩ := new_led F₁ N₁ (fun b o hb e => e₃ b o hb (ne_none e hCs) (st b o e)) n₃ hDs (e₃ _ _ (ns_ne F₁.ns hDs) hDC hpl)
  rw [List.filter_eq_self.mpr (fun _ _ => rfl)] at hF
  refine done D n' h₃ tk₃ ys vs F2 N2 hne hlen hP (hF.mono fun v y hy => ?_) hpw
  obtain ⟨T, its, rfl, h1, hTC, hTw, hTD, hTl, hG⟩ := hy
  exact ⟨T, its, rfl, none_of push_stays h1, hTD, hTl.at fun o e => e₃ _ _ (ns_ne F₁.ns (none_of push_stays h1)) hTC e, hG⟩
theorem CWalk.tuple {l : Addr} {vs : List Value} (hl : h.IsTuple l vs.toArray) (hn : vs.length ≤ 1000) : CWalk c h { cls := .type "tuple_iterator", data := .fields #[.ref l, .int 0 0] } [h.objs.size, l] vs.length (fun i v => vs.toArray[i]? = some v) (fun i h' => h'.IsTupleIter h.objs.size l i ∧ h'.IsTuple l vs.toArray) := by
  obtain ⟨ol, hol, _⟩ := id hl
  have hlt : l < h.objs.size := Heap.lt_size hol
  have W := Walks.tuple (prog := PySem.Challenge.pw_in0083_01) (w := c.w) c.hh h.objs.size l (Nat.ne_of_lt hlt) vs.toArray
  rw [List.size_toArray] at W
  exact ⟨W, ⟨⟨_, Heap.get?_push_size _ rfl, rfl, rfl⟩, hl.at fun o e => Heap.get?_push_of_some _ e⟩, push_lt hlt, by rw [sizeLine_eq]; exact Nat.le_trans hn (by decide)⟩
noncomputable def SRest (c : Cx F N) (elt : PySem.Expr) (gs : List Comprehension) (sc : Scope) (cl : List (Str × Addr)) (pos : Pos) (Q : Value → Shared → Prop) (E : Value → Shared → Prop) (it : Value) (s₂ : Shared) : Prop :=
  wpAny c.M c.A (newSet (.type "set")) (fun acc s₃ => wpAny c.M c.A (newFunctionEnv sc c.env.globals cl [] c.env.qual Option.none .none (some c.env)) (fun cenv s₄ =>
    codeAny c.M c.A (.compStart (.SetComp elt gs sc pos) 0 it acc { cenv with scope := relabel sc c.env }) (compPost c.M c.A E Option.none Q acc cenv.locals) s₄) E s₃) E s₂
theorem sc_post {Q E : Value → Shared → Prop} {s : Shared} (k : ScOk c.env sc cl x iter) (h : wpAny c.M c.A (eval iter c.env) (fun xv s₁ => wpAny c.M c.A (pyIter xv) (SRest c elt [⟨.Name x px, iter, [], 0⟩] sc cl pos Q E) E s₁) E s) :
    wpAny c.M c.A (eval (.SetComp elt [⟨.Name x px, iter, [], 0⟩] sc pos) c.env) Q E s := by
  rw [arm_eval_SetComp]
  exact wpAny_comprehension_free (use := Option.none) rfl k.hs k.hclos k.hkind k.hnames h
theorem srest {Q : Value → Shared → Prop} (w : CWalk c h o fp n P St) (hPv : ∀ j v, P j v → Pv v) (s : ScOk c.env sc cl x iter) (F₁ : Fr c.h₀ c.env.locals h m) (N₁ : News c.h₀ c.env.locals h news)
    (elts : ∀ C v (s₃ : Shared) m₃ (E' : Value → Shared → Prop), Pv v → Fr c.h₀ C s₃.heap m₃ → m₃ x = some v → News c.h₀ C s₃.heap news → wpAny c.M c.A (eval elt (compEnvC sc cl C c.env)) (fun y s₄ => y = .bool true ∧ Keeps s₃ s₄) E' s₃)
    (done : ∀ D h' tk', h.StaysIn h' → h'.get? D = some (setObj (!c.w.params.followText "set-order") n) → Q (.ref D) (c.st h' tk')) :
    SRest c elt [⟨.Name x px, iter, [], 0⟩] sc cl pos Q E (.ref h.objs.size) (c.st (h.push o) tk) := by
  refine newSet_obj (wpAny_newFunctionEnv s.hcell (fun _ hy => nomatch hy) (fun h₁ hns₁ hsb₁ => ?_) s.hkind)
  dsimp only at hns₁ hsb₁ ⊢
  have hnew : ((h.push o).push (setObj (!c.w.params.followText "set-order") 0)).get? (h.push o).objs.size = some (setObj (!c.w.params.followText "set-order") 0) := Heap.get?_push_size _ rfl
  generalize hH2 : (h.push o).push (setObj (!c.w.params.followText "set-order") 0) = H2 at hns₁ hsb₁ hnew ⊢
  have old2 : (h.push o).StaysIn H2 := hH2 ▸ push_stays
  have hC : H2.objs.size = (h.push o).objs.size + 1 := by rw [← hH2, Heap.size_push]
  have hDC : (h.push o).objs.size ≠ H2.objs.size := by rw [hC]; exact Nat.ne_of_lt (Nat.lt_succ_self _)
  have below : ∀ {b o'}, (h.push o).get? b = some o' → b ≠ H2.objs.size := fun e => ne_none (old2 _ _ e) (heap_next _)
  have hDf : (h.push o).objs.size ∉ fp := fun hm => Nat.lt_irrefl _ (w.hfp _ hm)
  have hCf : H2.objs.size ∉ fp := fun hm => by have := w.hfp _ hm; rw [hC] at this; exact Nat.lt_irrefl _ (Nat.lt_of_succ_lt this)
  have old : (h.push o).StaysIn h₁ := fun b o' e => hsb₁.extBut b o' (below e) (push_stays _ _ (old2 _ _ e))
  have hst₁ : St 0 h₁ := w.W.frame _ _ _ w.hst fun b _ o' e => old b o' e
  have loop : codeAny c.M c.A (.compLoop (.SetComp elt [⟨.Name x px, iter, [], 0⟩] sc pos) 0 (.ref h.objs.size) (.ref (h.push o).objs.size) (compEnvC sc cl H2.objs.size c.env)) (compPost c.M c.A E Option.none Q (.ref (h.push o).objs.size) H2.objs.size) { c.st (h.push o) tk with heap := h₁, toks := tk + ([] : List (Str × Value)).length } := by
    refine compLoop_true (cenv := compEnvC sc cl H2.objs.size c.env) w.W (lookup_relabel_local s.hx) (by simp [compEnvC, relabel, s.hkind]) hDC hDf hCf hst₁ (hsb₁.extBut _ _ hDC (push_stays _ _ hnew)) hns₁ (fun i v s₃ m₃ hv hn hx hk => ?_) fun h' tk' m' hn ha hk => ?_
    · have st : h.StaysIn s₃.heap := of_push fun b o' hb e => hk b o' (below e) hb (ne_none e (heap_next _)) (old _ _ e)
      have lt : ∀ {b o'}, h.get? b = some o' → b ≠ H2.objs.size := fun e => below (push_stays _ _ e)
      have hCh : h.objs.size ≤ H2.objs.size := by rw [hC, Heap.size_push]; exact Nat.le_trans (Nat.le_succ _) (Nat.le_succ _)
      exact elts _ v s₃ m₃ _ (hPv _ _ hv) ⟨hn, fun b o' e => st b o' (F₁.keep b o' e), Nat.le_trans (Nat.le_trans F₁.above (Nat.le_of_lt F₁.ns.lt)) hCh⟩ hx fun q hq => ⟨st _ _ (N₁ q hq).1, lt (N₁ q hq).1, (N₁ q hq).2.2⟩
    · refine ⟨m', hn, fun h'' hs => ?_⟩
      have st : h.StaysIn h' := of_push fun b o' hb e => hk b o' (below e) hb (ne_none e (heap_next _)) (old _ _ e)
      exact done _ h'' _ (fun b o' e => hs.extBut b o' (below (push_stays _ _ e)) (st b o' e)) (hs.extBut _ _ hDC ha)
  exact compStart_set loop (w.W.self 0 _ _ _ hst₁ loop)
end
noncomputable def Two (a : Addr) (o : AO) (q1 q2 : PV) : Prop := ∀ ob, o.rep ob → ∃ v1 v2, q1.rep v1 ∧ q2.rep v2 ∧ ∀ h : Heap, h.get? a = some ob → h.IsList a #[v1, v2] ∨ h.IsTuple a #[v1, v2]
theorem paired2 {α β : Type} {R : α → β → Prop} {a b : α} {l : List β} (h : Paired R [a, b] l) : ∃ c d, l = [c, d] ∧ R a c ∧ R b d := by
  cases h with
  | cons h1 t => cases t with
    | cons h2 t => cases t with
      | nil => exact ⟨_, _, rfl, h1, h2⟩
theorem In.newL2 {h h' : Heap} {D T1 T2 : Addr} {n : Nat} {m m' : Str → Option Value} {news : List (Addr × Obj)} {ps' : List PV} {ys1 ys2 : List (Str × Tok)} (hF₀ : Fr c.h₀ c.env.locals h m) (hN₀ : News c.h₀ c.env.locals h news) (hl : lrep W news) (nd : (W.map (·.1)).Nodup) (F2 : Fr c.h₀ c.env.locals h' m') (N2 : News c.h₀ c.env.locals h' ((D, { cls := .type "list", data := .seq #[.ref T1, .ref T2] n }) :: news)) (hf : frep F.locals ps' m') (hne : ∀ q ∈ news, q.1 ≠ D)
    (a1 : h.get? T1 = none) (a2 : T1 ≠ D) (a3 : h'.IsList T1 (strValues ys1).toArray) (b1 : h.get? T2 = none) (b2 : T2 ≠ D) (b3 : h'.IsList T2 (strValues ys2).toArray) (h12 : T1 ≠ T2) : In c ps' ((D, .list [.ref T1, .ref T2]) :: (T1, lstA (ys1.map (·.1))) :: (T2, lstA (ys2.map (·.1))) :: W) h' := by
  obtain ⟨o1, g1, c1, n1, d1⟩ := a3
  obtain ⟨o2, g2, c2, n2, d2⟩ := b3
  have hnm : ∀ {T}, (∀ q ∈ news, q.1 ≠ T) → T ∉ W.map (·.1) := fun {T} h1 hm => by
    rw [lrep_map hl] at hm
    obtain ⟨q, hq, e⟩ := List.mem_map.mp hm
    exact h1 q hq e
  refine ⟨m', (D, _) :: (T1, o1) :: (T2, o2) :: news, F2, fun q hq => ?_, hf, ⟨⟨rfl, [.ref T1, .ref T2], n, rfl, rfl, rfl, trivial⟩, ⟨rfl, ys1, n1, c1, d1, rfl⟩, ⟨rfl, ys2, n2, c2, d2, rfl⟩, hl⟩, ?_⟩
  · rcases List.mem_cons.mp hq with rfl | hq
    · exact N2 _ (.head _)
    rcases List.mem_cons.mp hq with rfl | hq
    · exact ⟨g1, ns_ne hF₀.ns a1, none_of hF₀.keep a1⟩
    rcases List.mem_cons.mp hq with rfl | hq
    · exact ⟨g2, ns_ne hF₀.ns b1, none_of hF₀.keep b1⟩
    · exact N2 q (.tail _ hq)
  · refine nodup3 a2 b2 h12 (hnm hne) (hnm fun q hq => ne_none (hN₀ q hq).1 a1) (hnm fun q hq => ne_none (hN₀ q hq).1 b1) nd
theorem Sx.assignL2 {sc : Scope} {cl : List (Str × Addr)} {x y : Str} {elt iter : PySem.Expr} {Fc : FI} {px pos py spos : Pos} {a : Addr} {o : AO} {q1 q2 : PV} {fV : Value → List Str} {l1 l2 : List Str} {ps' : Addr → List PV} (s : ScOk c.env sc cl x iter) (hi : Ep c ps W iter (.ref a)) (hm : (a, o) ∈ W) (h2 : Two a o q1 q2) (hf1 : ∀ v, q1.rep v → fV v = l1) (hf2 : ∀ v, q2.rep v → fV v = l2) (hen : ∀ C, Fc.en C = compEnvC sc cl C c.env) (hlo : Fc.locals = [x])
    (elts : ∀ (c' : Cx Fc N) (u : PV) (v : Value), u = q1 ∨ u = q2 → u.rep v → (∀ a o, (a, o) ∈ W → ∃ ob, c'.h₀.get? a = some ob ∧ o.rep ob) → ElK c' [u] elt (fV v)) (hset : ∀ D, SetAt F.locals ps y (.ref D) (ps' D)) (k : ∀ D T1 T2, Sx c (ps' D) ((D, .list [.ref T1, .ref T2]) :: (T1, lstA l1) :: (T2, lstA l2) :: W) rest Φ E)
    (hsw : swapsWith (.ListComp elt [⟨.Name x px, iter, [], 0⟩] sc pos) (some (.Name y py)) spos.line c.env = pure true := by rfl) : Sx c ps W (.Assign [.Name y py] (.ListComp elt [⟨.Name x px, iter, [], 0⟩] sc pos) spos :: rest) Φ E := by
  refine ⟨fun h tk i => ?_⟩
  refine wpAny_execs_cons (la_post s hsw (hi _ _ _ _ i fun v h' tk' hr i' => ?_))
  cases hr
  obtain ⟨ob, g1, g2⟩ := i'.get hm
  obtain ⟨v1, v2, r1, r2, hw⟩ := h2 ob g2
  obtain ⟨m, news, hF, hN, hf, hl, nd⟩ := _root_.id i'
  have hel : CEl c h' sc cl x [] elt Fc (· ∈ [v1, v2]) (fun _ => true) (ElO fun v its => ∃ ys : List (Str × Tok), its = (strValues ys).toArray ∧ ys.map (·.1) = fV v) := ⟨hen, hlo, fun c' v hv st => by
    obtain ⟨u, hu, hur⟩ : ∃ u, (u = q1 ∨ u = q2) ∧ u.rep v := by
      rcases List.mem_cons.mp hv with rfl | hv
      · exact ⟨q1, .inl rfl, r1⟩
      · rw [List.mem_singleton.mp hv]; exact ⟨q2, .inr rfl, r2⟩
    exact ⟨u, hur, Ts.nil, fun _ h tk E' j => elts c' u v hu hur (fun a o ho => by
      obtain ⟨ob, e1, e2⟩ := i'.get ho
      exact ⟨ob, st _ _ e1, e2⟩) h tk _ E' j fun D ys h4 tk4 e st4 hD hL => ⟨⟨D, _, rfl, hD, hL, ys, rfl, e⟩, h4, tk4, rfl, st4⟩⟩⟩
  have hPv : ∀ (j : Nat) v, [v1, v2].toArray[j]? = some v → v ∈ [v1, v2] := fun j v hv => List.mem_of_getElem? (i := j) (by rwa [List.getElem?_toArray] at hv)
  have fin : ∀ D n' h2 tk2 ys (vs : List Value), Fr c.h₀ c.env.locals h2 (fun z => if z = y then some (.ref D) else m z) → News c.h₀ c.env.locals h2 ((D, { cls := .type "list", data := .seq ys n' }) :: news) → (∀ q ∈ news, q.1 ≠ D) → vs.length = [v1, v2].length → (∀ (j : Nat) v, vs[j]? = some v → [v1, v2].toArray[j]? = some v) → Paired (LstD h' D (fun v its => ∃ ys : List (Str × Tok), its = (strValues ys).toArray ∧ ys.map (·.1) = fV v) h2) vs ys.toList → ys.toList.Pairwise (· ≠ ·) → wpAny c.M c.A (execs rest c.env) Φ E (c.st h2 tk2) := fun D n h2 tk2 ys vs F2 N2 hne hlen hP hp hpw => by
    obtain rfl := eq_of_at hlen fun j v e => by have := hP j v e; rwa [List.getElem?_toArray] at this
    obtain ⟨y1, y2, hys, ⟨T1, its1, rfl, t1, t2, t3, z1, rfl, e1⟩, ⟨T2, its2, rfl, t4, t5, t6, z2, rfl, e2⟩⟩ := paired2 hp
    have hys' : ys = #[.ref T1, .ref T2] := by rw [← Array.toArray_toList (xs := ys), hys]
    subst hys'
    rw [hf1 _ r1] at e1
    rw [hf2 _ r2] at e2
    have h12 : T1 ≠ T2 := fun e => by
      subst e
      exact absurd rfl ((List.pairwise_cons.mp hpw).1 _ (.head _))
    have := In.newL2 (ps' := ps' D) hF hN hl nd F2 N2 (frep_set (hset D) F.nd hf rfl) hne t1 t2 t3 t4 t5 t6 h12
    rw [e1, e2] at this
    exact (k D T1 T2).run _ _ this
  rcases hw h' g1 with hw | hw
  · exact wpAny_pyIter_list (s := c.st h' tk') hw (crestO hel (CWalk.list (vs := [v1, v2]) hw (Nat.le_of_ble_eq_true rfl)) (fun i h' hs => ⟨_, hs.1.choose_spec.1⟩) hPv s (hset 0).mem hF hN fin)
  · exact wpAny_pyIter_tuple (s := c.st h' tk') hw (crestO hel (CWalk.tuple (vs := [v1, v2]) hw (Nat.le_of_ble_eq_true rfl)) (fun i h' hs => ⟨_, hs.1.choose_spec.1⟩) hPv s (hset 0).mem hF hN fin)
theorem Sx.unpackSet {sc : Scope} {cl : List (Str × Addr)} {x y : Str} {elt iter : PySem.Expr} {Fc : FI} {px pos py pt spos : Pos} {k1 : Nat} {a : Addr} {o : AO} {q1 q2 : PV} {ps' : List PV} (s : ScOk c.env sc cl x iter) (hi : Ep c ps W iter (.ref a)) (hm : (a, o) ∈ W) (h2 : ∀ ob, o.rep ob → ∃ v1 v2, q1.rep v1 ∧ q2.rep v2 ∧ ∀ h : Heap, h.get? a = some ob → h.IsTuple a #[v1, v2]) (hen : ∀ C, Fc.en C = compEnvC sc cl C c.env) (hlo : Fc.locals = [x])
    (elts : ∀ (c' : Cx Fc N) (u : PV) (h : Heap) (tk : Nat) (Q E : Value → Shared → Prop), u = q1 ∨ u = q2 → In c' [u] W h → Q (.bool true) (c'.st h tk) → wpAny c'.M c'.A (eval elt c'.env) Q E (c'.st h tk)) (hset : SetAt F.locals ps y (.bool true) ps') (k : Sx c ps' W rest Φ E)
    (hw : swapsWithSole [.Tuple [.Name y py] k1 pt] (.SetComp elt [⟨.Name x px, iter, [], 0⟩] sc pos) spos.line c.env = pure false := by rfl) (hn : swappedStores [.Tuple [.Name y py] k1 pt] (.SetComp elt [⟨.Name x px, iter, [], 0⟩] sc pos) c.env = pure none := by rfl)
    (ha : assignEach [.Name y py] c.env = [(false, PySem.assign (.Name y py) c.env)] := by rfl) : Sx c ps W (.Assign [.Tuple [.Name y py] k1 pt] (.SetComp elt [⟨.Name x px, iter, [], 0⟩] sc pos) spos :: rest) Φ E := by
  refine ⟨fun h tk i => ?_⟩
  refine wpAny_execs_cons (Assign_Tuple (sc_post s (hi _ _ _ _ i fun v h' tk' hr i' => ?_)) hw hn)
  cases hr
  obtain ⟨ob, g1, g2⟩ := i'.get hm
  obtain ⟨v1, v2, r1, r2, hw2⟩ := h2 ob g2
  obtain ⟨m, news, hF, hN, hf, hl, nd⟩ := _root_.id i'
  refine wpAny_pyIter_tuple (s := c.st h' tk') (hw2 h' g1) (srest (Pv := (· ∈ [v1, v2])) (CWalk.tuple (vs := [v1, v2]) (hw2 h' g1) (Nat.le_of_ble_eq_true rfl)) (fun j v hv => List.mem_of_getElem? (i := j) (by rwa [List.getElem?_toArray] at hv)) s hF hN (fun C v s₃ m₃ E' hv F' hx N' => ?_) fun D h2 tk2 st hD => ?_)
  · obtain ⟨u, hu, hur⟩ : ∃ u, (u = q1 ∨ u = q2) ∧ u.rep v := by
      rcases List.mem_cons.mp hv with rfl | hv
      · exact ⟨q1, .inl rfl, r1⟩
      · rw [List.mem_singleton.mp hv]; exact ⟨q2, .inr rfl, r2⟩
    have he : (Cx.sub (Fc := Fc) c c.h₀ C s₃ c.X c.T).env = compEnvC sc cl C c.env := hen C
    obtain ⟨m5, n5, hF5, _, hf5, _, _⟩ := sub_in (c := c) (X := c.X) (T := c.T) (s₃ := s₃) hlo hen F' hx hur
    have := elts (Cx.sub c c.h₀ C s₃ c.X c.T) u s₃.heap s₃.toks (fun y s₄ => y = .bool true ∧ Keeps s₃ s₄) E' hu ⟨m5, news, hF5, by rw [he]; exact N', hf5, hl, nd⟩ ⟨rfl, s₃.heap, s₃.toks, rfl, fun _ _ e => e⟩
    rw [he] at this
    exact this
  · refine assign_set1 (s := { c.st h' tk' with heap := h2, toks := tk2 }) c.hh hD (by rw [ha]; rfl) (by rw [ha]; rfl) fun h3 k3 => ?_
    rw [ha]
    have i3 : In c ps W h3 := i'.stays fun b o e => k3 b o (st b o e)
    exact assignInOrder_cons (PyProof.Rows.assign_Name (i3.store (tk := tk2) hset rfl fun _ _ i4 => assignInOrder_nil (k.run _ _ i4)))
theorem FunOk.min2 {D a b : Addr} {o1 o2 : AO} {l1 l2 : List Str} (hD : (D, AO.list [.ref a, .ref b]) ∈ W) (h1 : (a, o1) ∈ W) (h2 : (b, o2) ∈ W) (s1 : IsStrs o1 l1) (s2 : IsStrs o2 l2) (hN : 1 ≤ N) : FunOk c ps W "min" [.ref D] (.ref (if cmpS true l2 l1 then b else a)) := by
  intro hh tk vs Q E i hr hq
  obtain ⟨v, rfl, rfl⟩ := reps1 hr
  obtain ⟨ob, g, vs2, n, rfl, hr2⟩ := i.get hD
  obtain ⟨u1, u2, rfl, rfl, rfl⟩ := reps2 hr2
  obtain ⟨ys1, L1, rfl⟩ := i.lst h1 s1
  obtain ⟨ys2, L2, rfl⟩ := i.lst h2 s2
  exact min_two (s := c.st hh tk) c.hh ⟨_, g, rfl, n, rfl⟩ L1 L2 (by have := c.hu; show c.A.units + 1 < cLine; lia) fun h' tk' st => hq _ _ _ rfl (i.stays st)
theorem FunOk.max2 {D a b : Addr} {o1 o2 : AO} {l1 l2 : List Str} (hD : (D, AO.list [.ref a, .ref b]) ∈ W) (h1 : (a, o1) ∈ W) (h2 : (b, o2) ∈ W) (s1 : IsStrs o1 l1) (s2 : IsStrs o2 l2) (hN : 1 ≤ N) : FunOk c ps W "max" [.ref D] (.ref (if cmpS false l2 l1 then b else a)) := by
  intro hh tk vs Q E i hr hq
  obtain ⟨v, rfl, rfl⟩ := reps1 hr
  obtain ⟨ob, g, vs2, n, rfl, hr2⟩ := i.get hD
  obtain ⟨u1, u2, rfl, rfl, rfl⟩ := reps2 hr2
  obtain ⟨ys1, L1, rfl⟩ := i.lst h1 s1
  obtain ⟨ys2, L2, rfl⟩ := i.lst h2 s2
  exact max_two (s := c.st hh tk) c.hh ⟨_, g, rfl, n, rfl⟩ L1 L2 (by have := c.hu; show c.A.units + 1 < cLine; lia) fun h' tk' st => hq _ _ _ rfl (i.stays st)
theorem Ep.itemG {v i : PySem.Expr} {pos : Pos} {a : Addr} {o : AO} {l : List Str} {k : Nat} {q : Str} (h1 : Ep c ps W v (.ref a)) (h2 : Ep c ps W i (.int k)) (hm : (a, o) ∈ W) (hs : IsStrs o l) (hk : k < 1000000) (hx : l[k]? = some q)
    (ho : ∀ t, subscripted i false (.ref a) (.int k t) = operate [.ref a, .int k t] (getItem (.ref a) (.int k t)) := by intro _; rfl) : Ep c ps W (.Subscript v i pos) (.str q) := by
  intro h tk Q E j hq
  refine Subscript_ (h1 _ _ _ _ j fun o' h' tk' r1 i1 => h2 _ _ _ _ i1 fun k' h2' tk2 r2 i2 => ?_)
  cases r1
  obtain ⟨t, rfl⟩ := r2
  obtain ⟨ys, L, rfl⟩ := i2.lst hm hs
  rw [List.getElem?_map, Option.map_eq_some_iff] at hx
  obtain ⟨z, hz, rfl⟩ := hx
  exact tail_any (L.typeIs (s := c.st h2' tk2)) PySem.F.slot_list_getitem.lookup (wpAny_getItem_list (s := c.st h2' tk2) (x := .str z.1 z.2) L (Int.natCast_nonneg _) (by lia) (by simp [strValues, hz]) (hq _ _ _ ⟨_, rfl⟩ i2)) (ho t)
theorem Ea.uptoG {v e : PySem.Expr} {p pos : Pos} {a : Addr} {o : AO} {l : List Str} {n : Nat} (h1 : Ep c ps W v (.ref a)) (h2 : Ep c ps W e (.int n)) (hm : (a, o) ∈ W) (hs : IsStrs o l) (hn : l.length ≤ 1000000)
    (ho : ∀ d, subscripted (.Slice Option.none (some e) Option.none p) false (.ref a) (.ref d) = operate [.ref d, .ref a] (getItem (.ref a) (.ref d)) := by intro _; rfl) (ht : ∀ r, letTemporaryGo v (.ref a) r = pure () := by intro _; rfl) :
    Ea c ps W (.Subscript v (.Slice Option.none (some e) Option.none p) pos) (.strs (l.take n)) := by
  intro h tk Q E i hq
  refine Subscript_ (h1 _ _ _ _ i fun o h' tk' ho i1 => wpAny_Slice (evalPart_none_step (evalPart_some_step (h2 _ _ _ _ i1 fun u h2' tk2 r2 i2 => evalPart_none_step ?_))))
  cases ho
  obtain ⟨t, rfl⟩ := r2
  obtain ⟨ys, L, rfl⟩ := i2.lst hm hs
  obtain ⟨m, news, hF, hN, hf, hl, nd⟩ := i2
  rw [List.length_map] at hn
  have hsl : slicePick (strValues ys).toArray none (some (n : Int)) none = (strValues (ys.take n)).toArray := by
    rw [slicePick_upto']
    unfold strValues
    rw [List.map_take]
  refine kmk_slice (s := c.st h2' tk2) hF hN L .none (.int _ _) (fun D h3 F' N' lt => hq _ _ _ (In.fresh (ob := PySem.W.listOf (strValues (ys.take n)).toArray 0) F' (by rw [hsl] at N'; exact N') hf hl nd ⟨ys.take n, 0, rfl, by rw [List.map_take]⟩ fun q hq e => ?_)) (ho _) ht (by unfold strValues; rw [List.size_toArray, List.length_map, sizeLine_eq]; lia)
  exact absurd (lt q hq) (by rw [e]; exact Nat.lt_irrefl _)
theorem FunOk.joinG {a : Addr} {o : AO} {l : List Str} {x : Str} (hm : (a, o) ∈ W) (hs : IsStrs o l) (hl : Light l) (hx : x.length ≤ 16) : FunOk c ps W "str.join" [.str x, .ref a] (.str (Txt.join x l)) := by
  intro hh tk ws Q E i hr hq
  obtain ⟨v, u, rfl, ⟨t, rfl⟩, rfl⟩ := reps2 hr
  obtain ⟨ys, L, rfl⟩ := i.lst hm hs
  exact join_strs (s := c.st hh tk) L hl hx fun t' k => hq _ _ _ ⟨_, rfl⟩ i
theorem Ep.ifexp {t a b : PySem.Expr} {pos : Pos} {p : PV} (h : Et c ps W t true) (h1 : Ep c ps W a p) : Ep c ps W (.IfExp t a b pos) p :=
  fun _ _ _ _ i hq => IfExp_ (h _ _ _ _ _ rfl i fun _ _ i' => by rw [if_pos rfl]; exact h1 _ _ _ _ i' hq)
theorem Sx.nd {body : List Stmt} (h : (W.map (·.1)).Nodup → Sx c ps W body Φ E) : Sx c ps W body Φ E := ⟨fun hh tk i => by
  obtain ⟨_, _, _, _, _, _, nd⟩ := _root_.id i
  exact (h nd).run hh tk i⟩
theorem Tk.and2 {e1 e2 : PySem.Expr} {pos : Pos} {a b : Bool} (h1 : Tk c ps e1 a) (h2 : Tk c ps e2 b) : Tk c ps (.BoolOp .And [e1, e2] pos) (a && b) := by
  intro whole hh tk Q E hw i hq
  refine isTrue_and (h1 _ _ _ _ _ rfl i fun h' tk' s1 i1 => ?_)
  cases a with
  | true =>
    rw [if_pos rfl]
    refine isTrue_and (h2 _ _ _ _ _ rfl i1 fun h2' tk2 s2 i2 => ?_)
    cases b with
    | true => rw [if_pos rfl]; exact isTrue_and_nil (hq _ _ (fun b o e => s2 b o (s1 b o e)) i2)
    | false => rw [if_neg (by decide)]; exact hq _ _ (fun b o e => s2 b o (s1 b o e)) i2
  | false => rw [if_neg (by decide)]; exact hq _ _ s1 i1
theorem Tk.str {e : PySem.Expr} {x : Str} (h : Ek c ps e (PV.str x).k) (hx : (x.length : Int) < 9223372036854775808)
    (hp : ∀ whole, whole = eval e c.env → PySem.isTrue e c.env whole = (do let v ← whole; standAt (PySem.Expr.pos e); holding [v] (truthy v)) := by intro _ _; rfl) : Tk c ps e ((x.length : Int) != 0) := by
  intro whole hh tk Q E hw i hq
  refine isTrue_plain ?_ (hp whole hw)
  subst hw
  exact h _ _ _ _ i fun v h' tk' st i' r => TruOk.str hx _ _ _ _ _ _ r fun _ => hq _ _ st i'
theorem Sx.withRest {σ : Type} {psm : σ → List PV} {Wm : σ → Led} {Jm : σ → Prop} {st : Stmt} (k : ∀ z, Jm z → Sx c (psm z) (Wm z) rest Φ E) (h : (∀ z, Jm z → Sx c (psm z) (Wm z) rest Φ E) → Sx c ps W (st :: rest) Φ E) : Sx c ps W (st :: rest) Φ E := h k
theorem Sx.fbrk {σ : Type} {psf : σ → List PV} {Wf : σ → Led} {J : σ → Prop} {own : Led} {pos : Pos} {r2 : List Stmt} (h : Sx c ps W rest Φ E) : Sx c ps W (.Break pos :: r2) (Fp c psf Wf J own rest Φ E) E := ⟨fun _ _ i => wpAny_execs_cons (wpAny_Break (h.run _ _ i))⟩
theorem Ea.tupleMap {px p1 p2 p3 p4 : Pos} {v : PySem.Expr} {x : Str} {f a : Addr} {ys : List (Str × Tok)} (bt : BVal (Str.ofString "tuple") (.type "tuple")) (bm : BVal (Str.ofString "map") (.type "map")) (g : GName x f) (hk1 : F.scope.names.lookup (Str.ofString "tuple") = some .globalImplicit) (hk2 : F.scope.names.lookup (Str.ofString "map") = some .globalImplicit) (hk3 : F.scope.names.lookup x = some .globalImplicit) (hv : Ep c ps W v (.ref a)) (hb : c.h₀.IsList a (strValues ys).toArray) (hy : ys.length ≤ 100)
    (hc : ∀ A₀ : Around, A₀.depth ≤ c.A.depth + 4 → A₀.units ≤ c.A.units + 4 → A₀.handled = none → CallsId PySem.Challenge.pw_in0083_01 c.w A₀ c.h₀ f)
    (he : CallEq c (.Name (Str.ofString "tuple") px) [.Call (.Name (Str.ofString "map") p1) [.Name x p2, v] [] p3] p4 := by exact rfl) (he2 : CallEq c (.Name (Str.ofString "map") p1) [.Name x p2, v] p3 := by exact rfl)
    (hst : starEach [.Call (.Name (Str.ofString "map") p1) [.Name x p2, v] [] p3] c.env = (false, eval (.Call (.Name (Str.ofString "map") p1) [.Name x p2, v] [] p3) c.env) :: starEach [] c.env := by rfl) (hst2 : starEach [.Name x p2, v] c.env = (false, eval (.Name x p2) c.env) :: starEach [v] c.env := by rfl) (hst3 : starEach [v] c.env = (false, eval v c.env) :: starEach [] c.env := by rfl) :
    Ea c ps W (.Call (.Name (Str.ofString "tuple") px) [.Call (.Name (Str.ofString "map") p1) [.Name x p2, v] [] p3] [] p4) (tupS (ys.map (·.1))) := by
  intro h tk Q E i hq
  obtain ⟨m, news, hF, hN, hf, hl, nd⟩ := _root_.id i
  refine Call_ (Cx.nmB hF (bt.n _) bt.b bt.u ?_ hk1 bt.d) he
  refine PyProof.Rows.callWith_type1 (args_cons (Call_ (Cx.nmB hF (bm.n _) bm.b bm.u ?_ hk2 bm.d) he2) hst) hst
  refine PyProof.Rows.callWith_type1 (args_cons (Cx.nmK hF (g.n _) (args_cons (hv _ _ _ _ i fun u h' tk' r i' => args_nil ?_) hst3) hk3 g.d) hst2) hst2 (by rw [hst3]; rfl)
  cases r
  obtain ⟨m2, news2, F2, N2, f2, l2, n2⟩ := _root_.id i'
  refine wpAny_mono (tuple_map_K (s := c.st h' tk') (Q := Q) (E := E) c.hh F2 N2 (i'.base hb) hy (hc _ ?_ ?_ ?_) fun D h3 tk3 F3 N3 lt => hq _ _ _ (In.fresh F3 N3 f2 l2 n2 ⟨ys, rfl, rfl⟩ fun q hq e => absurd (lt q hq) (by rw [e]; exact Nat.lt_irrefl _))) (fun v s₁ h₁ => args_nil h₁) fun _ _ e => e
  · exact Nat.le_add_right _ 4
  · exact Nat.le_refl _
  · exact c.hh
end
end
section
open PySem PySem.W PySem.Calls PyProof.Rows
theorem bv_tuple : BVal (Str.ofString "tuple") (.type "tuple") := ⟨fun q => by k_is, by boot_fast, by decide, by decide⟩
theorem bv_map : BVal (Str.ofString "map") (.type "map") := ⟨fun q => by k_is, by boot_fast, by decide, by decide⟩
theorem bn_min : BName (Str.ofString "min") "min" := ⟨fun q => by k_is, by boot_fast, by decide, by decide⟩
theorem bn_max' : BName (Str.ofString "max") "max" := ⟨fun q => by k_is, by boot_fast, by decide, by decide⟩
section
variable {F : FI} {N : Nat} {c : Cx F N} {ps : List PV} {W : Led} {Φ : Flow → Shared → Prop} {E : Value → Shared → Prop} {rest : List Stmt}
theorem In.tup {h : Heap} {a : Addr} {l : List Str} (i : In c ps W h) (hm : (a, tupS l) ∈ W) : ∃ ys : List (Str × Tok), h.IsTuple a (strValues ys).toArray ∧ ys.map (·.1) = l := by
  obtain ⟨ob, g, ys, rfl, e⟩ := i.get hm
  exact ⟨ys, ⟨_, g, rfl, _, rfl⟩, e⟩
theorem Et.tup {e : PySem.Expr} {a : Addr} {x : Str} {l : List Str} (h : Ep c ps W e (.ref a)) (hm : (a, tupS (x :: l)) ∈ W) (hl : l.length ≤ 1000)
    (hp : ∀ whole, whole = eval e c.env → PySem.isTrue e c.env whole = (do let v ← whole; standAt (PySem.Expr.pos e); holding [v] (truthy v)) := by intro _ _; rfl) : Et c ps W e true := by
  intro whole hh tk Q E hw i hq
  refine isTrue_plain ?_ (hp whole hw)
  subst hw
  refine h _ _ _ _ i fun v h' tk' r i' => ?_
  cases r
  obtain ⟨ys, L, e⟩ := i'.tup hm
  cases ys with
  | nil => cases e
  | cons y r =>
    have hr : r.length ≤ 1000 := by rw [← (List.cons.inj e).2, List.length_map] at hl; exact hl
    exact truthy_tuple (s := c.st h' tk') L (by simp [strValues]; lia) (hq _ _ i')
theorem Ep.item0 {v : PySem.Expr} {kk : Nat} {pk pos : Pos} {a : Addr} {x : Str} {l : List Str} (h1 : Ep c ps W v (.ref a)) (hm : (a, tupS (x :: l)) ∈ W)
    (hs : ∀ t, subscripted (.Constant (.int 0) kk pk) false (.ref a) (.int 0 t) = operate [.ref a, .int 0 t] (getItem (.ref a) (.int 0 t)) := by intro _; rfl) (hg : ∀ r, letTemporaryGo v (.ref a) r = pure () := by intro _; rfl) : Ep c ps W (.Subscript v (.Constant (.int 0) kk pk) pos) (.str x) := by
  intro h tk Q E i hq
  refine Subscript_ (h1 _ _ _ _ i fun o h' tk' r i1 => wpAny_Constant_int ?_)
  cases r
  obtain ⟨ys, L, e⟩ := i1.tup hm
  cases ys with
  | nil => cases e
  | cons y r =>
    have e1 : y.1 = x := (List.cons.inj e).1
    refine item_tuple (s := { c.st h' tk' with toks := _ }) (j := 0) (x := .str y.1 y.2) L (by decide) (by decide) ?_ (by simp [strValues]) ?_ (hs _) hg
    · unfold strValues seqIndex?
      rw [List.size_toArray, List.length_map, List.length_cons]
      simp
    · exact hq _ _ _ ⟨y.2, by rw [← e1]⟩ i1
end
theorem two_tup {a : Addr} {x y : Str} : ∀ ob, (tupS [x, y]).rep ob → ∃ v1 v2, (PV.str x).rep v1 ∧ (PV.str y).rep v2 ∧ ∀ h : Heap, h.get? a = some ob → h.IsTuple a #[v1, v2] := by
  rintro ob ⟨ys, rfl, e⟩
  match ys, e with
  | [p, q], e =>
    injection e with e1 e2
    injection e2 with e2 _
    exact ⟨.str p.1 p.2, .str q.1 q.2, ⟨p.2, congrArg (Value.str · p.2) e1⟩, ⟨q.2, congrArg (Value.str · q.2) e2⟩, fun h hg => ⟨_, hg, rfl, _, rfl⟩⟩
theorem two_list {a : Addr} {q1 q2 : PV} : Two a (.list [q1, q2]) q1 q2 := by
  rintro ob ⟨vs, n, rfl, hr⟩
  obtain ⟨v1, v2, rfl, r1, r2⟩ := reps2 hr
  exact ⟨v1, v2, r1, r2, fun h hg => .inl ⟨_, hg, rfl, n, rfl⟩⟩
theorem pick2L (l3 l4 : List Str) (T3 T4 : Addr) : ∃ Ta Tb la lb, (if cmpS true l4 l3 = true then T4 else T3) = Ta ∧ (if cmpS false l4 l3 = true then T4 else T3) = Tb ∧ Low la lb ∧ lawShared la lb = lawShared l3 l4 ∧ ((Ta = T3 ∧ la = l3) ∨ (Ta = T4 ∧ la = l4)) ∧ ((Tb = T3 ∧ lb = l3) ∨ (Tb = T4 ∧ lb = l4)) := by
  cases h1 : cmpS true l4 l3 with
  | true =>
    cases h2 : cmpS false l4 l3 with
    | true => exact (not_both h1 h2).elim
    | false => exact ⟨T4, T3, l4, l3, rfl, rfl, low_of_lt h1, shared_comm _ _, .inr ⟨rfl, rfl⟩, .inl ⟨rfl, rfl⟩⟩
  | false =>
    cases h2 : cmpS false l4 l3 with
    | true => exact ⟨T3, T4, l3, l4, rfl, rfl, low_of_gt h2, rfl, .inl ⟨rfl, rfl⟩, .inr ⟨rfl, rfl⟩⟩
    | false =>
      have e := eq_of_neither h1 h2
      exact ⟨T3, T3, l3, l3, rfl, rfl, low_self _, by rw [e], .inl ⟨rfl, rfl⟩, .inl ⟨rfl, rfl⟩⟩
def F236 : FI where
  qual := Str.ofString "commonpath"
  scope := { kind := .function, names := [(Str.ofString "paths", .local), (Str.ofString "sep", .cell), (Str.ofString "curdir", .cell), (Str.ofString "split_paths", .local), (Str.ofString "isabs", .local), (Str.ofString "c", .local), (Str.ofString "s1", .local), (Str.ofString "s2", .local), (Str.ofString "common", .local), (Str.ofString "i", .local), (Str.ofString "prefix", .local), (Str.ofString "tuple", .globalImplicit), (Str.ofString "map", .globalImplicit), (Str.ofString "fspath", .globalImplicit), (Str.ofString "ValueError", .globalImplicit), (Str.ofString "isinstance", .globalImplicit), (Str.ofString "bytes", .globalImplicit), (Str.ofString "min", .globalImplicit), (Str.ofString "max", .globalImplicit), (Str.ofString "enumerate", .globalImplicit), (Str.ofString "TypeError", .globalImplicit), (Str.ofString "AttributeError", .globalImplicit), (Str.ofString "_check_arg_types", .globalImplicit)], isGenerator := false, isCoroutine := false, more := [(Str.ofString "fast", .str (Str.ofString "paths")), (Str.ofString "fast", .str (Str.ofString "sep")), (Str.ofString "fast", .str (Str.ofString "curdir")), (Str.ofString "fast", .str (Str.ofString "path")), (Str.ofString "fast", .str (Str.ofString "split_paths")), (Str.ofString "fast", .str (Str.ofString "p")), (Str.ofString "fast", .str (Str.ofString "isabs")), (Str.ofString "fast", .str (Str.ofString "s")), (Str.ofString "fast", .str (Str.ofString "c")), (Str.ofString "fast", .str (Str.ofString "s1")), (Str.ofString "fast", .str (Str.ofString "s2")), (Str.ofString "fast", .str (Str.ofString "common")), (Str.ofString "fast", .str (Str.ofString "i")), (Str.ofString "fast", .str (Str.ofString "prefix"))] }
  f := 236
  cd := .ref 235
  en := fun L => envOfC (Str.ofString "commonpath") { kind := .function, names := [(Str.ofString "paths", .local), (Str.ofString "sep", .cell), (Str.ofString "curdir", .cell), (Str.ofString "split_paths", .local), (Str.ofString "isabs", .local), (Str.ofString "c", .local), (Str.ofString "s1", .local), (Str.ofString "s2", .local), (Str.ofString "common", .local), (Str.ofString "i", .local), (Str.ofString "prefix", .local), (Str.ofString "tuple", .globalImplicit), (Str.ofString "map", .globalImplicit), (Str.ofString "fspath", .globalImplicit), (Str.ofString "ValueError", .globalImplicit), (Str.ofString "isinstance", .globalImplicit), (Str.ofString "bytes", .globalImplicit), (Str.ofString "min", .globalImplicit), (Str.ofString "max", .globalImplicit), (Str.ofString "enumerate", .globalImplicit), (Str.ofString "TypeError", .globalImplicit), (Str.ofString "AttributeError", .globalImplicit), (Str.ofString "_check_arg_types", .globalImplicit)], isGenerator := false, isCoroutine := false, more := [(Str.ofString "fast", .str (Str.ofString "paths")), (Str.ofString "fast", .str (Str.ofString "sep")), (Str.ofString "fast", .str (Str.ofString "curdir")), (Str.ofString "fast", .str (Str.ofString "path")), (Str.ofString "fast", .str (Str.ofString "split_paths")), (Str.ofString "fast", .str (Str.ofString "p")), (Str.ofString "fast", .str (Str.ofString "isabs")), (Str.ofString "fast", .str (Str.ofString "s")), (Str.ofString "fast", .str (Str.ofString "c")), (Str.ofString "fast", .str (Str.ofString "s1")), (Str.ofString "fast", .str (Str.ofString "s2")), (Str.ofString "fast", .str (Str.ofString "common")), (Str.ofString "fast", .str (Str.ofString "i")), (Str.ofString "fast", .str (Str.ofString "prefix"))] } L 236 (.ref 235)
  locals := [Str.ofString "paths", Str.ofString "split_paths", Str.ofString "isabs", Str.ofString "c", Str.ofString "s1", Str.ofString "s2", Str.ofString "common", Str.ofString "i", Str.ofString "prefix"]
noncomputable def ScSp : Scope := { kind := .function, names := [(Str.ofString ".0", .local), (Str.ofString "path", .local), (Str.ofString "sep", .free)], isGenerator := false, isCoroutine := false }
noncomputable def ScSp' : Scope := { kind := .function, names := [(Str.ofString ".0", .local), (Str.ofString "path", .local), (Str.ofString "sep", .cell)], isGenerator := false, isCoroutine := false }
noncomputable def ScP9 : Scope := { kind := .function, names := [(Str.ofString ".0", .local), (Str.ofString "p", .local), (Str.ofString "sep", .free)], isGenerator := false, isCoroutine := false }
noncomputable def ScP9' : Scope := { kind := .function, names := [(Str.ofString ".0", .local), (Str.ofString "p", .local), (Str.ofString "sep", .cell)], isGenerator := false, isCoroutine := false }
noncomputable def ScS9 : Scope := { kind := .function, names := [(Str.ofString ".0", .local), (Str.ofString "s", .local), (Str.ofString "curdir", .free)], isGenerator := false, isCoroutine := false }
noncomputable def ScS9' : Scope := { kind := .function, names := [(Str.ofString ".0", .local), (Str.ofString "s", .local), (Str.ofString "curdir", .cell)], isGenerator := false, isCoroutine := false }
noncomputable def ScC9 : Scope := { kind := .function, names := [(Str.ofString ".0", .local), (Str.ofString "c", .local), (Str.ofString "curdir", .free)], isGenerator := false, isCoroutine := false }
noncomputable def ScC9' : Scope := { kind := .function, names := [(Str.ofString ".0", .local), (Str.ofString "c", .local), (Str.ofString "curdir", .cell)], isGenerator := false, isCoroutine := false }
theorem t236 (l : Addr) (x y : Str) (u0 u1 : Tok) (hn : x.length < 200) (hn2 : y.length < 200) (hx1 : Txt.startswith x (Str.ofString "/") = true) (hy1 : Txt.startswith y (Str.ofString "/") = true) : Con 10 236 [.ref l] (fun h => h.IsList l (strValues [(x, u0), (y, u1)]).toArray) (fun h v h' => ∃ tk, v = .str (lawShared (compsF x) (compsF y)) tk) := by
  refine Con.ofC (F := F236) (N := 9) (ps := [.ref l, .unset, .unset, .unset, .unset, .unset, .unset, .unset, .unset]) (binds := [(Str.ofString "paths", .ref l)]) (x1 := Str.ofString "curdir") (x2 := Str.ofString "sep") (fun q => by k_is) (fun q => by k_is) (fun s => BindsTo.of_eq (by kernel_rfl)) rfl (by decide) rfl rfl (fun n => rfl) (fun L => ⟨rfl, rfl⟩) (fun L => ⟨⟨_, rfl, rfl⟩, rfl, rfl, rfl, rfl, rfl, rfl, rfl, rfl, trivial⟩) fun c Φ E hE hP hls => ?_
  have hcs : c.env.cells.lookup (Str.ofString "sep") = some (c.L + 1) := rfl
  have hcc : c.env.cells.lookup (Str.ofString "curdir") = some (c.L + 2) := rfl
  refine .assignA (.tupleMap (ys := [(x, u0), (y, u1)]) bv_tuple bv_map gn_fspath rfl rfl rfl (.name .n0) hls (show (2 : Nat) ≤ 100 by decide) fun A₀ hd hu hh => fun s₁ z u Q' E' st h => t189 z u c.w c.p c.loose c.mean c.mg c.mb A₀ s₁.heap s₁ Q' E' (c.X.keeps st) (c.T.keeps st) rfl (by have := c.hd; lia) (by have := c.hu; lia) hh trivial fun v h' tk' k r => by subst r; exact h h' tk' k) (fun a => .n0) fun a => ?_
  refine .ifte (.not (.tup (.name .n0) (.head _) (show (1 : Nat) ≤ 1000 by decide))) (fun h => nomatch h) (fun _ => .seq ?_)
  refine .ifte (.val (.callB bn_isinst rfl (.cons (.item0 (.name .n0) (.head _)) (.cons (.bval bv_bytes rfl) .nil)) .isBytes) .bool) (fun h => nomatch h) (fun _ => ?_)
  refine .assignCell rfl hcs .str (.tail (.tail .head)) (fun ob h => ⟨_, h⟩) (.assignCell rfl hcc .str (.tail .head) (fun ob h => ⟨_, h⟩) (.seq (.try ?_)))
  have hsx := split_len x (Str.ofString "/")
  have hsy := split_len y (Str.ofString "/")
  have hsz := sizeLine_eq
  refine .assignL2 (sc := ScSp) (cl := [(Str.ofString "sep", c.L + 1)]) (q1 := .str x) (q2 := .str y) (fV := fun v => match v with | .str b _ => Txt.split b (Str.ofString "/") | _ => []) (Fc := compFI c.env [(Str.ofString "sep", c.L + 1)] ScSp ScSp' [Str.ofString "path"] rfl (by decide +kernel) (by decide) rfl rfl rfl) ⟨by with_unfolding_all rfl, by decide, rfl, by decide +kernel, by decide +kernel, by intro _; rfl⟩ (.name .n0) (.head _) (fun ob h => by obtain ⟨v1, v2, r1, r2, h3⟩ := two_tup ob h; exact ⟨v1, v2, r1, r2, fun h hg => .inr (h3 h hg)⟩) (fun v ⟨t, e⟩ => by rw [e]) (fun v ⟨t, e⟩ => by rw [e]) (fun _ => rfl) rfl (fun c' u v hu hr hb => ?_) (fun D => .n1) fun D T1 T2 => ?_
  · obtain ⟨b, t, rfl, rfl, hbl⟩ : ∃ b t, u = .str b ∧ v = .str b t ∧ b.length < 200 := by
      rcases hu with rfl | rfl
      · obtain ⟨t, e⟩ := hr; exact ⟨_, t, rfl, e, hn⟩
      · obtain ⟨t, e⟩ := hr; exact ⟨_, t, rfl, e, hn2⟩
    exact .split (.name (.ix 0 rfl rfl)) (.cell rfl rfl (hb _ _ (.tail _ (.tail _ (.head _))))) (by decide +kernel) (by lia)
  refine .try (.unpackSet (sc := ScP9) (cl := [(Str.ofString "sep", c.L + 1)]) (q1 := .str x) (q2 := .str y) (Fc := compFI c.env [(Str.ofString "sep", c.L + 1)] ScP9 ScP9' [Str.ofString "p"] rfl (by decide +kernel) (by decide) rfl rfl rfl) ⟨by with_unfolding_all rfl, by decide, rfl, by decide +kernel, by decide +kernel, by intro _; rfl⟩ (.name .n0) (.tail _ (.tail _ (.tail _ (.head _)))) two_tup (fun _ => rfl) rfl (fun c' u h tk Q E' hu i hq => ?_) .n2 (.seqE ?_))
  · obtain ⟨m, news, hF, hN, hf, hl, nd⟩ := i
    obtain ⟨b, rfl, hb⟩ : ∃ b, u = .str b ∧ Txt.startswith b (Str.ofString "/") = true := by
      rcases hu with rfl | rfl
      · exact ⟨_, rfl, hx1⟩
      · exact ⟨_, rfl, hy1⟩
    obtain ⟨v, hv, t, rfl⟩ := frep_at (x := Str.ofString "p") (p := .str b) .here hf nofun
    obtain ⟨ob, g, w2, d, t2, rfl⟩ := lrep_get hl (.tail _ (.tail _ (.tail _ (.tail _ (.tail _ (.head _))))))
    refine MethodCall_ (Cx.nm hF hv ?_ (.head _)) rfl
    refine GM.startswith (callWith_method1 (args_cons (wpAny_Name (wpAny_loadName_cell c'.kk (c'.ko rfl) rfl ⟨ob, (hN _ g).1, d⟩ (args_nil (SC.startswith ?_))) (by decide)) rfl) rfl)
    rw [hb]
    exact hq
  refine .nd fun nd => ?_
  have hT12 : T2 ≠ T1 := fun e => by
    subst e
    exact absurd (List.nodup_cons.mp (List.nodup_cons.mp nd).2).1 (fun h => h (.head _))
  clear nd
  have hlx : ∀ b ∈ Txt.split x (Str.ofString "/"), b.length < 200 := fun b hb => Nat.lt_of_le_of_lt (part_short hb) hn
  have hly : ∀ b ∈ Txt.split y (Str.ofString "/"), b.length < 200 := fun b hb => Nat.lt_of_le_of_lt (part_short hb) hn2
  refine .assignL2 (sc := ScS9) (cl := [(Str.ofString "curdir", c.L + 2)]) (q1 := .ref T1) (q2 := .ref T2) (l1 := compsF x) (l2 := compsF y) (fV := fun v => match v with | .ref T => if T = T1 then compsF x else compsF y | _ => []) (Fc := compFI c.env [(Str.ofString "curdir", c.L + 2)] ScS9 ScS9' [Str.ofString "s"] rfl (by decide +kernel) (by decide) rfl rfl rfl) ⟨by with_unfolding_all rfl, by decide, rfl, by decide +kernel, by decide +kernel, by intro _; rfl⟩ (.name .n1) (.head _) two_list (fun v e => by rw [show v = _ from e]; exact if_pos rfl) (fun v e => by rw [show v = _ from e]; exact if_neg hT12) (fun _ => rfl) rfl (fun c' u v hu hr hb => ?_) (fun D => .n1) fun D2 T3 T4 => ?_
  · obtain ⟨T, s, rfl, rfl, e, hm, hsl, hs⟩ : ∃ T s, u = .ref T ∧ v = .ref T ∧ (if T = T1 then compsF x else compsF y) = s.filter fcC ∧ (T, lstA s) ∈ ([(D, AO.list [.ref T1, .ref T2]), (T1, lstA (Txt.split x (Str.ofString "/"))), (T2, lstA (Txt.split y (Str.ofString "/"))), (a, tupS [x, y]), (c.L + 2, cellV (.str (Str.ofString "."))), (c.L + 1, cellV (.str (Str.ofString "/")))] : Led) ∧ s.length ≤ 1000 ∧ ∀ b ∈ s, b.length < 200 := by
      rcases hu with rfl | rfl
      · exact ⟨T1, _, rfl, hr, if_pos rfl, .tail _ (.head _), by lia, hlx⟩
      · exact ⟨T2, _, rfl, hr, if_neg hT12, .tail _ (.tail _ (.head _)), by lia, hly⟩
    show ElK c' [.ref T] _ (if T = T1 then compsF x else compsF y)
    rw [e]
    refine .lcomp (sc := ScC9) (cl := [(Str.ofString "curdir", c.L + 2)]) (Fc := compFI c'.env [(Str.ofString "curdir", c.L + 2)] ScC9 ScC9' [Str.ofString "c"] rfl (by decide +kernel) (by decide) rfl rfl rfl) ⟨by with_unfolding_all rfl, by decide, rfl, by decide +kernel, by decide +kernel, by intro _; rfl⟩ (.name (.ix 0 rfl rfl)) (hb _ _ hm) hsl (fun _ => rfl) rfl fun c2 b hbm st => ?_
    have hbl := hs b hbm
    obtain ⟨ob, g1, g2⟩ := hb _ _ (.tail _ (.tail _ (.tail _ (.tail _ (.head _)))))
    have e9 : fcC b = (((b.length : Int) != 0) && (b != Str.ofString ".")) := by
      rw [fcC_eq]
      congr 1
      rw [Bool.eq_iff_iff, Bool.not_eq_true', decide_eq_false_iff_not, bne_iff_ne]
      lia
    rw [e9]
    exact .one (.and2 (.str (.name (.ix 0 rfl rfl)) (by lia)) (.cmp (.name (.ix 0 rfl rfl)) (.cell rfl rfl ⟨ob, st _ _ g1, g2⟩) .nes))
  obtain ⟨Ta, Tb, la, lb, ea, eb, hlow, hsh, hA, hB⟩ := pick2L (compsF x) (compsF y) T3 T4
  refine .assign (p := .ref Ta) (by rw [← ea]; exact .callB bn_min rfl (.cons (.name .n1) .nil) (.min2 (.head _) (.tail _ (.head _)) (.tail _ (.tail _ (.head _))) .lst .lst (by decide))) .n4 ?_
  refine .assign (p := .ref Tb) (by rw [← eb]; exact .callB bn_max' rfl (.cons (.name .n1) .nil) (.max2 (.head _) (.tail _ (.head _)) (.tail _ (.tail _ (.head _))) .lst .lst (by decide))) .n5 (.assign (.name .n4) .n6 ?_)
  have hla : la.length ≤ 202 ∧ ∀ b ∈ la, b.length ≤ 202 := by
    have h3 : (compsF x).length ≤ (Txt.split x (Str.ofString "/")).length := List.length_filter_le _ _
    have h4 : (compsF y).length ≤ (Txt.split y (Str.ofString "/")).length := List.length_filter_le _ _
    rcases hA with ⟨_, rfl⟩ | ⟨_, rfl⟩
    · exact ⟨by lia, fun b hb => Nat.le_of_lt (Nat.lt_trans (hlx b (List.mem_filter.mp hb).1) (by decide))⟩
    · exact ⟨by lia, fun b hb => Nat.le_of_lt (Nat.lt_trans (hly b (List.mem_filter.mp hb).1) (by decide))⟩
  have hlb : lb.length ≤ 202 := by
    have h3 : (compsF x).length ≤ (Txt.split x (Str.ofString "/")).length := List.length_filter_le _ _
    have h4 : (compsF y).length ≤ (Txt.split y (Str.ofString "/")).length := List.length_filter_le _ _
    rcases hB with ⟨_, rfl⟩ | ⟨_, rfl⟩ <;> lia
  generalize hR : ([(D, AO.list [.ref T1, .ref T2]), (T1, lstA (Txt.split x (Str.ofString "/"))), (T2, lstA (Txt.split y (Str.ofString "/"))), (a, tupS [x, y]), (c.L + 2, cellV (.str (Str.ofString "."))), (c.L + 1, cellV (.str (Str.ofString "/")))] : Led) = R
  have hsep : (c.L + 1, cellV (.str (Str.ofString "/"))) ∈ R := by rw [← hR]; exact .tail _ (.tail _ (.tail _ (.tail _ (.tail _ (.head _)))))
  obtain ⟨Wf, hperm, hTb, hsf⟩ : ∃ Wf : Led, ((D2, AO.list [.ref T3, .ref T4]) :: (T3, lstA (compsF x)) :: (T4, lstA (compsF y)) :: R).Perm ((Ta, lstA la) :: Wf) ∧ ((Tb = Ta ∧ lb = la) ∨ (Tb, lstA lb) ∈ Wf) ∧ (c.L + 1, cellV (.str (Str.ofString "/"))) ∈ Wf := by
    rcases hA with ⟨rfl, rfl⟩ | ⟨rfl, rfl⟩
    · refine ⟨_, .swap _ _ _, ?_, .tail _ (.tail _ hsep)⟩
      rcases hB with ⟨rfl, rfl⟩ | ⟨rfl, rfl⟩
      · exact .inl ⟨rfl, rfl⟩
      · exact .inr (.tail _ (.head _))
    · refine ⟨_, List.perm_middle (l₁ := [_, _]), ?_, .tail _ (.tail _ hsep)⟩
      rcases hB with ⟨rfl, rfl⟩ | ⟨rfl, rfl⟩
      · exact .inr (.tail _ (.head _))
      · exact .inl ⟨rfl, rfl⟩
  rw [← hR] at hperm
  refine .perm hperm (.withRest (σ := Addr × PV × PV × Led) (psm := fun z => [.ref a, .ref D2, .bool true, z.2.1, .ref Ta, .ref Tb, .ref z.1, z.2.2.1, .unset]) (Wm := fun z => z.2.2.2) (Jm := fun z => ∃ o, (z.1, o) ∈ z.2.2.2 ∧ IsStrs o (la.take (lcp la lb)) ∧ (c.L + 1, cellV (.str (Str.ofString "/"))) ∈ z.2.2.2) (fun z hz => ?_) fun hrest => ?_)
  · obtain ⟨o, hm, hs, hs2⟩ := hz
    have ht : (la.take (lcp la lb)).length ≤ 202 := Nat.le_trans (List.length_take_le' _ _) hla.1
    have hq : ∀ b ∈ la.take (lcp la lb), b.length ≤ 202 := fun b hb => hla.2 b (List.mem_of_mem_take hb)
    have hjl := join_len (k := 202) (n := 202) slash_len hq ht
    refine .assign (.ifexp (.val (.name .n2) .bool) (.cell rfl hcs hs2)) .n8 (.ret hE.seq (.bin (.name .n8) (.meth1 sm_join (.cell rfl hcs hs2) (.cons (.name .n6) .nil) (.joinG hm hs (.of2 (k := 202) (n := 202) hq ht (by decide)) (by decide +kernel))) (.adds (by rw [slash_len]; lia))) fun v h' hv _ => ?_)
    obtain ⟨t, rfl⟩ := hv
    refine ⟨t, ?_⟩
    rw [← hsh]
    rfl
  refine Sx.forEnum (l := la.map .str) (o₀ := lstA la) (fun st : PV × PV => [.ref a, .ref D2, .bool true, st.2, .ref Ta, .ref Tb, .ref Ta, st.1, .unset]) (fun st p q => [.ref a, .ref D2, .bool true, q, .ref Ta, .ref Tb, .ref Ta, p, .unset]) (fun _ => Wf) (fun i _ => i ≤ lcp la lb) (.unset, .unset) PassesOwn.never bv_enum rfl (.of (.name .n4)) (fun p W' ⟨e1, e2⟩ => ⟨Ta, e1, e2⟩) (fun ob ⟨ys, n, c1, d1, e⟩ => ⟨strValues ys, n, c1, d1, e ▸ reps_vals ys⟩) (fun st p q => ⟨_, .n7, .n3⟩) (fun _ => rfl) (Nat.zero_le _) (fun i st v I1 o1 I2 o2 b ao hk hrep hv hJ => ?_) (fun st b hk hJ => ?_)
  · have eb : b = Ta := by injection hk.1
    subst eb
    rw [List.getElem?_map, Option.map_eq_some_iff] at hv
    obtain ⟨q, hq, rfl⟩ := hv
    have hi := (List.getElem?_eq_some_iff.mp hq).1
    have hib : i < lb.length := by
      have := lcp_le2 la lb
      rcases hlow with h | h <;> lia
    have hq2 := List.getElem?_eq_getElem hib
    have hc3 := lcp_lt _ _ _ _ _ hJ hq hq2
    obtain ⟨o, hTm, hTs⟩ : ∃ o, (Tb, o) ∈ ([(I1, .obj o1), (I2, .obj o2), (b, .obj ao)] ++ Wf : Led) ∧ IsStrs o lb := by
      rcases hTb with ⟨rfl, rfl⟩ | h
      · exact ⟨_, .tail _ (.tail _ (.head _)), .obj .lst hrep⟩
      · exact ⟨_, .tail _ (.tail _ (.tail _ h)), .lst⟩
    refine .ifte0 (.cmp (.name .n3) (.itemG (.name .n5) (.name .n7) hTm hTs (by lia) hq2) .nes) (fun hne => ?_) (fun he => .fp (.int i, .str q) rfl rfl ?_)
    · have hkl : i = lcp la lb := by
        have : ¬ i < lcp la lb := fun hh => by
          have h1 := hc3.mpr hh
          rw [bne_iff_ne] at hne
          exact hne (beq_iff_eq.mp h1)
        lia
      refine .assignA (.uptoG (.name .n4) (.name .n7) (.tail _ (.tail _ (.head _))) (.obj .lst hrep) (by lia)) (fun d => .n6) fun d => .fbrk (hrest (d, .str q, .int i, _) ⟨_, .head _, ?_, .tail _ (.tail _ (.tail _ (.tail _ hsf)))⟩)
      rw [hkl]
      exact .strs
    · exact hc3.mp (by
        cases h5 : (q == lb[i]) with
        | true => rfl
        | false => rw [bne, h5] at he; cases he)
  · have eb : b = Ta := by injection hk.1
    subst eb
    rw [List.length_map] at hJ
    have := lcp_le1 la lb
    have e : la.take (lcp la lb) = la := List.take_of_length_le hJ
    exact hrest (b, st.2, st.1, _) ⟨_, .head _, by rw [e]; exact .lst, .tail _ hsf⟩
end
section
open PySem PySem.W PySem.Calls PyProof.Rows
theorem Sx.enter {F : FI} {N : Nat} {w : World} {p : Program} {loose : List Str} {mean : ExcName → Option Value} {mg mb : Str → Option Value} {A : Around} {h₀ h : Heap} {L : Addr} {s : Shared} {tk : Nat} {ps : List PV} {W : Led} {body : List Stmt} {Φ : Flow → Shared → Prop} {E₀ : Value → Shared → Prop} {P : Heap → Prop} {R : Heap → Value → Heap → Prop}
    (X : (Mine.hd.heap_39 w.params).In h₀) (T : Top p loose mean mg mb h₀) (hh : A.handled = none) (hd : A.depth + N < recursionLimit) (hu : A.units + N * 100 < cLine)
    (hi : ∃ m news, Fr h₀ (F.en L).locals h m ∧ News h₀ (F.en L).locals h news ∧ frep F.locals ps m ∧ lrep W news ∧ (W.map (·.1)).Nodup) (hP : P h₀)
    (hret : ∀ v h' tk', h₀.StaysIn h' → R h₀ v h' → Φ (.ret v) { s with heap := h', toks := tk' })
    (k : ∀ (c : Cx F N) (Φ : Flow → Shared → Prop) (E : Value → Shared → Prop), Rets c R Φ → PassesOwn c.M c.A c.env E → P c.h₀ → Sx c ps W body Φ E) :
    wpAny (model PySem.Challenge.pw_in0083_01 w) A (execs body (F.en L)) Φ E₀ { s with heap := h, toks := tk } :=
  let c : Cx F N := { w, p, loose, mean, mg, mb, A, h₀, L, s, X, T, hh, hd, hu }
  wpAny_mono ((k c Φ (fun _ _ => False) (fun v h' tk' a b => hret v h' tk' a b) PassesOwn.never hP).run h tk (let ⟨m, news, a, b, d, e, f⟩ := hi; ⟨m, news, a, b, d, e, f⟩)) (fun _ _ h => h) (fun _ _ h => h.elim)
section
variable {F : FI} {N : Nat} {c : Cx F N} {ps : List PV} {W : Led} {Φ : Flow → Shared → Prop} {E : Value → Shared → Prop} {rest : List Stmt}
theorem Sx.drop {W1 : Led} {body : List Stmt} (h : Sx c ps W body Φ E) : Sx c ps (W1 ++ W) body Φ E := ⟨fun _ _ i => h.run _ _ i.drop⟩
theorem Ep.castB {e : PySem.Expr} {a b : Bool} (h : Ep c ps W e (.bool a)) (e' : a = b) : Ep c ps W e (.bool b) := e' ▸ h
noncomputable def Jn (c : Cx F N) {σ : Type} (psm : σ → List PV) (Wm : σ → Led) (Jm : σ → Prop) (Φ : Flow → Shared → Prop) (f : Flow) (s' : Shared) : Prop :=
  match f with
  | .next => ∃ st h tk, s' = c.st h tk ∧ In c (psm st) (Wm st) h ∧ Jm st
  | f => Φ f s'
theorem Sx.jn {σ : Type} {psm : σ → List PV} {Wm : σ → Led} {Jm : σ → Prop} (st : σ) (hp : ps = psm st) (hW : W = Wm st) (hJ : Jm st) : Sx c ps W [] (Jn c psm Wm Jm Φ) E := by
  subst hp hW
  exact ⟨fun h tk i => wpAny_execs_nil ⟨st, h, tk, rfl, i, hJ⟩⟩
theorem Sx.ifteJ {σ : Type} (psm : σ → List PV) (Wm : σ → Led) (Jm : σ → Prop) {e : PySem.Expr} {th el : List Stmt} {pos : Pos} {b : Bool} (h : Et c ps W e b) (h1 : b = true → Sx c ps W th (Jn c psm Wm Jm Φ) E) (h2 : b = false → Sx c ps W el (Jn c psm Wm Jm Φ) E)
    (k : ∀ st, Jm st → Sx c (psm st) (Wm st) rest Φ E) : Sx c ps W (.If e th el pos :: rest) Φ E := by
  refine ⟨fun hp tk i => ?_⟩
  refine wpAny_execs_cons (wpAny_If (h _ _ _ _ _ rfl i fun h' tk' i' => ?_))
  have nx : ∀ b' : List Stmt, Sx c ps W b' (Jn c psm Wm Jm Φ) E → wpAny c.M c.A (execs b' c.env) (fun f s' => match f with | .next => wpAny c.M c.A (execs rest c.env) Φ E s' | f => Φ f s') E (c.st h' tk') := fun b' hb => by
    refine wpAny_mono (hb.run _ _ i') (fun f s₃ h₃ => ?_) fun _ _ e => e
    cases f with
    | next =>
      obtain ⟨st, h2, tk2, rfl, i2, hJ⟩ := h₃
      exact (k st hJ).run _ _ i2
    | cont => exact h₃
    | brk => exact h₃
    | ret v => exact h₃
  cases b with
  | true => rw [if_pos rfl]; exact nx _ (h1 rfl)
  | false => rw [if_neg (by decide)]; exact nx _ (h2 rfl)
end
noncomputable def jn (l : List Str) : Str := Txt.join (Str.ofString ".") l
theorem row_light {l : List Str} (g : GoodS l) : Light l := by
  refine .of (fun a ha => ?_) (Nat.le_trans g.hi (by decide))
  have h1 := g.lab a ha
  rw [labS_eq] at h1
  obtain ⟨b, hb, e⟩ := List.mem_map.mp h1
  rw [← e, tx_len]
  have := lab_len b hb
  omega
theorem nil_app (a : Str) : Str.ofString "" ++ a = a := by
  rw [tx_of a, s_nil, tx_app]; rfl
theorem two_dom : ∀ {l : List Str}, (∀ a ∈ l, Host a) → ∀ d ∈ two (Str.ofString ".") (Str.ofString "") l, Dom d
  | [], _, _, h => nomatch h
  | x :: r, hh, d, h => by
    rcases List.mem_cons.mp h with rfl | h
    · exact (hh x (.head _)).dot
    rcases List.mem_cons.mp h with rfl | h
    · rw [nil_app]; exact (hh x (.head _)).dom
    · exact two_dom (fun a ha => hh a (.tail _ ha)) d h
theorem reach_dom {t : Str} (h : Host t) : Dom (reachF t) := by
  cases hc : condR t with
  | true => rw [(reach_yes h hc).1]; exact (reach_yes h hc).2.2
  | false => rw [reach_no h hc]; exact h.dom
theorem none_empty {l : List Str} (h : (!l.any (· == Str.ofString "")) = true) : ∀ a ∈ l, a ≠ Str.ofString "" := fun a ha e => by
  have : l.any (· == Str.ofString "") = true := List.any_eq_true.mpr ⟨a, ha, by rw [e]; exact beq_self_eq_true _⟩
  rw [this] at h
  cases h
theorem names_dot {h d : Str} (h1 : namesB h d = true) : dotted d = true := by
  unfold namesB at h1
  rw [Bool.and_eq_true, Bool.and_eq_true] at h1
  exact h1.1.2
theorem rows_len {rows : List RowD} {fm : Bool} {mid : List PTok} (h : rows.map RowD.abs = absRows fm mid) (hm : mid.length < 100) : ∀ x ∈ rows, x.signs.length < 100 := fun x hx => by
  have h1 : x.abs ∈ absRows fm mid := h ▸ List.mem_map_of_mem hx
  have h2 : (x.abs).2.length = x.signs.length := by simp [RowD.abs]
  rw [← h2]
  cases fm with
  | true =>
    simp only [absRows, if_true, List.mem_cons, List.not_mem_nil, or_false] at h1
    rcases h1 with e | e | e | e <;> rw [e] <;> simp <;> omega
  | false =>
    simp only [absRows, Bool.false_eq_true, if_false, List.mem_cons, List.not_mem_nil, or_false] at h1
    rcases h1 with e | e <;> rw [e] <;> simp <;> omega
theorem split_ok {t : Str} (h : Ok t) : ∀ a ∈ (Txt.split t (Str.ofString ".")).drop 1, a.length ≤ 100 := fun a ha => Nat.le_of_lt (h.split (List.mem_of_mem_drop ha)).len
def F307 (fa : Addr) (cd : Value) : FI where
  qual := Str.ofString "law"
  scope := { kind := .function, names := [(Str.ofString "script", .local), (Str.ofString "hosts", .local), (Str.ofString "host", .local), (Str.ofString "paths", .local), (Str.ofString "path", .local), (Str.ofString "pieces", .local), (Str.ofString "rest", .local), (Str.ofString "domain", .local), (Str.ofString "dotted", .local), (Str.ofString "inside", .local), (Str.ofString "behind", .local), (Str.ofString "spelled", .local), (Str.ofString "place", .local), (Str.ofString "same", .local), (Str.ofString "names", .local), (Str.ofString "plain", .local), (Str.ofString "shared", .local), (Str.ofString "_law_rows", .globalImplicit), (Str.ofString "zip", .globalImplicit), (Str.ofString "_law_is_name", .globalImplicit), (Str.ofString "len", .globalImplicit), (Str.ofString "reach", .globalImplicit), (Str.ofString "_law_path", .globalImplicit), (Str.ofString "dirname", .globalImplicit), (Str.ofString "_law_spelled", .globalImplicit), (Str.ofString "_law_read", .globalImplicit), (Str.ofString "translate", .globalImplicit), (Str.ofString "domain_match", .globalImplicit), (Str.ofString "_law_takes", .globalImplicit), (Str.ofString "_law_figures_last", .globalImplicit), (Str.ofString "user_domain_match", .globalImplicit), (Str.ofString "commonpath", .globalImplicit), (Str.ofString "_law_shared", .globalImplicit), (Str.ofString "_law_names", .globalImplicit)], isGenerator := false, isCoroutine := false, more := [Str.ofString "script", Str.ofString "row", Str.ofString "hosts", Str.ofString "host", Str.ofString "paths", Str.ofString "path", Str.ofString "pieces", Str.ofString "rest", Str.ofString "head", Str.ofString "domain", Str.ofString "dotted", Str.ofString "inside", Str.ofString "behind", Str.ofString "spelled", Str.ofString "place", Str.ofString "same", Str.ofString "names", Str.ofString "plain", Str.ofString "shared"].map fun x => (Str.ofString "fast", Const.str x) }
  f := fa
  cd := cd
  locals := [Str.ofString "same", Str.ofString "names", Str.ofString "plain", Str.ofString "shared", Str.ofString "host", Str.ofString "path", Str.ofString "place", Str.ofString "spelled", Str.ofString "inside", Str.ofString "behind", Str.ofString "dotted", Str.ofString "domain", Str.ofString "pieces", Str.ofString "rest", Str.ofString "hosts", Str.ofString "paths", Str.ofString "script"]
noncomputable def ScRow : Scope := { kind := .function, names := [(Str.ofString ".0", .local), (Str.ofString "row", .local)], isGenerator := false, isCoroutine := false }
noncomputable def ScH1 : Scope := { kind := .function, names := [(Str.ofString ".0", .local), (Str.ofString "host", .local), (Str.ofString "_law_path", .globalImplicit)], isGenerator := false, isCoroutine := false }
noncomputable def ScH2 : Scope := { kind := .function, names := [(Str.ofString ".0", .local), (Str.ofString "host", .local), (Str.ofString "_law_names", .globalImplicit)], isGenerator := false, isCoroutine := false }
noncomputable def ScT : Scope := { kind := .function, names := [(Str.ofString ".0", .local), (Str.ofString "host", .local), (Str.ofString "head", .local)], isGenerator := false, isCoroutine := false }
theorem scRow {env : Env} {iter : PySem.Expr} (h : ∀ z, foldedSetIterable iter env z = pure z) : ScOk env ScRow [] (Str.ofString "row") iter := ⟨by rfl, by decide, rfl, by decide +kernel, by decide +kernel, h⟩
theorem scH1 {env : Env} {iter : PySem.Expr} (h : ∀ z, foldedSetIterable iter env z = pure z) : ScOk env ScH1 [] (Str.ofString "host") iter := ⟨by rfl, by decide, rfl, by decide +kernel, by decide +kernel, h⟩
theorem scH2 {env : Env} {iter : PySem.Expr} (h : ∀ z, foldedSetIterable iter env z = pure z) : ScOk env ScH2 [] (Str.ofString "host") iter := ⟨by rfl, by decide, rfl, by decide +kernel, by decide +kernel, h⟩
theorem scT {env : Env} {iter : PySem.Expr} (h : ∀ z, foldedSetIterable iter env z = pure z) : ScOk env ScT [] (Str.ofString "host") iter := ⟨by rfl, by decide, rfl, by decide +kernel, by decide +kernel, h⟩
theorem gn_rows : GName (Str.ofString "_law_rows") 243 := ⟨fun q => by k_is, fun q => by k_is, by decide⟩
theorem gn_path : GName (Str.ofString "_law_path") 267 := ⟨fun q => by k_is, fun q => by k_is, by decide⟩
theorem gn_names : GName (Str.ofString "_law_names") 260 := ⟨fun q => by k_is, fun q => by k_is, by decide⟩
theorem gn_isname : GName (Str.ofString "_law_is_name") 255 := ⟨fun q => by k_is, fun q => by k_is, by decide⟩
theorem gn_reach : GName (Str.ofString "reach") 78 := ⟨fun q => by k_is, fun q => by k_is, by decide⟩
theorem gn_dirname : GName (Str.ofString "dirname") 224 := ⟨fun q => by k_is, fun q => by k_is, by decide⟩
theorem gn_spelled : GName (Str.ofString "_law_spelled") 274 := ⟨fun q => by k_is, fun q => by k_is, by decide⟩
theorem gn_read : GName (Str.ofString "_law_read") 281 := ⟨fun q => by k_is, fun q => by k_is, by decide⟩
theorem gn_translate : GName (Str.ofString "translate") 90 := ⟨fun q => by k_is, fun q => by k_is, by decide⟩
theorem gn_dm : GName (Str.ofString "domain_match") 57 := ⟨fun q => by k_is, fun q => by k_is, by decide⟩
theorem gn_takes : GName (Str.ofString "_law_takes") 295 := ⟨fun q => by k_is, fun q => by k_is, by decide⟩
theorem gn_um : GName (Str.ofString "user_domain_match") 71 := ⟨fun q => by k_is, fun q => by k_is, by decide⟩
theorem gn_cp : GName (Str.ofString "commonpath") 236 := ⟨fun q => by k_is, fun q => by k_is, by decide⟩
theorem gn_shared : GName (Str.ofString "_law_shared") 302 := ⟨fun q => by k_is, fun q => by k_is, by decide⟩
theorem bv_zip : BVal (Str.ofString "zip") (.type "zip") := ⟨fun q => by k_is, by boot_fast, by decide, by decide⟩
noncomputable abbrev T14 := PV × PV × PV × PV × PV × PV × PV × PV × PV × PV × PV × PV × PV × PV
noncomputable abbrev ps14 (D D5 sl : Addr) (s : T14) : List PV := [s.1, s.2.1, s.2.2.1, s.2.2.2.1, s.2.2.2.2.1, s.2.2.2.2.2.1, s.2.2.2.2.2.2.1, s.2.2.2.2.2.2.2.1, s.2.2.2.2.2.2.2.2.1, s.2.2.2.2.2.2.2.2.2.1, s.2.2.2.2.2.2.2.2.2.2.1, s.2.2.2.2.2.2.2.2.2.2.2.1, s.2.2.2.2.2.2.2.2.2.2.2.2.1, s.2.2.2.2.2.2.2.2.2.2.2.2.2, .ref D, .ref D5, .ref sl]
theorem perm_in {α : Type} {W : List α} {i a d e t : α} : (W ++ [i, a, d, e, t]).Perm (d :: e :: (W ++ [i, a, t])) := by
  have h : W ++ [i, a, d, e, t] = (W ++ [i, a]) ++ d :: e :: [t] := by rw [List.append_assoc]; rfl
  rw [h]
  refine List.perm_middle.trans (.cons _ (List.perm_middle.trans (.cons _ (.of_eq ?_))))
  rw [List.append_assoc]; rfl
theorem two_map {x y : Str} : ∀ {ys : List (Str × Tok)}, ys.map (·.1) = [x, y] → ∃ u v, ys = [(x, u), (y, v)]
  | [a, b], e => by
    injection e with e1 e2
    injection e2 with e2 _
    exact ⟨a.2, b.2, by rw [← e1, ← e2]⟩
  | [], e => by cases e
  | [_], e => by cases e
  | _ :: _ :: _ :: _, e => by cases e
end
section
open PySem PySem.W PySem.Calls PyProof.Rows
theorem t307 : PySem.Challenge.rw_in0083_01.Holds := by
  refine Mine.hd ?_
  (k_go0; (all_goals try k_fold))
  rename IntsAre _ _ => hI
  rename ¬ ((63 : Nat) : Int) < _ => hns0
  rename List Int => ns
  have hns : ns.length ≤ 63 := by lia
  rename Fr _ _ _ _ => F0
  rename (Mine.hd.heap_39 _).In _ => X
  rename Top topProg _ _ _ _ _ => T
  rename Addr => sl
  rename Shared => s1
  generalize ghostOf _ [((108 : Nat), (104 : Nat))] = g0 at *
  rename News g0 _ _ _ => N0
  refine @Sx.enter (F307 _ _) 30 _ _ _ _ _ _ _ g0 _ _ s1 _ [.unset, .unset, .unset, .unset, .unset, .unset, .unset, .unset, .unset, .unset, .unset, .unset, .unset, .unset, .unset, .unset, .ref sl] [(104, tabA)] _ _ _ (fun h => h.IsList sl _) (fun _ v h' => v = .bool true ∧ ∃ ps, h'.get? 104 = some (tabObj ps) ∧ TabOk lamPos ps) X T rfl ?hd ?hu ⟨_, _, F0, N0, ?hf, ⟨⟨rfl, #[], rfl, .inl rfl⟩, trivial⟩, List.nodup_cons.mpr ⟨nofun, .nil⟩⟩ lifted ?hret ?body
  case hd => ktr_room
  case hu => ktr_units
  case hf => exact ⟨rfl, rfl, rfl, rfl, rfl, rfl, rfl, rfl, rfl, rfl, rfl, rfl, rfl, rfl, rfl, rfl, ⟨_, rfl, rfl⟩, trivial⟩
  case hret =>
    clear F0 N0
    rintro v h' tk' st ⟨rfl, ps, g1, g2⟩
    rename s1.gens = #[] => hg
    refine ⟨⟨.inl ⟨_, .bool true, [], rfl, fun _ => rfl, .bool true, ?_, fun _ => ⟨.nil, nofun⟩⟩, st, rfl, hg⟩, ⟨ps, g1⟩, trivial⟩
    with_unfolding_all rfl
  case body =>
    intro c Φ E hE hP hls
    refine .assignC (sc := ScRow) (scRow (by intro _; rfl)) (.conR (n := 6) gn_rows rfl (.cons (.name (.ix 16 rfl rfl)) .nil) (fun vs hr => by obtain ⟨v, rfl, rfl⟩ := reps1 hr; exact t243 sl ns _ hns hI) (by decide) (fun h i => i.base hls)) (fun D => .ix 14 rfl rfl) fun p W' hk nd => ?_
    obtain ⟨W1, ⟨rows, a, b, d, RA, RB, RC, rfl, rfl, gA, gB, gC⟩, rfl⟩ := hk
    refine ⟨[jn RA, jn RB, jn RC], ⟨rows, .list [.ref a, .ref b, .ref d], [.ref a, .ref b, .ref d], fun _ => true, fun v => match v with | .ref x => if x = a then jn RA else if x = b then jn RB else jn RC | _ => Str.empty, cfi c ScRow [Str.ofString "row"] rfl (by decide +kernel) (by decide) rfl, rfl, .head _, fun ob h => h, show (3 : Nat) ≤ 1000 by decide, ⟨fun _ => rfl, rfl, fun vs hv => ?_, fun c' u v _ _ _ => .nil, fun c' u v hu hr _ hb => ?_⟩⟩, fun D => ?_⟩
    · obtain ⟨v1, v2, v3, rfl, rfl, rfl, rfl⟩ := reps3 hv
      have h1 : b ≠ a := fun e => by subst e; simp at nd
      have h2 : d ≠ a := fun e => by subst e; simp at nd
      have h3 : d ≠ b := fun e => by subst e; simp at nd
      show [if a = a then _ else _, if b = a then _ else if b = b then _ else _, if d = a then _ else if d = b then _ else _] = _
      rw [if_pos rfl, if_neg h1, if_pos rfl, if_neg h2, if_neg h3]
    · have key : ∀ (x : Addr) (l : List Str) {pos : Pos}, (x, AO.strs l) ∈ ([(rows, .list [.ref a, .ref b, .ref d]), (d, .strs RC), (b, .strs RB), (a, .strs RA)] ++ [(104, tabA)] : Led) → GoodS l → Ek c' [.ref x] (.Name (Str.ofString "row") pos) (lsK l) := fun x l pos hm g => by
        obtain ⟨ob, g1, ys, n, rfl, e⟩ := hb x _ hm
        exact (Ek.name (p := .ref x) (.ix 0 rfl rfl)).mono fun v h i k => ⟨x, ys, k, i.base ⟨_, g1, rfl, n, rfl⟩, e⟩
      have h1 : b ≠ a := fun e => by subst e; simp at nd
      have h2 : d ≠ a := fun e => by subst e; simp at nd
      have h3 : d ≠ b := fun e => by subst e; simp at nd
      simp only [List.mem_cons, List.not_mem_nil, or_false] at hu
      rcases hu with rfl | rfl | rfl <;> cases hr
      · exact (Ek.join .str (key a RA (.tail _ (.tail _ (.tail _ (.head _)))) gA) (row_light gA) (by decide +kernel)).mono fun v h _ k => by
          show PV.rep (.str (if a = a then _ else _)) v
          rw [if_pos rfl]; exact k
      · exact (Ek.join .str (key b RB (.tail _ (.tail _ (.head _))) gB) (row_light gB) (by decide +kernel)).mono fun v h _ k => by
          show PV.rep (.str (if b = a then _ else if b = b then _ else _)) v
          rw [if_neg h1, if_pos rfl]; exact k
      · exact (Ek.join .str (key d RC (.tail _ (.head _)) gC) (row_light gC) (by decide +kernel)).mono fun v h _ k => by
          show PV.rep (.str (if d = a then _ else if d = b then _ else _)) v
          rw [if_neg h2, if_neg h3]; exact k
    clear nd
    refine .perm (List.perm_middle (l₁ := [(rows, AO.list [.ref a, .ref b, .ref d]), (d, .strs RC), (b, .strs RB), (a, .strs RA)]) (l₂ := [(104, tabA)])).symm (.drop ?_)
    obtain ⟨hosts, eh, hhost, hh3⟩ : ∃ l, [jn RA, jn RB, jn RC] = l ∧ (∀ x ∈ l, Host x) ∧ l.length = 3 := ⟨_, rfl, fun x hx => by
      simp only [List.mem_cons, List.not_mem_nil, or_false] at hx
      rcases hx with rfl | rfl | rfl
      · exact host_of_row gA
      · exact host_of_row gB
      · exact host_of_row gC, rfl⟩
    rw [eh]
    clear eh gA gB gC
    have hh4 : hosts.length ≤ 1000 := by rw [hh3]; decide
    refine .assignC (sc := ScH1) (scH1 (by intro _; rfl)) (.of (.name (.ix 14 rfl rfl))) (fun D5 => .ix 15 rfl rfl) fun p W' hk nd => ?_
    obtain ⟨rfl, rfl⟩ := hk
    refine ⟨hosts.map lawPath, .map (Fc := cfi c ScH1 [Str.ofString "host"] rfl (by decide +kernel) (by decide) rfl) (.head _) hh4 (fun _ => rfl) rfl fun c' x hx _ => .con (n := 8) gn_path rfl (.name (.ix 0 rfl rfl)) (fun u => t267 x u (hhost x hx).dom.pathOk) (by decide) (fun _ => trivial) (fun h v h' r => r), fun D5 => ?_⟩
    refine .ifte (.neL (.name (.ix 15 rfl rfl)) (.head _) (.lcomp (sc := ScH2) (scH2 (by intro _; rfl)) (.of (.name (.ix 14 rfl rfl))) (out := hosts.map lawPath) fun p W' hk nd => ?_) (fun p W' hk => ?_)) (fun h => nomatch h) (fun _ => .seq ?_)
    · obtain ⟨rfl, rfl⟩ := hk
      refine .map (Fc := cfi c ScH2 [Str.ofString "host"] rfl (by decide +kernel) (by decide) rfl) (.tail _ (.head _)) hh4 (fun _ => rfl) rfl fun c' x hx _ => ?_
      have hd := (hhost x hx).dom
      obtain ⟨hn1, hn2⟩ := hd.names
      have hjl := join_len (k := 100) (n := 100) slash_len (fun a ha => Nat.le_of_lt (hn2 a ha)) (Nat.le_of_lt hn1)
      rw [hd.path]
      exact .adds .str (.join .str (.con (n := 4) gn_names rfl (.name (.ix 0 rfl rfl)) (fun u => t260 x u hd.ok) (by decide) (fun _ => trivial) fun h v h' r => .ofR r) (.of (fun a ha => Nat.le_of_lt (Nat.lt_trans (hn2 a ha) (by decide))) (by lia)) (by decide +kernel)) (by rw [slash_len, sizeLine_eq]; lia)
    · obtain ⟨p0, W0, D7, ⟨rfl, rfl⟩, rfl, rfl⟩ := hk
      exact ⟨D7, rfl, rfl⟩
    have hzip : hosts.length = (hosts.map lawPath).length := (List.length_map _).symm
    have hpath : ∀ {i : Nat} {u v : Str}, hosts[i]? = some u → (hosts.map lawPath)[i]? = some v → u ∈ hosts ∧ v = lawPath u := fun h1 h2 => by
      rw [List.getElem?_map, h1] at h2
      exact ⟨List.mem_of_getElem? h1, (Option.some.inj h2).symm⟩
    refine .perm (.swap _ _ _) (.forZip (σ := PV × PV × PV × PV) (fun st => [.unset, .unset, .unset, .unset, st.1, st.2.1, .unset, .unset, .unset, .unset, .unset, .unset, st.2.2.1, st.2.2.2, .ref D, .ref D5, .ref sl]) (fun st p q => [.unset, .unset, .unset, .unset, p, q, .unset, .unset, .unset, .unset, .unset, .unset, st.2.2.1, st.2.2.2, .ref D, .ref D5, .ref sl]) (fun _ => [(104, tabA)]) (fun _ _ => True) (.unset, .unset, .unset, .unset) hP bv_zip rfl (.ix 14 rfl rfl) (.ix 15 rfl rfl) hzip (fun st p q => ⟨_, .ix 4 rfl rfl, .ix 5 rfl rfl⟩) (fun _ => rfl) trivial (fun i st x y own hx hy _ => ?_) (fun st _ => ?_))
    · obtain ⟨hx, rfl⟩ := hpath hx hy
      have hh := hhost x hx
      have hd := hh.dom
      have hok := hd.ok
      have hln := hok.len
      have hsl := split_len x (Str.ofString ".")
      have hdl : ((Txt.split x (Str.ofString ".")).drop 1).length ≤ 101 := by rw [List.length_drop]; lia
      have hrl : (restT x).length ≤ 101 * 100 + 101 := join_len (k := 100) (n := 101) dot_len (split_ok hok) hdl
      have hr78 : ∀ vs, reps [.str x] vs → Con 6 78 vs (fun _ => True) (fun _ v _ => ∃ tk, v = .str (reachF x) tk) := Con.s1' fun u => t78 x u hok
      refine .assignA (.split (.name (.ix 4 rfl rfl)) .str (by decide +kernel) (by rw [sizeLine_eq]; lia)) (fun a => .ix 12 rfl rfl) fun a => ?_
      refine .assign (p := .str (restT x)) (.drop (.joinA .str (.dropS (k := 1) (.name (.ix 12 rfl rfl)) (.head _) (by lia)) (.of2 (k := 100) (n := 101) (split_ok hok) hdl (by decide)) (by decide +kernel)) fun q W' hk => ?_) (.ix 13 rfl rfl) ?_
      · obtain ⟨rfl, e, rfl⟩ := hk
        exact ⟨rfl, [_], rfl⟩
      refine .ifte0 (b := condR x) (.cast (.bo (.and (.b (.con (n := 6) (p := .bool _) gn_isname rfl (.cons (.name (.ix 4 rfl rfl)) .nil) (Con.s1' fun u => t255 x u hok) (by decide) (fun _ _ => trivial) fun _ _ _ r => r)) fun _ => .and (.bo (.or (.cmp (.callB bn_len rfl (.cons (.name (.ix 12 rfl rfl)) .nil) (.lenS (.head _) (by lia))) .int .gti) fun _ => .or (.cmp (.name (.ix 13 rfl rfl)) .str .eqs) fun _ => .nilO)) fun _ => .nilA)) ?_) (fun hc => ?_) (fun hc => ?_)
      · unfold condR
        rw [Bool.or_false, Bool.and_true]
        congr 2
        exact decide_eq_decide.mpr (by lia)
      · obtain ⟨y1, y2, y3⟩ := reach_yes hh hc
        refine .ifte0 (b := false) (.cast (.bo (.or (.cmp (.con (n := 6) (p := .str (reachF x)) gn_reach rfl (.cons (.name (.ix 4 rfl rfl)) .nil) hr78 (by decide) (fun _ _ => trivial) fun _ _ _ r => r) (.bin .str (.name (.ix 13 rfl rfl)) (.adds (by rw [dot_len, sizeLine_eq]; lia))) .nes) fun _ => .or (.cmp (.con (n := 8) (p := .str (lawPath (reachF x))) gn_path rfl (.cons (.con (n := 6) (p := .str (reachF x)) gn_reach rfl (.cons (.name (.ix 4 rfl rfl)) .nil) hr78 (by decide) (fun _ _ => trivial) fun _ _ _ r => r) .nil) (Con.s1' fun u => t267 _ u (reach_dom hh).pathOk) (by decide) (fun _ _ => trivial) fun _ _ _ r => r) (.con (n := 4) (p := .str (dirName (lawPath x))) gn_dirname rfl (.cons (.name (.ix 5 rfl rfl)) .nil) (Con.s1' fun u => t224 _ u (Nat.lt_trans hd.pathFacts.1 (by decide))) (by decide) (fun _ _ => trivial) fun _ _ _ r => r) .nes) fun _ => .nilO)) ?_) (fun h => nomatch h) (fun _ => .weak (.fp (.str x, .str (lawPath x), .ref a, .str (restT x)) rfl rfl trivial))
        rw [y1, y2, bne_self_eq_false, bne_self_eq_false]; rfl
      · refine .ifte0 (b := false) (.cast (.cmp (.con (n := 6) (p := .str (reachF x)) gn_reach rfl (.cons (.name (.ix 4 rfl rfl)) .nil) hr78 (by decide) (fun _ _ => trivial) fun _ _ _ r => r) (.name (.ix 4 rfl rfl)) .nes) ?_) (fun h => nomatch h) (fun _ => .weak (.fp (.str x, .str (lawPath x), .ref a, .str (restT x)) rfl rfl trivial))
        rw [reach_no hh hc]; exact bne_self_eq_false _
    refine Sx.forA (σ := T14) (ps14 D D5 sl) (fun s v => (ps14 D D5 sl s).set 11 (.str v)) (fun _ => [(D, .strs hosts), (D5, .strs (hosts.map lawPath)), (104, tabA)]) (fun _ _ => True) (.unset, .unset, .unset, .unset, st.1, st.2.1, .unset, .unset, .unset, .unset, .unset, .unset, st.2.2.1, st.2.2.2) hP (.comp2 (sc := ScT) (Fc := cfi c ScT [Str.ofString "head", Str.ofString "host"] rfl (by decide +kernel) (by decide) rfl) (scT (by intro _; rfl)) rfl (by decide +kernel) (.name (.ix 14 rfl rfl)) (.head _) hh4 (by decide +kernel) (by decide +kernel) (fun b hb => Nat.le_of_lt (Nat.lt_trans (hhost b hb).dom.ok.len (by decide))) (fun _ => rfl) rfl) (fun s v => .ix 11 rfl rfl) (fun _ => rfl) trivial (fun i x s I o a lo hx _ => ?_) (fun s _ => ?_)
    rotate_left
    · exact .ret hE (p := .bool true) .bool fun v h' hr hi => ⟨hr, hi.tab (.tail _ (.tail _ (.head _)))⟩
    have dx := two_dom hhost x (List.mem_of_getElem? hx)
    have okx := dx.ok
    have hxl := okx.len
    have hxz : x.length ≤ sizeLine := by rw [sizeLine_eq]; lia
    obtain ⟨htk1, htk2, htk3⟩ := tok_ok dx
    refine .assign (p := .bool (dotted x)) (.cmp (.slice (.name (.ix 11 rfl rfl)) .none (.some .int) hxz) .str .eqs) (.ix 10 rfl rfl) (.assignN .list0 fun p W' hk => ?_)
    obtain ⟨X1, rfl, rfl⟩ := hk
    refine ⟨_, .ix 8 rfl rfl, .assignN .list0 fun p W' hk => ?_⟩
    obtain ⟨X2, rfl, rfl⟩ := hk
    refine ⟨_, .ix 9 rfl rfl, .ifteJ (σ := PV × Addr × Addr × Led) (fun st => (((((ps14 D D5 sl s).set 11 (.str x)).set 10 (.bool (dotted x))).set 7 st.1).set 8 (.ref st.2.1)).set 9 (.ref st.2.2.1)) (fun st => st.2.2.2 ++ [(I, .obj o), (a, .obj lo), (D, .strs hosts), (D5, .strs (hosts.map lawPath)), (104, tabA)])
      (fun st => dotted x = true → ∃ WI WB, L281 true (tokD x) (.ref st.2.1) WI ∧ L281 false (tokD x) (.ref st.2.2.1) WB ∧ (∀ z ∈ WI, z ∈ st.2.2.2) ∧ ∀ z ∈ WB, z ∈ st.2.2.2) (.b (.name (.ix 10 rfl rfl))) (fun hd => ?_) (fun hd => .jn (s.2.2.2.2.2.2.2.1, X1, X2, [(X2, .strs []), (X1, .strs [])]) rfl rfl fun h => nomatch hd.symm.trans h) fun st hJ => ?_⟩
    · have hps2 := tok_pos dx hd
      have e1 : (Str.ofString "?*").length = 2 := by decide +kernel
      have e2 : (Str.ofString "*").length = 1 := by decide +kernel
      have hsz := sizeLine_eq
      have hl1 : (patS ([.quest] ++ (.star :: (tokD x ++ [.star])))).length < 200 := by rw [← spell_q dx, app_length, app_length]; lia
      have hl2 : (patS ([] ++ (.star :: (tokD x ++ [])))).length < 200 := by rw [← spell_s dx, app_length]; lia
      refine .assign (.con (n := 4) (p := .str (lawSpelled x)) gn_spelled rfl (.cons (.name (.ix 11 rfl rfl)) .nil) (Con.s1' fun u => t274 x u okx) (by decide) (fun _ _ => trivial) fun _ _ _ r => r) (.ix 7 rfl rfl) (.assignN (.conR (n := 6) (L := L281 true (tokD x)) gn_read rfl (.cons (.conT (n := 14) (p := .str (joinRes [.quest] (tokD x) [.star])) gn_translate rfl (.tail _ (.tail _ (.tail _ (.tail _ (.tail _ (.tail _ (.head _))))))) (.cons (.bin (.bin .str (.name (.ix 7 rfl rfl)) (.adds (by lia))) .str (.adds (by rw [app_length]; lia))) .nil) (fun vs hr => ?_) (by decide) fun _ _ _ r => r) .nil) (fun vs hr => ?_) (by decide) (fun _ _ => trivial)) fun p W' hk => ?_)
      · rw [spell_q dx] at hr
        obtain ⟨v, rfl, t, rfl⟩ := reps1 hr
        refine t90 [.quest] (tokD x) [.star] t hl1 (fun t ht => ?_) (fun t ht => ?_) (fun t ht => (htk1 t ht).2.1) hps2 (.inr rfl)
        · simp only [List.mem_append, List.mem_cons, List.not_mem_nil, or_false] at ht
          rcases ht with rfl | rfl | ht | rfl
          · exact True.intro
          · exact True.intro
          · exact (htk1 t ht).1
          · exact True.intro
        · rw [List.mem_singleton.mp ht]
          exact fun e => nomatch e
      · obtain ⟨v, rfl, t, rfl⟩ := reps1 hr
        obtain ⟨z1, z2, z3, z4⟩ := read_q (mid := tokD x) htk2
        exact t281 true (tokD x) htk1 (Nat.lt_trans htk2 (by decide)) _ t z1 z2 z3 z4
      obtain ⟨WI, hLI, rfl⟩ := hk
      obtain ⟨Xi, hXi⟩ : ∃ Xi, p = .ref Xi := by obtain ⟨top, _, e, _⟩ := hLI; exact ⟨top, e⟩
      subst hXi
      refine ⟨_, .ix 8 rfl rfl, .assignN (.conR (n := 6) (L := L281 false (tokD x)) gn_read rfl (.cons (.conT (n := 14) (p := .str (joinRes [] (tokD x) [])) gn_translate rfl (List.mem_append_right _ (.tail _ (.tail _ (.tail _ (.tail _ (.tail _ (.tail _ (.head _)))))))) (.cons (.bin .str (.name (.ix 7 rfl rfl)) (.adds (by lia))) .nil) (fun vs hr => ?_) (by decide) fun _ _ _ r => r) .nil) (fun vs hr => ?_) (by decide) (fun _ _ => trivial)) fun p W' hk => ?_⟩
      · rw [spell_s dx] at hr
        obtain ⟨v, rfl, t, rfl⟩ := reps1 hr
        refine t90 [] (tokD x) [] t hl2 (fun t ht => ?_) (fun _ h => nomatch h) (fun t ht => (htk1 t ht).2.1) hps2 (.inl rfl)
        simp only [List.nil_append, List.append_nil, List.mem_cons] at ht
        rcases ht with rfl | ht
        · exact True.intro
        · exact (htk1 t ht).1
      · obtain ⟨v, rfl, t, rfl⟩ := reps1 hr
        obtain ⟨z1, z2, z3, z4⟩ := read_s (mid := tokD x) htk2
        exact t281 false (tokD x) htk1 (Nat.lt_trans htk2 (by decide)) _ t z1 z2 z3 z4
      obtain ⟨WB, hLB, rfl⟩ := hk
      obtain ⟨Xb, hXb⟩ : ∃ Xb, p = .ref Xb := by obtain ⟨top, _, e, _⟩ := hLB; exact ⟨top, e⟩
      subst hXb
      exact ⟨_, .ix 9 rfl rfl, .jn (.str (lawSpelled x), Xi, Xb, WB ++ (WI ++ [(X2, .strs []), (X1, .strs [])])) rfl (by rw [List.append_assoc, List.append_assoc]; rfl) fun _ => ⟨WI, WB, hLI, hLB, fun z hz => List.mem_append_right _ (List.mem_append_left _ hz), fun z hz => List.mem_append_left _ hz⟩⟩
    obtain ⟨spe, Xi, Xb, W9⟩ := st
    dsimp only at hJ ⊢
    refine .assign (.con (n := 8) (p := .str (lawPath x)) gn_path rfl (.cons (.name (.ix 11 rfl rfl)) .nil) (Con.s1' fun u => t267 x u dx.pathOk) (by decide) (fun _ _ => trivial) fun _ _ _ r => r) (.ix 6 rfl rfl) (.perm perm_in ?_)
    refine Sx.forZip (σ := PV × PV × PV × PV × PV × PV) (fun q => [q.1, q.2.1, q.2.2.1, q.2.2.2.1, q.2.2.2.2.1, q.2.2.2.2.2, .str (lawPath x), spe, .ref Xi, .ref Xb, .bool (dotted x), .str x, s.2.2.2.2.2.2.2.2.2.2.2.2.1, s.2.2.2.2.2.2.2.2.2.2.2.2.2, .ref D, .ref D5, .ref sl]) (fun q u v => [q.1, q.2.1, q.2.2.1, q.2.2.2.1, u, v, .str (lawPath x), spe, .ref Xi, .ref Xb, .bool (dotted x), .str x, s.2.2.2.2.2.2.2.2.2.2.2.2.1, s.2.2.2.2.2.2.2.2.2.2.2.2.2, .ref D, .ref D5, .ref sl]) (fun _ => W9 ++ [(I, .obj o), (a, .obj lo), (104, tabA)]) (fun _ _ => True) (s.1, s.2.1, s.2.2.1, s.2.2.2.1, s.2.2.2.2.1, s.2.2.2.2.2.1) hP bv_zip rfl (.ix 14 rfl rfl) (.ix 15 rfl rfl) hzip (fun st p q => ⟨_, .ix 4 rfl rfl, .ix 5 rfl rfl⟩) (fun _ => rfl) trivial (fun j q y z own hy hz _ => ?_) (fun q _ => ?_)
    rotate_left
    · exact .perm perm_in.symm (.drop (.fp (q.1, q.2.1, q.2.2.1, q.2.2.2.1, q.2.2.2.2.1, q.2.2.2.2.2, .str (lawPath x), spe, .ref Xi, .ref Xb, .bool (dotted x), .str x, s.2.2.2.2.2.2.2.2.2.2.2.2.1, s.2.2.2.2.2.2.2.2.2.2.2.2.2) rfl rfl trivial))
    obtain ⟨hy, rfl⟩ := hpath hy hz
    have hh := hhost y hy
    have dy := hh.dom
    have oky := dy.ok
    have hyl := oky.len
    have hpy := dy.pathFacts
    have hpx := dx.pathFacts
    obtain ⟨ny1, ny2⟩ := dy.names
    obtain ⟨nx1, nx2⟩ := dx.names
    have fIs : ∀ {t : Str}, Ok t → ∀ vs, reps [.str t] vs → Con 6 255 vs (fun _ => True) (fun h v h' => v = .bool (lawIsName t)) := fun ht => Con.s1' fun u => t255 _ u ht
    have fFig : ∀ {t : Str}, Ok t → ∀ vs, reps [.str t] vs → Con 4 248 vs (fun _ => True) (fun h v h' => v = .bool (lawFig t)) := fun ht => Con.s1' fun u => t248 _ u ht
    have fUm : ∀ vs, reps [.str y, .str x] vs → Con 6 71 vs (fun _ => True) (fun _ v _ => v = .bool (usrMatch y x)) := Con.s2 fun u v => t71 y x u v oky okx
    have fNm : ∀ {t : Str}, Ok t → ∀ vs, reps [.str t] vs → Con 4 260 vs (fun _ => True) (RList (lawNames t)) := fun ht => Con.s1' fun u => t260 _ u ht
    have gNm : ∀ {l : List Str} (h : Heap) (v : Value) (h' : Heap), RList l h v h' → ∃ a ob, v = .ref a ∧ h.get? a = none ∧ h'.get? a = some ob ∧ (AO.strs l).rep ob := fun h v h' r => by
      obtain ⟨D, n, ys, rfl, h1, h2, h3⟩ := r
      exact ⟨D, _, rfl, h1, h2, ys, n, rfl, h3⟩
    refine .assign (p := .bool (sameB y x)) (.cmp (.meth0 sm_lower (.name (.ix 4 rfl rfl)) (.lower (by lia))) (.meth0 sm_lower (.name (.ix 11 rfl rfl)) (.lower (by lia))) .eqs) (.ix 0 rfl rfl) ?_
    refine .assign (p := .bool (namesB y x)) (.castB (.bo (.and (.con (n := 6) (p := .bool _) gn_isname rfl (.cons (.name (.ix 4 rfl rfl)) .nil) (fIs oky) (by decide) (fun _ _ => trivial) fun _ _ _ r => r) fun _ => .and (.name (.ix 10 rfl rfl)) fun _ => .one (.con (n := 6) (p := .bool _) gn_isname rfl (.cons (.slice (.name (.ix 11 rfl rfl)) (.some .int) .none hxz) .nil) (fIs okx.slice) (by decide) (fun _ _ => trivial) fun _ _ _ r => r))) (by unfold namesB; rw [Bool.and_assoc])) (.ix 1 rfl rfl) ?_
    refine .ifte (b := false) (.cast (.cmp (.con (n := 6) (p := .bool (domMatch y x)) gn_dm rfl (.cons (.name (.ix 4 rfl rfl)) (.cons (.name (.ix 11 rfl rfl)) .nil)) (Con.s2 fun u v => t57 y x u v oky okx) (by decide) (fun _ _ => trivial) fun _ _ _ r => r) (.bo (.or (.name (.ix 0 rfl rfl)) fun _ => .one (.bo (.and (.name (.ix 1 rfl rfl)) fun hn => .one (.conP (n := 8) (p := .bool (takesFrom y (absRows true (tokD x)) 0)) gn_takes rfl (.cons (.name (.ix 8 rfl rfl)) (.cons (.name (.ix 4 rfl rfl)) .nil)) (by decide) fun h vs i hr => ?_))))) .isNot) (by rw [dom_match hh dx]; exact bne_self_eq_false _)) (fun h => nomatch h) (fun _ => .seq ?_)
    · obtain ⟨v, u, rfl, rfl, t, rfl⟩ := reps2 hr
      obtain ⟨WI, WB, h1, h2, h3, h4⟩ := hJ (names_dot hn)
      obtain ⟨rI, g1, g2⟩ := h1.rows i fun z hz => List.mem_append_right _ (List.mem_append_left _ (h3 z hz))
      exact ⟨_, _, t295 Xi rI y t hyl (rows_len g2 htk2), g1, fun v h' r => by rw [g2] at r; exact r⟩
    refine .assign (p := .bool (plainB y x)) (.bo (.and (.notv (.con (n := 4) (p := .bool _) gn_fig rfl (.cons (.name (.ix 4 rfl rfl)) .nil) (fFig oky) (by decide) (fun _ _ => trivial) fun _ _ _ r => r) .bool) fun _ => .one (.notv (.con (n := 4) (p := .bool _) gn_fig rfl (.cons (.name (.ix 11 rfl rfl)) .nil) (fFig okx) (by decide) (fun _ _ => trivial) fun _ _ _ r => r) .bool))) (.ix 2 rfl rfl) ?_
    refine .ifte (b := false) (.cast (.cmp (.con (n := 6) (p := .bool (usrMatch y x)) gn_um rfl (.cons (.name (.ix 4 rfl rfl)) (.cons (.name (.ix 11 rfl rfl)) .nil)) fUm (by decide) (fun _ _ => trivial) fun _ _ _ r => r) (.bo (.or (.name (.ix 0 rfl rfl)) fun _ => .one (.bo (.and (.name (.ix 10 rfl rfl)) fun hn => .and (.name (.ix 2 rfl rfl)) fun _ => .one (.conP (n := 8) (p := .bool (takesFrom y (absRows false (tokD x)) 0)) gn_takes rfl (.cons (.name (.ix 9 rfl rfl)) (.cons (.name (.ix 4 rfl rfl)) .nil)) (by decide) fun h vs i hr => ?_))))) .isNot) (by rw [usr_match hh dx, Bool.and_assoc]; exact bne_self_eq_false _)) (fun h => nomatch h) (fun _ => .seq ?_)
    · obtain ⟨v, u, rfl, rfl, t, rfl⟩ := reps2 hr
      obtain ⟨WI, WB, h1, h2, h3, h4⟩ := hJ hn
      obtain ⟨rB, g1, g2⟩ := h2.rows i fun z hz => List.mem_append_right _ (List.mem_append_left _ (h4 z hz))
      exact ⟨_, _, t295 Xb rB y t hyl (rows_len g2 htk2), g1, fun v h' r => by rw [g2] at r; exact r⟩
    refine .assign (p := .str (lawShared (lawNames y) (lawNames x))) (.conE (n := 10) gn_cp rfl (.cons (.strs (l := [lawPath y, lawPath x]) (.cons (.name (.ix 5 rfl rfl)) (.cons (.name (.ix 6 rfl rfl)) .nil)) (show (2 : Nat) ≤ 1000000 by decide)) fun p W' _ => .nil) (by decide) (fun h qs W' vs hK i hr => ?_) (fun qs W' hK => ?_)) (.ix 3 rfl rfl) ?_
    · obtain ⟨p, W1, qs', ⟨a9, rfl, rfl⟩, ⟨rfl, rfl⟩, rfl⟩ := hK
      obtain ⟨v, rfl, rfl⟩ := reps1 hr
      obtain ⟨ob, g1, ys, n, rfl, e⟩ := i.get (.head _)
      obtain ⟨u, v, rfl⟩ := two_map e
      exact ⟨_, _, t236 a9 _ _ u v hpy.1 hpx.1 hpy.2 hpx.2, ⟨_, g1, rfl, n, rfl⟩, fun h v h' r => by rw [shared_eq dy dx] at r; exact r⟩
    · obtain ⟨p, W1, qs', ⟨a9, rfl, rfl⟩, ⟨rfl, rfl⟩, rfl⟩ := hK
      exact ⟨[_], rfl⟩
    refine .ifte (b := false) (.cast (.cmp (.name (.ix 3 rfl rfl)) (.conE (n := 4) (p := .str (lawShared (lawNames y) (lawNames x))) gn_shared rfl (.cons (.ofA (.con (n := 4) gn_names rfl (.cons (.name (.ix 4 rfl rfl)) .nil) (fNm oky) (by decide) (fun _ _ => trivial) gNm)) fun p W' _ => .cons (.ofA (.con (n := 4) gn_names rfl (.cons (.name (.ix 11 rfl rfl)) .nil) (fNm okx) (by decide) (fun _ _ => trivial) gNm)) fun p W' _ => .nil) (by decide) (fun h qs W' vs hK i hr => ?_) (fun qs W' hK => ?_)) .nes) (bne_self_eq_false _)) (fun h => nomatch h) (fun _ => .seq ?_)
    · obtain ⟨p, W1, qs1, ⟨a9, rfl, rfl⟩, ⟨p2, W2, qs2, ⟨b9, rfl, rfl⟩, ⟨rfl, rfl⟩, rfl⟩, rfl⟩ := hK
      obtain ⟨v, u, rfl, rfl, rfl⟩ := reps2 hr
      obtain ⟨ob, g1, ys, n, rfl, e⟩ := i.get (.tail _ (.head _))
      obtain ⟨ob2, g2, zs, n2, rfl, e2⟩ := i.get (.head _)
      refine ⟨_, _, t302 a9 b9 ys zs (by rw [← List.length_map (f := (·.1)), e]; exact ny1) (by rw [← List.length_map (f := (·.1)), e2]; exact nx1) (fun z hz => Nat.lt_trans (ny2 _ (e ▸ List.mem_map_of_mem hz)) (by decide)), ⟨⟨_, g1, rfl, n, rfl⟩, ⟨_, g2, rfl, n2, rfl⟩⟩, fun h v h' r => by rw [e, e2] at r; exact r⟩
    · obtain ⟨p, W1, qs1, ⟨a9, rfl, rfl⟩, ⟨p2, W2, qs2, ⟨b9, rfl, rfl⟩, ⟨rfl, rfl⟩, rfl⟩, rfl⟩ := hK
      exact ⟨[_, _], rfl⟩
    have fin : ∀ {rst Φ}, Sx c ([.bool (sameB y x), .bool (namesB y x), .bool (plainB y x), .str (lawShared (lawNames y) (lawNames x)), .str y, .str (lawPath y), .str (lawPath x), spe, .ref Xi, .ref Xb, .bool (dotted x), .str x, s.2.2.2.2.2.2.2.2.2.2.2.2.1, s.2.2.2.2.2.2.2.2.2.2.2.2.2, .ref D, .ref D5, .ref sl]) (own ++ (W9 ++ [(I, .obj o), (a, .obj lo), (104, tabA)])) [] (Fp c (fun q : PV × PV × PV × PV × PV × PV => [q.1, q.2.1, q.2.2.1, q.2.2.2.1, q.2.2.2.2.1, q.2.2.2.2.2, .str (lawPath x), spe, .ref Xi, .ref Xb, .bool (dotted x), .str x, s.2.2.2.2.2.2.2.2.2.2.2.2.1, s.2.2.2.2.2.2.2.2.2.2.2.2.2, .ref D, .ref D5, .ref sl]) (fun _ => W9 ++ [(I, .obj o), (a, .obj lo), (104, tabA)]) (fun _ => True) own rst Φ E) E := .fp (.bool (sameB y x), .bool (namesB y x), .bool (plainB y x), .str (lawShared (lawNames y) (lawNames x)), .str y, .str (lawPath y)) rfl rfl trivial
    have hs1 := split_len y (Str.ofString ".")
    have hs2 := split_len (Txt.slice x (some 1) none) (Str.ofString ".")
    have hs3 := okx.slice (l := some 1) (u := none) |>.len
    refine .ifte0 (.bo (.and (.b (.name (.ix 10 rfl rfl))) fun _ => .and (.b (.name (.ix 2 rfl rfl))) fun _ => .and (.notInL (l := Txt.split y (Str.ofString ".") ++ Txt.split (Txt.slice x (some 1) none) (Str.ofString ".")) (.addL (.split (.name (.ix 4 rfl rfl)) .str (by decide +kernel) (by rw [sizeLine_eq]; lia)) (fun a => .split (.slice (.name (.ix 11 rfl rfl)) (.some .int) .none hxz) .str (by decide +kernel) (by rw [sizeLine_eq]; lia)) (by lia)) fun p W' hk => ?_) fun _ => .nilA)) (fun hb => ?_) (fun _ => fin)
    · obtain ⟨d, a, b, rfl, rfl⟩ := hk
      exact ⟨d, [_, _], rfl, rfl⟩
    · rw [Bool.and_eq_true, Bool.and_eq_true, Bool.and_true] at hb
      obtain ⟨b1, b2, b3⟩ := hb
      refine .ifte0 (b := false) (.cast (.cmp (.con (n := 6) (p := .bool (usrMatch y x)) gn_um rfl (.cons (.name (.ix 4 rfl rfl)) (.cons (.name (.ix 11 rfl rfl)) .nil)) fUm (by decide) (fun _ _ => trivial) fun _ _ _ r => r) (.bo (.and (.cmp (.name (.ix 3 rfl rfl)) (.name (.ix 6 rfl rfl)) .eqs) fun _ => .one (.cmp (.name (.ix 6 rfl rfl)) (.name (.ix 5 rfl rfl)) .nes))) .isNot) (by rw [last_eq hh dx b1 b2 (none_empty b3)]; exact bne_self_eq_false _)) (fun h => nomatch h) (fun _ => fin)
end
end Mine
theorem PySem.Challenge.cw_in0083_01_holds : PySem.Challenge.rw_in0083_01.Holds := by
  exact Mine.t307
