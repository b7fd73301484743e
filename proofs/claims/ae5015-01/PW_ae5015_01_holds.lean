import PyProof.Rows.All
import Wide.All
import OpenK.AllK
import Wide.FinOn
import Lean
import PySem.Challenge.RW_ae5015_01
set_option Elab.async false
set_option maxRecDepth 100000
section
namespace Mine
/-- a premise that no search takes by chance -/
structure Hid (P : Prop) : Prop where
  get : P
end Mine
end
section
open PySem PySem.W PyProof.Rows
set_option Elab.async false
namespace Mine
def live (o : Obj) : Option Obj := match some o with
  | some ⟨_, _, .freed, _⟩ => none
  | x => x
theorem get_live (h : Heap) (a : Nat) : h.get? a = (h.objs[a]?).bind live := by
  unfold Heap.get?
  cases h.objs[a]? with
  | none => rfl
  | some o => rfl
/-- of a list the elements whose places stand in `as` (ascending), in one pass -/
noncomputable def pickL (l : List Obj) : Nat → List Nat → List (Option Obj) :=
  @List.rec Obj (fun _ => Nat → List Nat → List (Option Obj)) (fun _ _ => [])
    (fun o _ ih i as => @List.rec Nat (fun _ => List (Option Obj)) [] (fun a r _ => @Bool.rec (fun _ => List (Option Obj)) (ih (Nat.succ i) (a :: r)) (live o :: ih (Nat.succ i) r) (Nat.beq a i)) as) l
theorem pickL_ok : ∀ (l : List Obj) (i : Nat) (as : List Nat), (pickL l i as).length = as.length → (∀ a ∈ as, i ≤ a) ∧ as.map (fun a => (l[a - i]?).bind live) = pickL l i as
  | [], i, as, h => by
    match as, h with
    | [], _ => exact ⟨fun a h => (List.not_mem_nil h).elim, rfl⟩
    | a :: r, h => exact absurd h (by show (0 : Nat) ≠ _; simp)
  | o :: t, i, [], h => ⟨fun a h => (List.not_mem_nil h).elim, rfl⟩
  | o :: t, i, a :: r, h => by
    cases hb : Nat.beq a i with
    | true =>
      have e : pickL (o :: t) i (a :: r) = live o :: pickL t (i + 1) r := by
        show @Bool.rec (fun _ => List (Option Obj)) (pickL t (i + 1) (a :: r)) (live o :: pickL t (i + 1) r) (Nat.beq a i) = _
        rw [hb]
      rw [e] at h ⊢
      obtain rfl := Nat.eq_of_beq_eq_true hb
      obtain ⟨x, y⟩ := pickL_ok t (a + 1) r (by simpa using h)
      refine ⟨fun b hb => ?_, ?_⟩
      · rcases List.mem_cons.mp hb with rfl | hb
        · exact Nat.le_refl _
        · exact Nat.le_of_succ_le (x b hb)
      · rw [List.map_cons, ← y]
        congr 1
        · simp
        · refine List.map_congr_left fun b hb => ?_
          have := x b hb
          rw [show b - a = (b - (a + 1)) + 1 by omega]
          rfl
    | false =>
      have e : pickL (o :: t) i (a :: r) = pickL t (i + 1) (a :: r) := by
        show @Bool.rec (fun _ => List (Option Obj)) (pickL t (i + 1) (a :: r)) (live o :: pickL t (i + 1) r) (Nat.beq a i) = _
        rw [hb]
      rw [e] at h ⊢
      obtain ⟨x, y⟩ := pickL_ok t (i + 1) (a :: r) h
      refine ⟨fun b hb => Nat.le_of_succ_le (x b hb), ?_⟩
      rw [← y]
      refine List.map_congr_left fun b hb => ?_
      have := x b hb
      rw [show b - i = (b - (i + 1)) + 1 by omega]
      rfl
theorem pick_of {K : Params → Frag} {as : List Addr} (e : ∀ P, as = (K P).map (·.1)) (w : World) (s : Shared) (x : pickL s.heap.objs.toList 0 as = (K w.params).map fun p => some p.2) : InK K w s.heap := by
  refine InK.of e w s ?_
  obtain ⟨_, y⟩ := pickL_ok s.heap.objs.toList 0 as (by rw [x, e w.params]; simp)
  rw [← x, ← y]
  refine List.map_congr_left fun a _ => ?_
  rw [get_live, Nat.sub_zero]
  simp
/-- what the walk knows of the top's end, looked at in one pass -/
noncomputable def pHook (K : Params → Frag) (as : List Addr) (e : ∀ P, as = (K P).map (·.1)) : Hook :=
  ⟨List (Option Obj), fun s => pickL s.heap.objs.toList 0 as, fun w => (K w.params).map fun p => some p.2, InK K, pick_of e, InK.keeps⟩
theorem pIn_of {K : Params → Frag} {as : List Addr} {e : ∀ P, as = (K P).map (·.1)} {w : World} {h : Heap} (Y : (pHook K as e).says w h) : (K w.params).In h := Y
end Mine
end
section
open PySem PySem.W PyProof.Rows
set_option Elab.async false
set_option maxRecDepth 100000
set_option maxHeartbeats 8000000
namespace Mine
noncomputable def plug : PySem.Str := PySem.Str.ofString "plug"
theorem plug_self : plug = plug := rfl
name_quick tw8075568018651887793 for Mine.plug by Mine.plug_self
name_quick tw10948738476641704880 for Mine.plug by Mine.plug_self
name_quick tw951843321253372498 for Mine.plug by Mine.plug_self
name_quick tw1702518465993881591 for Mine.plug by Mine.plug_self
name_quick tw8424611434330503625 for Mine.plug by Mine.plug_self
name_quick tw3891137856419664920 for Mine.plug by Mine.plug_self
name_quick tw7892128664451923741 for Mine.plug by Mine.plug_self
name_quick tw16350708796919097252 for Mine.plug by Mine.plug_self
name_quick tw17100903815162463580 for Mine.plug by Mine.plug_self
name_quick tw6679490504615227074 for Mine.plug by Mine.plug_self
name_quick tw8753696776887207221 for Mine.plug by Mine.plug_self
name_quick tw392140993173905013 for Mine.plug by Mine.plug_self
name_quick tw15980859228951719591 for Mine.plug by Mine.plug_self
name_quick tw3972328310683599613 for Mine.plug by Mine.plug_self
name_quick tw9315938663221665524 for Mine.plug by Mine.plug_self
name_quick tw17000458434675057986 for Mine.plug by Mine.plug_self
name_quick tw17069979004554194336 for Mine.plug by Mine.plug_self
name_quick tw7269565832213808900 for Mine.plug by Mine.plug_self
name_quick tw18056578402003937789 for Mine.plug by Mine.plug_self
name_quick tw1414301608579184545 for Mine.plug by Mine.plug_self
name_quick tw13900631225919944168 for Mine.plug by Mine.plug_self
name_quick tw17279654841073493023 for Mine.plug by Mine.plug_self
name_quick tw282004115355043989 for Mine.plug by Mine.plug_self
name_quick tw3105397867545767578 for Mine.plug by Mine.plug_self
name_quick tw151948405760981731 for Mine.plug by Mine.plug_self
name_quick tw4302124980754421698 for Mine.plug by Mine.plug_self
name_quick tw16916688483869632129 for Mine.plug by Mine.plug_self
name_quick tw16049961110935095269 for Mine.plug by Mine.plug_self
name_quick tw1258717718454355964 for Mine.plug by Mine.plug_self
name_quick tw11985326045990495214 for Mine.plug by Mine.plug_self
name_quick tw17672482021469178181 for Mine.plug by Mine.plug_self
name_quick tw4090926877573551719 for Mine.plug by Mine.plug_self
name_quick tw14333388528381170442 for Mine.plug by Mine.plug_self
name_quick tw17476080006546285661 for Mine.plug by Mine.plug_self
name_quick tw3282434896037501709 for Mine.plug by Mine.plug_self
name_quick tw3764465048917985505 for Mine.plug by Mine.plug_self
name_quick tw18340240734955500558 for Mine.plug by Mine.plug_self
name_quick tw13335737130258781183 for Mine.plug by Mine.plug_self
name_quick tw14834023430324568649 for Mine.plug by Mine.plug_self
name_quick tw11420187438672877268 for Mine.plug by Mine.plug_self
name_quick tw8206430501311747189 for Mine.plug by Mine.plug_self
name_quick tw7745614565497352828 for Mine.plug by Mine.plug_self
name_quick tw17975652961387846372 for Mine.plug by Mine.plug_self
name_quick tw4011157648589011858 for Mine.plug by Mine.plug_self
name_quick tw1258299570235058372 for Mine.plug by Mine.plug_self
name_quick tw16531745337717519161 for Mine.plug by Mine.plug_self
name_quick tw14714103240675001986 for Mine.plug by Mine.plug_self
name_quick tw2283851925072248500 for Mine.plug by Mine.plug_self
name_quick tw3152983702415266003 for Mine.plug by Mine.plug_self
name_quick tw18220123701641295943 for Mine.plug by Mine.plug_self
name_quick tw1291980286583624508 for Mine.plug by Mine.plug_self
name_quick tw3636048126100218174 for Mine.plug by Mine.plug_self
name_quick tw13236226663087606529 for Mine.plug by Mine.plug_self
name_quick tw9011979029575296479 for Mine.plug by Mine.plug_self
name_quick tw17730428716208468724 for Mine.plug by Mine.plug_self
name_quick tw8603108125212654177 for Mine.plug by Mine.plug_self
name_quick tw13317431791736044220 for Mine.plug by Mine.plug_self
name_quick tw8376441433122354887 for Mine.plug by Mine.plug_self
name_quick tw15475462885187679331 for Mine.plug by Mine.plug_self
name_quick tw10227693086864044499 for Mine.plug by Mine.plug_self
name_quick tw2862820112641550484 for Mine.plug by Mine.plug_self
name_quick tw14126943448341045398 for Mine.plug by Mine.plug_self
name_quick tw1333364371103165705 for Mine.plug by Mine.plug_self
name_quick tw9467589175468403638 for Mine.plug by Mine.plug_self
name_quick tw16018607276475445134 for Mine.plug by Mine.plug_self
name_quick tw5721027456603625697 for Mine.plug by Mine.plug_self
name_quick tw17000155066101142889 for Mine.plug by Mine.plug_self
name_quick tw15007238320947547705 for Mine.plug by Mine.plug_self
name_quick tw8703263022893421829 for Mine.plug by Mine.plug_self
name_quick tw6245536207120538393 for Mine.plug by Mine.plug_self
name_quick tw16241802466949684156 for Mine.plug by Mine.plug_self
name_quick tw13678640442995254988 for Mine.plug by Mine.plug_self
name_quick tw6683783046931543321 for Mine.plug by Mine.plug_self
name_quick tw8537084889766193716 for Mine.plug by Mine.plug_self
name_quick tw15066959818950650227 for Mine.plug by Mine.plug_self
name_quick tw9862997608875712007 for Mine.plug by Mine.plug_self
name_quick tw17532718790514356516 for Mine.plug by Mine.plug_self
name_quick tw16817318245366136608 for Mine.plug by Mine.plug_self
name_quick tw17888162413812561239 for Mine.plug by Mine.plug_self
name_quick tw15168306246750427876 for Mine.plug by Mine.plug_self
name_quick tw10938465397075749097 for Mine.plug by Mine.plug_self
name_quick tw1218959903707654005 for Mine.plug by Mine.plug_self
name_quick tw16414604833108395602 for Mine.plug by Mine.plug_self
name_quick tw12945451867199242903 for Mine.plug by Mine.plug_self
name_quick tw12268644228514654432 for Mine.plug by Mine.plug_self
name_quick tw15263041282635125899 for Mine.plug by Mine.plug_self
name_quick tw4071324889030633612 for Mine.plug by Mine.plug_self
name_quick tw5349121933718820234 for Mine.plug by Mine.plug_self
name_quick tw2478078296215019888 for Mine.plug by Mine.plug_self
name_quick tw8693227569615203950 for Mine.plug by Mine.plug_self
name_quick tw7232422423428716515 for Mine.plug by Mine.plug_self
name_quick tw10029231156530900338 for Mine.plug by Mine.plug_self
name_quick tw14223099787259518943 for Mine.plug by Mine.plug_self
name_quick tw470574548607681690 for Mine.plug by Mine.plug_self
name_quick tw3619232141914619222 for Mine.plug by Mine.plug_self
name_quick tw4558998842232669794 for Mine.plug by Mine.plug_self
name_quick tw662354867322794072 for Mine.plug by Mine.plug_self
name_quick tw11317593695737139937 for Mine.plug by Mine.plug_self
name_quick tw5978237884098788730 for Mine.plug by Mine.plug_self
name_quick tw5268983451555188008 for Mine.plug by Mine.plug_self
name_quick tw136631920214876835 for Mine.plug by Mine.plug_self
name_quick tw16349804527192203551 for Mine.plug by Mine.plug_self
name_quick tw505943868828395459 for Mine.plug by Mine.plug_self
name_quick tw14168537005229113720 for Mine.plug by Mine.plug_self
name_quick tw5770868932273138760 for Mine.plug by Mine.plug_self
name_quick tw18350330562280901221 for Mine.plug by Mine.plug_self
name_quick tw17497748084772794779 for Mine.plug by Mine.plug_self
name_quick tw3131671291697673992 for Mine.plug by Mine.plug_self
name_quick tw4527066259768149269 for Mine.plug by Mine.plug_self
name_quick tw16593013826814733010 for Mine.plug by Mine.plug_self
name_quick tw4933834842325187142 for Mine.plug by Mine.plug_self
name_quick tw1355338860687761863 for Mine.plug by Mine.plug_self
name_quick tw1537898542681612871 for Mine.plug by Mine.plug_self
name_quick tw1377046205977697930 for Mine.plug by Mine.plug_self
name_quick tw1092655722715705105 for Mine.plug by Mine.plug_self
name_quick tw2627984346626558326 for Mine.plug by Mine.plug_self
name_quick tw4552823106982906706 for Mine.plug by Mine.plug_self
name_quick tw9407582987413476825 for Mine.plug by Mine.plug_self
name_quick tw682011567655089306 for Mine.plug by Mine.plug_self
name_quick tw3976722010076183465 for Mine.plug by Mine.plug_self
name_quick tw14386061602966655976 for Mine.plug by Mine.plug_self
name_quick tw10424941004445345732 for Mine.plug by Mine.plug_self
name_quick tw4658958612460137192 for Mine.plug by Mine.plug_self
name_quick tw13512673800721320934 for Mine.plug by Mine.plug_self
name_quick tw17964007177503468958 for Mine.plug by Mine.plug_self
name_quick tw11588390666370768167 for Mine.plug by Mine.plug_self
name_quick tw4549333791460862111 for Mine.plug by Mine.plug_self
name_quick tw15894407043143930727 for Mine.plug by Mine.plug_self
name_quick tw14311459727803291754 for Mine.plug by Mine.plug_self
name_quick tw117213463901210413 for Mine.plug by Mine.plug_self
name_quick tw18211773271919218964 for Mine.plug by Mine.plug_self
name_quick tw13254397897704925713 for Mine.plug by Mine.plug_self
name_quick tw2719445374943340272 for Mine.plug by Mine.plug_self
name_quick tw4292500188555128830 for Mine.plug by Mine.plug_self
name_quick tw6929956602132211858 for Mine.plug by Mine.plug_self
name_quick tw10887116778572429059 for Mine.plug by Mine.plug_self
name_quick tw3577408171920636059 for Mine.plug by Mine.plug_self
name_quick tw13981391230805400906 for Mine.plug by Mine.plug_self
name_quick tw4775785305629353868 for Mine.plug by Mine.plug_self
name_quick tw14884601019740666482 for Mine.plug by Mine.plug_self
name_quick tw5706481520468235054 for Mine.plug by Mine.plug_self
name_quick tw17532440430192770315 for Mine.plug by Mine.plug_self
name_quick tw15742981410569661332 for Mine.plug by Mine.plug_self
name_quick tw3362959441861295915 for Mine.plug by Mine.plug_self
name_quick tw5032809538720368765 for Mine.plug by Mine.plug_self
name_quick tw9763268239775435451 for Mine.plug by Mine.plug_self
name_quick tw6434138532213402376 for Mine.plug by Mine.plug_self
name_quick tw2408619945344806742 for Mine.plug by Mine.plug_self
name_quick tw17730448691065144110 for Mine.plug by Mine.plug_self
name_quick tw11543547407058413889 for Mine.plug by Mine.plug_self
name_quick tw16741492637210864865 for Mine.plug by Mine.plug_self
name_quick tw14326252917377295143 for Mine.plug by Mine.plug_self
name_quick tw4679858250743294509 for Mine.plug by Mine.plug_self
name_quick tw10996506086634736982 for Mine.plug by Mine.plug_self
name_quick tw6122645084068987007 for Mine.plug by Mine.plug_self
name_quick tw17954471519018878134 for Mine.plug by Mine.plug_self
name_quick tw11270796479367742343 for Mine.plug by Mine.plug_self
name_quick tw6004533443673955352 for Mine.plug by Mine.plug_self
name_quick tw6654550962395885724 for Mine.plug by Mine.plug_self
name_quick tw10205541121877940668 for Mine.plug by Mine.plug_self
name_quick tw13789449189825218787 for Mine.plug by Mine.plug_self
name_quick tw2039238271031011813 for Mine.plug by Mine.plug_self
name_quick tw11566699232636054958 for Mine.plug by Mine.plug_self
name_quick tw460243522976405022 for Mine.plug by Mine.plug_self
name_quick tw5529568453561195837 for Mine.plug by Mine.plug_self
name_quick tw15278061642289888581 for Mine.plug by Mine.plug_self
name_quick tw12290603225136948437 for Mine.plug by Mine.plug_self
name_quick tw11788150170368784547 for Mine.plug by Mine.plug_self
name_quick tw11333186260410459676 for Mine.plug by Mine.plug_self
name_quick tw932993149863042379 for Mine.plug by Mine.plug_self
name_quick tw17164873540382356111 for Mine.plug by Mine.plug_self
name_quick tw1402947280878808549 for Mine.plug by Mine.plug_self
name_quick tw11853533878840232495 for Mine.plug by Mine.plug_self
name_quick tw15490439104401381959 for Mine.plug by Mine.plug_self
name_quick tw43969757491396457 for Mine.plug by Mine.plug_self
name_quick tw5111356299099525756 for Mine.plug by Mine.plug_self
name_quick tw8595292554425487202 for Mine.plug by Mine.plug_self
name_quick tw5200128776193632040 for Mine.plug by Mine.plug_self
name_quick tw3560238982266916124 for Mine.plug by Mine.plug_self
name_quick tw3766158894648301139 for Mine.plug by Mine.plug_self
name_quick tw16643706677886111943 for Mine.plug by Mine.plug_self
name_quick tw5396446701170858492 for Mine.plug by Mine.plug_self
name_quick tw1620339239838986703 for Mine.plug by Mine.plug_self
name_quick tw16548257151911338427 for Mine.plug by Mine.plug_self
name_quick tw18260038339965228139 for Mine.plug by Mine.plug_self
name_quick tw16846860572762119324 for Mine.plug by Mine.plug_self
name_quick tw5189142188285759775 for Mine.plug by Mine.plug_self
name_quick tw13180171748994924942 for Mine.plug by Mine.plug_self
name_quick tw8727135674562949291 for Mine.plug by Mine.plug_self
name_quick tw9136488742655976645 for Mine.plug by Mine.plug_self
name_quick tw13759679279233594173 for Mine.plug by Mine.plug_self
name_quick tw11445135464325071761 for Mine.plug by Mine.plug_self
name_quick tw7392212959928792091 for Mine.plug by Mine.plug_self
name_quick tw14553827428707814869 for Mine.plug by Mine.plug_self
name_quick tw900395245841561262 for Mine.plug by Mine.plug_self
name_quick tw7299303143086499733 for Mine.plug by Mine.plug_self
name_quick tw11130039905162102590 for Mine.plug by Mine.plug_self
name_quick tw12659028871203227004 for Mine.plug by Mine.plug_self
name_quick tw7250012664060256230 for Mine.plug by Mine.plug_self
name_quick tw13559156169165276386 for Mine.plug by Mine.plug_self
name_quick tw14530364306720264245 for Mine.plug by Mine.plug_self
name_quick tw6792406925840432001 for Mine.plug by Mine.plug_self
name_quick tw2611137233208623240 for Mine.plug by Mine.plug_self
name_quick tw387338674003428930 for Mine.plug by Mine.plug_self
name_quick tw17828083071136270317 for Mine.plug by Mine.plug_self
name_quick tw3093977132361051618 for Mine.plug by Mine.plug_self
name_quick tw11277716924127702174 for Mine.plug by Mine.plug_self
name_quick tw18101931140130867144 for Mine.plug by Mine.plug_self
name_quick tw11186114360453789277 for Mine.plug by Mine.plug_self
name_quick tw7323676302269181137 for Mine.plug by Mine.plug_self
name_quick tw14433975572909055671 for Mine.plug by Mine.plug_self
name_quick tw9759809726879904816 for Mine.plug by Mine.plug_self
name_quick tw10706342367453228570 for Mine.plug by Mine.plug_self
name_quick tw12635297910168745909 for Mine.plug by Mine.plug_self
name_quick tw16643379632663270332 for Mine.plug by Mine.plug_self
name_quick tw16145008321745377990 for Mine.plug by Mine.plug_self
name_quick tw8119918657739134586 for Mine.plug by Mine.plug_self
name_quick tw4978915544186085027 for Mine.plug by Mine.plug_self
name_quick tw2664551874359636763 for Mine.plug by Mine.plug_self
name_quick tw11306939235166856333 for Mine.plug by Mine.plug_self
name_quick tw9501820088010722379 for Mine.plug by Mine.plug_self
name_quick tw11939915149646268982 for Mine.plug by Mine.plug_self
name_quick tw14821650378409806113 for Mine.plug by Mine.plug_self
name_quick tw9285146279643344392 for Mine.plug by Mine.plug_self
name_quick tw11452132507678324671 for Mine.plug by Mine.plug_self
name_quick tw2670528217467546775 for Mine.plug by Mine.plug_self
name_quick tw8719427161674164953 for Mine.plug by Mine.plug_self
name_quick tw2660918139993853925 for Mine.plug by Mine.plug_self
name_quick tw4075660801711882420 for Mine.plug by Mine.plug_self
name_quick tw5357591511691535388 for Mine.plug by Mine.plug_self
name_quick tw6817277305950994716 for Mine.plug by Mine.plug_self
name_quick tw14023627001141898710 for Mine.plug by Mine.plug_self
name_quick tw3698559305507148144 for Mine.plug by Mine.plug_self
name_quick tw3094477031063562474 for Mine.plug by Mine.plug_self
name_quick tw17057272898397164401 for Mine.plug by Mine.plug_self
name_quick tw10073347824450446311 for Mine.plug by Mine.plug_self
name_quick tw18416463498863911781 for Mine.plug by Mine.plug_self
name_quick tw10323183001455561277 for Mine.plug by Mine.plug_self
name_quick tw17552769576498331613 for Mine.plug by Mine.plug_self
name_quick tw9529234661008812162 for Mine.plug by Mine.plug_self
name_quick tw13036272033356848781 for Mine.plug by Mine.plug_self
name_quick tw9594665118957945026 for Mine.plug by Mine.plug_self
name_quick tw7581352650102555174 for Mine.plug by Mine.plug_self
name_quick tw16439824349840649037 for Mine.plug by Mine.plug_self
name_quick tw7401281599722004195 for Mine.plug by Mine.plug_self
name_quick tw16752143609539240740 for Mine.plug by Mine.plug_self
name_quick tw15560500314895047343 for Mine.plug by Mine.plug_self
name_quick tw2334299552400917057 for Mine.plug by Mine.plug_self
name_quick tw5882768191206486792 for Mine.plug by Mine.plug_self
name_quick tw4748654258956052638 for Mine.plug by Mine.plug_self
name_quick tw16296994325663420285 for Mine.plug by Mine.plug_self
name_quick tw6550987210724342151 for Mine.plug by Mine.plug_self
name_quick tw2422670821966735624 for Mine.plug by Mine.plug_self
name_quick tw9787463984185863102 for Mine.plug by Mine.plug_self
name_quick tw347637069881736656 for Mine.plug by Mine.plug_self
name_quick tw7496433998918960881 for Mine.plug by Mine.plug_self
name_quick tw11625766737575182897 for Mine.plug by Mine.plug_self
name_quick tw667198328695590252 for Mine.plug by Mine.plug_self
name_quick tw3442601649717412197 for Mine.plug by Mine.plug_self
name_quick tw15919542637913265678 for Mine.plug by Mine.plug_self
name_quick tw15663404670287596823 for Mine.plug by Mine.plug_self
name_quick tw3856783459128436802 for Mine.plug by Mine.plug_self
name_quick tw11964429278604863157 for Mine.plug by Mine.plug_self
name_quick tw5076957145309523181 for Mine.plug by Mine.plug_self
name_quick tw14073706353221006472 for Mine.plug by Mine.plug_self
name_quick tw9458956999447867950 for Mine.plug by Mine.plug_self
name_quick tw17846936440860909165 for Mine.plug by Mine.plug_self
name_quick tw15766043655864335149 for Mine.plug by Mine.plug_self
name_quick tw13640514254501968386 for Mine.plug by Mine.plug_self
name_quick tw11994158751524154303 for Mine.plug by Mine.plug_self
name_quick tw12635813782599140982 for Mine.plug by Mine.plug_self
name_quick tw6711915476519705758 for Mine.plug by Mine.plug_self
name_quick tw11636919720809706868 for Mine.plug by Mine.plug_self
name_quick tw9951705424602377420 for Mine.plug by Mine.plug_self
name_quick tw12237943961548833269 for Mine.plug by Mine.plug_self
name_quick tw13912434898499826684 for Mine.plug by Mine.plug_self
name_quick tw912392155897948271 for Mine.plug by Mine.plug_self
name_quick tw1617757218408452269 for Mine.plug by Mine.plug_self
name_quick tw8400853705098224536 for Mine.plug by Mine.plug_self
name_quick tw8098380416015320538 for Mine.plug by Mine.plug_self
name_quick tw12329403913580668285 for Mine.plug by Mine.plug_self
name_quick tw12172078356533094185 for Mine.plug by Mine.plug_self
name_quick tw11462045893675790159 for Mine.plug by Mine.plug_self
name_quick tw4407734736301137906 for Mine.plug by Mine.plug_self
name_quick tw11161088081135249708 for Mine.plug by Mine.plug_self
name_quick tw16979880578912567463 for Mine.plug by Mine.plug_self
name_quick tw4039474712603431140 for Mine.plug by Mine.plug_self
name_quick tw14896874001708588922 for Mine.plug by Mine.plug_self
name_quick tw4224760802259116069 for Mine.plug by Mine.plug_self
name_quick tw13141144453892091621 for Mine.plug by Mine.plug_self
name_quick tw15450981722951097364 for Mine.plug by Mine.plug_self
name_quick tw6019396324639902685 for Mine.plug by Mine.plug_self
name_quick tw12813236842856870187 for Mine.plug by Mine.plug_self
name_quick tw16697116713213952808 for Mine.plug by Mine.plug_self
name_quick tw7650934615059315214 for Mine.plug by Mine.plug_self
name_quick tw16966814322356759819 for Mine.plug by Mine.plug_self
name_quick tw15323854079317868165 for Mine.plug by Mine.plug_self
name_quick tw5135500740108067664 for Mine.plug by Mine.plug_self
name_quick tw183835017167291270 for Mine.plug by Mine.plug_self
name_quick tw3820604794100220378 for Mine.plug by Mine.plug_self
name_quick tw3039592710220408265 for Mine.plug by Mine.plug_self
name_quick tw721709456127091705 for Mine.plug by Mine.plug_self
name_quick tw8642067239939848140 for Mine.plug by Mine.plug_self
name_quick tw7198390536060210744 for Mine.plug by Mine.plug_self
name_quick tw1574873078441994576 for Mine.plug by Mine.plug_self
name_quick tw9931943479562821362 for Mine.plug by Mine.plug_self
name_quick tw4319705520415482375 for Mine.plug by Mine.plug_self
name_quick tw13615603153576403970 for Mine.plug by Mine.plug_self
name_quick tw3424931102881643321 for Mine.plug by Mine.plug_self
name_quick tw14224011070414065920 for Mine.plug by Mine.plug_self
name_quick tw11013792430000457035 for Mine.plug by Mine.plug_self
name_quick tw17804436615005485693 for Mine.plug by Mine.plug_self
name_quick tw10314498396905981064 for Mine.plug by Mine.plug_self
name_quick tw9800571698397750058 for Mine.plug by Mine.plug_self
name_quick tw12850107946570832962 for Mine.plug by Mine.plug_self
name_quick tw9979284746773624096 for Mine.plug by Mine.plug_self
name_quick tw16374537267813192141 for Mine.plug by Mine.plug_self
name_quick tw17517737089405305841 for Mine.plug by Mine.plug_self
name_quick tw11310463157757771331 for Mine.plug by Mine.plug_self
name_quick tw6662432510661729299 for Mine.plug by Mine.plug_self
name_quick tw8708707556590381134 for Mine.plug by Mine.plug_self
name_quick tw17274371674624000324 for Mine.plug by Mine.plug_self
name_quick tw9151444980202551346 for Mine.plug by Mine.plug_self
name_quick tw3880421473898291048 for Mine.plug by Mine.plug_self
name_quick tw8017206721242287953 for Mine.plug by Mine.plug_self
name_quick tw10317580896714288900 for Mine.plug by Mine.plug_self
name_quick tw5345256250457102556 for Mine.plug by Mine.plug_self
name_quick tw8032284361305108907 for Mine.plug by Mine.plug_self
name_quick tw15900120412870309639 for Mine.plug by Mine.plug_self
name_quick tw3264259588550801142 for Mine.plug by Mine.plug_self
name_quick tw313226197891681235 for Mine.plug by Mine.plug_self
name_quick tw7299951869573292228 for Mine.plug by Mine.plug_self
name_quick tw12832477231654346042 for Mine.plug by Mine.plug_self
name_quick tw1706496860858754268 for Mine.plug by Mine.plug_self
name_quick tw12392613427281201732 for Mine.plug by Mine.plug_self
name_quick tw16176465441171805009 for Mine.plug by Mine.plug_self
name_quick tw10470071008263537045 for Mine.plug by Mine.plug_self
name_quick tw7788680626742099145 for Mine.plug by Mine.plug_self
name_quick tw7397068168572129948 for Mine.plug by Mine.plug_self
name_quick tw12734952128020822468 for Mine.plug by Mine.plug_self
name_quick tw6363645014702824404 for Mine.plug by Mine.plug_self
name_quick tw1156252341971683116 for Mine.plug by Mine.plug_self
name_quick tw17863021456227041891 for Mine.plug by Mine.plug_self
name_quick tw2711585505577850959 for Mine.plug by Mine.plug_self
name_quick tw5701610774189311196 for Mine.plug by Mine.plug_self
name_quick tw8796240567053077481 for Mine.plug by Mine.plug_self
name_quick tw7035115661146626270 for Mine.plug by Mine.plug_self
name_quick tw11863081143760314161 for Mine.plug by Mine.plug_self
name_quick tw16947794391021106201 for Mine.plug by Mine.plug_self
name_quick tw5732905514179830355 for Mine.plug by Mine.plug_self
name_quick tw1749818173716722547 for Mine.plug by Mine.plug_self
name_quick tw9376109419431680627 for Mine.plug by Mine.plug_self
name_quick tw12835720964997663042 for Mine.plug by Mine.plug_self
name_quick tw2447775223705975068 for Mine.plug by Mine.plug_self
name_quick tw6059929106960060952 for Mine.plug by Mine.plug_self
name_quick tw12825359941727978080 for Mine.plug by Mine.plug_self
name_quick tw7365555872484859036 for Mine.plug by Mine.plug_self
name_quick tw12177639751122801600 for Mine.plug by Mine.plug_self
name_quick tw724751600484774222 for Mine.plug by Mine.plug_self
name_quick tw17434858337260393937 for Mine.plug by Mine.plug_self
name_quick tw4434333111790514575 for Mine.plug by Mine.plug_self
name_quick tw15823609455315575823 for Mine.plug by Mine.plug_self
name_quick tw17001327861769816259 for Mine.plug by Mine.plug_self
name_quick tw12371321757623732685 for Mine.plug by Mine.plug_self
name_quick tw1772237422875290029 for Mine.plug by Mine.plug_self
name_quick tw10919533547850550483 for Mine.plug by Mine.plug_self
name_quick tw16349216596472256690 for Mine.plug by Mine.plug_self
name_quick tw1184552218554016812 for Mine.plug by Mine.plug_self
name_quick tw14112274594779413971 for Mine.plug by Mine.plug_self
name_quick tw878741703135273975 for Mine.plug by Mine.plug_self
name_quick tw13002492023102617099 for Mine.plug by Mine.plug_self
name_quick tw11108263761283441063 for Mine.plug by Mine.plug_self
name_quick tw15423634916342008072 for Mine.plug by Mine.plug_self
name_quick tw7009043117176579089 for Mine.plug by Mine.plug_self
name_quick tw5518745428033880147 for Mine.plug by Mine.plug_self
name_quick tw1735497430108182060 for Mine.plug by Mine.plug_self
name_quick tw13642483538084851733 for Mine.plug by Mine.plug_self
name_quick tw9674257727999782656 for Mine.plug by Mine.plug_self
name_quick tw7783732958741208154 for Mine.plug by Mine.plug_self
name_quick tw13776390136698705113 for Mine.plug by Mine.plug_self
name_quick tw6434265647005701932 for Mine.plug by Mine.plug_self
name_quick tw11682084944484805031 for Mine.plug by Mine.plug_self
name_quick tw12393455550290869266 for Mine.plug by Mine.plug_self
name_quick tw8224813933742928703 for Mine.plug by Mine.plug_self
name_quick tw9626621113073979434 for Mine.plug by Mine.plug_self
name_quick tw17300597898927385350 for Mine.plug by Mine.plug_self
name_quick tw15079194523842364033 for Mine.plug by Mine.plug_self
name_quick tw3118938333895590913 for Mine.plug by Mine.plug_self
name_quick tw7581816359482902497 for Mine.plug by Mine.plug_self
name_quick tw15542503528162795033 for Mine.plug by Mine.plug_self
name_quick tw12022618010286034681 for Mine.plug by Mine.plug_self
name_quick tw2354101950205528012 for Mine.plug by Mine.plug_self
name_quick tw4275521005467322725 for Mine.plug by Mine.plug_self
name_quick tw8253183596043897158 for Mine.plug by Mine.plug_self
name_quick tw14210447440969649564 for Mine.plug by Mine.plug_self
name_quick tw7094674258960923220 for Mine.plug by Mine.plug_self
name_quick tw8989982439271903415 for Mine.plug by Mine.plug_self
name_quick tw2193789692954389824 for Mine.plug by Mine.plug_self
name_quick tw1886563365779066154 for Mine.plug by Mine.plug_self
name_quick tw5823794197072137003 for Mine.plug by Mine.plug_self
name_quick tw2315820567201803617 for Mine.plug by Mine.plug_self
name_quick tw6135381517318000843 for Mine.plug by Mine.plug_self
name_quick tw6426273055680023932 for Mine.plug by Mine.plug_self
name_quick tw4921902886906138986 for Mine.plug by Mine.plug_self
name_quick tw9676229304581654039 for Mine.plug by Mine.plug_self
name_quick tw11707433790658880453 for Mine.plug by Mine.plug_self
name_quick tw16413264400604254196 for Mine.plug by Mine.plug_self
name_quick tw16869277618539721502 for Mine.plug by Mine.plug_self
name_quick tw12898947447245864913 for Mine.plug by Mine.plug_self
name_quick tw9305782018832362445 for Mine.plug by Mine.plug_self
name_quick tw11790162104776037713 for Mine.plug by Mine.plug_self
name_quick tw15195428891847259777 for Mine.plug by Mine.plug_self
name_quick tw3315324234476444515 for Mine.plug by Mine.plug_self
name_quick tw558745408833754511 for Mine.plug by Mine.plug_self
name_quick tw17537794083376710389 for Mine.plug by Mine.plug_self
name_quick tw1638017585896720355 for Mine.plug by Mine.plug_self
name_quick tw16180582048198870337 for Mine.plug by Mine.plug_self
name_quick tw1041845030581493396 for Mine.plug by Mine.plug_self
name_quick tw5697894365363955025 for Mine.plug by Mine.plug_self
name_quick tw8450942572126056277 for Mine.plug by Mine.plug_self
name_quick tw12450158673883907302 for Mine.plug by Mine.plug_self
name_quick tw1419416864934026935 for Mine.plug by Mine.plug_self
name_quick tw5925582254088234700 for Mine.plug by Mine.plug_self
name_quick tw8047484207015712433 for Mine.plug by Mine.plug_self
name_quick tw4525517667737911620 for Mine.plug by Mine.plug_self
name_quick tw11838138170533393997 for Mine.plug by Mine.plug_self
name_quick tw7504490480230193789 for Mine.plug by Mine.plug_self
name_quick tw6722154040420286063 for Mine.plug by Mine.plug_self
name_quick tw7098571738820278039 for Mine.plug by Mine.plug_self
name_quick tw13987355940573415152 for Mine.plug by Mine.plug_self
name_quick tw11796506867022685745 for Mine.plug by Mine.plug_self
name_quick tw18263319221461684349 for Mine.plug by Mine.plug_self
name_quick tw15034313371233782410 for Mine.plug by Mine.plug_self
name_quick tw16494616584097029746 for Mine.plug by Mine.plug_self
name_quick tw1370275717833778536 for Mine.plug by Mine.plug_self
name_quick tw2968979199505139716 for Mine.plug by Mine.plug_self
name_quick tw12981051755390344553 for Mine.plug by Mine.plug_self
name_quick tw15806122291839087668 for Mine.plug by Mine.plug_self
name_quick tw8902219603052485911 for Mine.plug by Mine.plug_self
name_quick tw3436264866546951355 for Mine.plug by Mine.plug_self
name_quick tw2599325451414397859 for Mine.plug by Mine.plug_self
name_quick tw11519604305632133818 for Mine.plug by Mine.plug_self
name_quick tw608726401823008365 for Mine.plug by Mine.plug_self
name_quick tw10500077913531017323 for Mine.plug by Mine.plug_self
name_quick tw6967401301877209104 for Mine.plug by Mine.plug_self
name_quick tw1320183511955256522 for Mine.plug by Mine.plug_self
name_quick tw7286323032743288035 for Mine.plug by Mine.plug_self
name_quick tw16792545251062261874 for Mine.plug by Mine.plug_self
name_quick tw15376083050721069600 for Mine.plug by Mine.plug_self
name_quick tw11892598404827812706 for Mine.plug by Mine.plug_self
name_quick tw607167704815816724 for Mine.plug by Mine.plug_self
name_quick tw13809362725867891129 for Mine.plug by Mine.plug_self
name_quick tw16437185098154296904 for Mine.plug by Mine.plug_self
name_quick tw3386650904741475044 for Mine.plug by Mine.plug_self
name_quick tw441327347791068078 for Mine.plug by Mine.plug_self
name_quick tw1055568401681811165 for Mine.plug by Mine.plug_self
name_quick tw6714822604882049554 for Mine.plug by Mine.plug_self
name_quick tw16406328271908756883 for Mine.plug by Mine.plug_self
name_quick tw2951486255847992690 for Mine.plug by Mine.plug_self
name_quick tw5248340912204065574 for Mine.plug by Mine.plug_self
name_quick tw3470799630455053000 for Mine.plug by Mine.plug_self
name_quick tw3209381107111851631 for Mine.plug by Mine.plug_self
name_quick tw9396933662098498411 for Mine.plug by Mine.plug_self
name_quick tw16874561944515371726 for Mine.plug by Mine.plug_self
name_quick tw8620020772036689432 for Mine.plug by Mine.plug_self
name_quick tw9300948228871686676 for Mine.plug by Mine.plug_self
name_quick tw17244072584429378644 for Mine.plug by Mine.plug_self
name_quick tw7585139358526817783 for Mine.plug by Mine.plug_self
name_quick tw13915792640404377917 for Mine.plug by Mine.plug_self
name_quick tw757081541053455785 for Mine.plug by Mine.plug_self
name_quick tw11957962974430299695 for Mine.plug by Mine.plug_self
name_quick tw10670733350059645105 for Mine.plug by Mine.plug_self
name_quick tw2948108419219029167 for Mine.plug by Mine.plug_self
name_quick tw17394056326795013819 for Mine.plug by Mine.plug_self
name_quick tw1763209079605825380 for Mine.plug by Mine.plug_self
name_quick tw189603312586018693 for Mine.plug by Mine.plug_self
name_quick tw17352973434858128600 for Mine.plug by Mine.plug_self
name_quick tw17101871299007795629 for Mine.plug by Mine.plug_self
name_quick tw5565278806992967083 for Mine.plug by Mine.plug_self
name_quick tw16644606511662114574 for Mine.plug by Mine.plug_self
name_quick tw13314330512976039754 for Mine.plug by Mine.plug_self
name_quick tw7802139600951554647 for Mine.plug by Mine.plug_self
name_quick tw16655555454665732581 for Mine.plug by Mine.plug_self
name_quick tw10015664371746657536 for Mine.plug by Mine.plug_self
name_quick tw2378363196638174374 for Mine.plug by Mine.plug_self
name_quick tw6587116730350146372 for Mine.plug by Mine.plug_self
name_quick tw11707371222683016368 for Mine.plug by Mine.plug_self
name_quick tw4681523508651956083 for Mine.plug by Mine.plug_self
name_quick tw16432479971616331241 for Mine.plug by Mine.plug_self
name_quick tw13526986893379352335 for Mine.plug by Mine.plug_self
name_quick tw6090905460779295987 for Mine.plug by Mine.plug_self
name_quick tw18350638575300117064 for Mine.plug by Mine.plug_self
name_quick tw1204117194425446250 for Mine.plug by Mine.plug_self
name_quick tw12488000419048109807 for Mine.plug by Mine.plug_self
name_quick tw14778209649434054790 for Mine.plug by Mine.plug_self
name_quick tw8459811325457737761 for Mine.plug by Mine.plug_self
name_quick tw6125931036764729998 for Mine.plug by Mine.plug_self
name_quick tw16339471991904476338 for Mine.plug by Mine.plug_self
name_quick tw12224578244612797663 for Mine.plug by Mine.plug_self
name_quick tw2922074901204462755 for Mine.plug by Mine.plug_self
name_quick tw4904739604578439355 for Mine.plug by Mine.plug_self
name_quick tw5068434257544371817 for Mine.plug by Mine.plug_self
name_quick tw7483462131439158144 for Mine.plug by Mine.plug_self
name_quick tw2736616831223182526 for Mine.plug by Mine.plug_self
name_quick tw4278798014809849964 for Mine.plug by Mine.plug_self
name_quick tw2401699919119007470 for Mine.plug by Mine.plug_self
name_quick tw14971970265804392439 for Mine.plug by Mine.plug_self
name_quick tw2902314222560053993 for Mine.plug by Mine.plug_self
name_quick tw15902184279288820625 for Mine.plug by Mine.plug_self
name_quick tw4172830789200971933 for Mine.plug by Mine.plug_self
name_quick tw6148621092414575339 for Mine.plug by Mine.plug_self
name_quick tw15562837088269578035 for Mine.plug by Mine.plug_self
name_quick tw10379131730601215995 for Mine.plug by Mine.plug_self
name_quick tw17774800907425398282 for Mine.plug by Mine.plug_self
name_quick tw14973007898608030118 for Mine.plug by Mine.plug_self
name_quick tw6213141578215901147 for Mine.plug by Mine.plug_self
name_quick tw13471461260053382970 for Mine.plug by Mine.plug_self
name_quick tw6144853644547557980 for Mine.plug by Mine.plug_self
name_quick tw6789855027759293466 for Mine.plug by Mine.plug_self
name_quick tw9236875199018929784 for Mine.plug by Mine.plug_self
name_quick tw9673203406766833760 for Mine.plug by Mine.plug_self
name_quick tw7619357645376055252 for Mine.plug by Mine.plug_self
name_quick tw17520869792638436183 for Mine.plug by Mine.plug_self
name_quick tw15880737140895825463 for Mine.plug by Mine.plug_self
name_quick tw15560853006256673968 for Mine.plug by Mine.plug_self
name_quick tw9537544019596298400 for Mine.plug by Mine.plug_self
name_quick tw973662469405803806 for Mine.plug by Mine.plug_self
name_quick tw2958062672499776758 for Mine.plug by Mine.plug_self
name_quick tw383695940523520267 for Mine.plug by Mine.plug_self
name_quick tw10057510723706494237 for Mine.plug by Mine.plug_self
name_quick tw14209830616999942402 for Mine.plug by Mine.plug_self
name_quick tw12821735335276811757 for Mine.plug by Mine.plug_self
name_quick tw17024950926791866790 for Mine.plug by Mine.plug_self
name_quick tw16942194440817826258 for Mine.plug by Mine.plug_self
name_quick tw14305139224198610471 for Mine.plug by Mine.plug_self
name_quick tw9787396351842916947 for Mine.plug by Mine.plug_self
name_quick tw14214133299417103183 for Mine.plug by Mine.plug_self
name_quick tw9821368406582625841 for Mine.plug by Mine.plug_self
name_quick tw325292655437039998 for Mine.plug by Mine.plug_self
name_quick tw11817470609975844035 for Mine.plug by Mine.plug_self
name_quick tw4936483359421988267 for Mine.plug by Mine.plug_self
name_quick tw10939839348159177617 for Mine.plug by Mine.plug_self
name_quick tw12647630874787467225 for Mine.plug by Mine.plug_self
name_quick tw11740888236361828772 for Mine.plug by Mine.plug_self
name_quick tw17280976486791472633 for Mine.plug by Mine.plug_self
name_quick tw17913803186225011329 for Mine.plug by Mine.plug_self
name_quick tw5976474108018559520 for Mine.plug by Mine.plug_self
name_quick tw17341736924252097559 for Mine.plug by Mine.plug_self
name_quick tw1708024556718086227 for Mine.plug by Mine.plug_self
name_quick tw7469732015759309437 for Mine.plug by Mine.plug_self
name_quick tw10487160056961263569 for Mine.plug by Mine.plug_self
name_quick tw7140130562030077042 for Mine.plug by Mine.plug_self
name_quick tw11495947367809530248 for Mine.plug by Mine.plug_self
name_quick tw9219426015542480343 for Mine.plug by Mine.plug_self
name_quick tw716658179208862652 for Mine.plug by Mine.plug_self
name_quick tw2001226814458364393 for Mine.plug by Mine.plug_self
name_quick tw17026713947507217902 for Mine.plug by Mine.plug_self
name_quick tw17344680358763864322 for Mine.plug by Mine.plug_self
name_quick tw5758256569797452207 for Mine.plug by Mine.plug_self
name_quick tw3355348695024010778 for Mine.plug by Mine.plug_self
name_quick tw18126140380344562322 for Mine.plug by Mine.plug_self
name_quick tw16417370028952169744 for Mine.plug by Mine.plug_self
name_quick tw17827458813498177553 for Mine.plug by Mine.plug_self
name_quick tw12182807814244774211 for Mine.plug by Mine.plug_self
name_quick tw8488268690174267210 for Mine.plug by Mine.plug_self
name_quick tw1401972060568974870 for Mine.plug by Mine.plug_self
name_quick tw4575980220486274672 for Mine.plug by Mine.plug_self
name_quick tw12809422525583811893 for Mine.plug by Mine.plug_self
name_quick tw14323765505736481980 for Mine.plug by Mine.plug_self
name_quick tw930746551332336609 for Mine.plug by Mine.plug_self
name_quick tw12945968074294007009 for Mine.plug by Mine.plug_self
name_quick tw10045867985992453528 for Mine.plug by Mine.plug_self
name_quick tw3327986453032591115 for Mine.plug by Mine.plug_self
name_quick tw1139862187096482527 for Mine.plug by Mine.plug_self
name_quick tw12095823642532355627 for Mine.plug by Mine.plug_self
name_quick tw4405960384096086239 for Mine.plug by Mine.plug_self
name_quick tw10352308551163946355 for Mine.plug by Mine.plug_self
name_quick tw5862295025349918931 for Mine.plug by Mine.plug_self
name_quick tw389472881494512206 for Mine.plug by Mine.plug_self
name_quick tw14420389602138693270 for Mine.plug by Mine.plug_self
name_quick tw10042830170769951172 for Mine.plug by Mine.plug_self
name_quick tw13721567128424951087 for Mine.plug by Mine.plug_self
name_quick tw13833065179229638619 for Mine.plug by Mine.plug_self
name_quick tw9504726810853072989 for Mine.plug by Mine.plug_self
name_quick tw9413167413068371254 for Mine.plug by Mine.plug_self
name_quick tw4966893808263662355 for Mine.plug by Mine.plug_self
name_quick tw10508251915553800215 for Mine.plug by Mine.plug_self
name_quick tw16413963553889246368 for Mine.plug by Mine.plug_self
name_quick tw17015423121036801654 for Mine.plug by Mine.plug_self
name_quick tw7081425507203772304 for Mine.plug by Mine.plug_self
name_quick tw13925586954763233925 for Mine.plug by Mine.plug_self
name_quick tw17554001833073541016 for Mine.plug by Mine.plug_self
name_quick tw18273839248471157720 for Mine.plug by Mine.plug_self
name_quick tw1869930749605803152 for Mine.plug by Mine.plug_self
name_quick tw18410474027866654770 for Mine.plug by Mine.plug_self
name_quick tw10308316962582663543 for Mine.plug by Mine.plug_self
name_quick tw2718901123391026995 for Mine.plug by Mine.plug_self
name_quick tw16223305294053301992 for Mine.plug by Mine.plug_self
name_quick tw5152784196030571298 for Mine.plug by Mine.plug_self
name_quick tw11825729669827539873 for Mine.plug by Mine.plug_self
name_quick tw17803129079492736432 for Mine.plug by Mine.plug_self
name_quick tw13580328829973926956 for Mine.plug by Mine.plug_self
name_quick tw7670514497116975361 for Mine.plug by Mine.plug_self
name_quick tw11518781747449614426 for Mine.plug by Mine.plug_self
name_quick tw6580340599500149305 for Mine.plug by Mine.plug_self
name_quick tw1631149150583789468 for Mine.plug by Mine.plug_self
name_quick tw15542691292777871779 for Mine.plug by Mine.plug_self
name_quick tw16942504070071679284 for Mine.plug by Mine.plug_self
name_quick tw13252181687094117063 for Mine.plug by Mine.plug_self
name_quick tw17954736447514056666 for Mine.plug by Mine.plug_self
name_quick tw6179359751918216688 for Mine.plug by Mine.plug_self
name_quick tw13871001218405608335 for Mine.plug by Mine.plug_self
name_quick tw15041003319150489328 for Mine.plug by Mine.plug_self
name_quick tw5832503352825792928 for Mine.plug by Mine.plug_self
name_quick tw18123110421147349612 for Mine.plug by Mine.plug_self
name_quick tw17899373020297197333 for Mine.plug by Mine.plug_self
name_quick tw17071476683966804577 for Mine.plug by Mine.plug_self
name_quick tw9265879793445154701 for Mine.plug by Mine.plug_self
name_quick tw3325841961599345399 for Mine.plug by Mine.plug_self
name_quick tw17183712847048597117 for Mine.plug by Mine.plug_self
name_quick tw16189536214700107852 for Mine.plug by Mine.plug_self
name_quick tw15773981995205291829 for Mine.plug by Mine.plug_self
name_quick tw7987952416473584550 for Mine.plug by Mine.plug_self
name_quick tw2759451637364818457 for Mine.plug by Mine.plug_self
name_quick tw6993175162768986339 for Mine.plug by Mine.plug_self
name_quick tw11166942722945506595 for Mine.plug by Mine.plug_self
name_quick tw9577309144901391297 for Mine.plug by Mine.plug_self
name_quick tw14837249469386935497 for Mine.plug by Mine.plug_self
name_quick tw14186486079044719983 for Mine.plug by Mine.plug_self
name_quick tw13725850141900786883 for Mine.plug by Mine.plug_self
name_quick tw8732485361984058174 for Mine.plug by Mine.plug_self
name_quick tw8881496252177385917 for Mine.plug by Mine.plug_self
name_quick tw7499937903120025604 for Mine.plug by Mine.plug_self
name_quick tw8656719876789144132 for Mine.plug by Mine.plug_self
name_quick tw18163708392712065173 for Mine.plug by Mine.plug_self
name_quick tw503676674663206642 for Mine.plug by Mine.plug_self
name_quick tw5149714755402479525 for Mine.plug by Mine.plug_self
name_quick tw3953757239420563355 for Mine.plug by Mine.plug_self
name_quick tw1107438419126420414 for Mine.plug by Mine.plug_self
name_quick tw9281714027785469542 for Mine.plug by Mine.plug_self
name_quick tw618205885557783147 for Mine.plug by Mine.plug_self
name_quick tw7082770336023389322 for Mine.plug by Mine.plug_self
name_quick tw3865406201487662470 for Mine.plug by Mine.plug_self
name_quick tw14097648870716263351 for Mine.plug by Mine.plug_self
name_quick tw6214688769961185500 for Mine.plug by Mine.plug_self
name_quick tw15468230090516036684 for Mine.plug by Mine.plug_self
name_quick tw11277413387252134812 for Mine.plug by Mine.plug_self
name_quick tw17503288770812694035 for Mine.plug by Mine.plug_self
name_quick tw11767421526060770920 for Mine.plug by Mine.plug_self
name_quick tw11036193050239951465 for Mine.plug by Mine.plug_self
name_quick tw13581749221687468397 for Mine.plug by Mine.plug_self
name_quick tw5923252988546675246 for Mine.plug by Mine.plug_self
name_quick tw16180483070735683940 for Mine.plug by Mine.plug_self
name_quick tw17842620306162639686 for Mine.plug by Mine.plug_self
name_quick tw1085346719588807367 for Mine.plug by Mine.plug_self
name_quick tw725871291056497461 for Mine.plug by Mine.plug_self
name_quick tw13251646731365433171 for Mine.plug by Mine.plug_self
name_quick tw6834602518627153040 for Mine.plug by Mine.plug_self
name_quick tw3695515675974049574 for Mine.plug by Mine.plug_self
name_quick tw17943406268862710625 for Mine.plug by Mine.plug_self
name_quick tw15199281503961881116 for Mine.plug by Mine.plug_self
name_quick tw563124612126607214 for Mine.plug by Mine.plug_self
name_quick tw4879560196417449868 for Mine.plug by Mine.plug_self
name_quick tw11328821685186248670 for Mine.plug by Mine.plug_self
name_quick tw5450187663091677483 for Mine.plug by Mine.plug_self
name_quick tw7344376507651311505 for Mine.plug by Mine.plug_self
name_quick tw16865151637890581275 for Mine.plug by Mine.plug_self
name_quick tw4858009861420398278 for Mine.plug by Mine.plug_self
name_quick tw17475289236778735526 for Mine.plug by Mine.plug_self
name_quick tw764782834095389478 for Mine.plug by Mine.plug_self
name_quick tw14981143343336467331 for Mine.plug by Mine.plug_self
name_quick tw8430678208038309684 for Mine.plug by Mine.plug_self
name_quick tw18011898689540126615 for Mine.plug by Mine.plug_self
name_quick tw6952355047532471503 for Mine.plug by Mine.plug_self
name_quick tw17814930658547583709 for Mine.plug by Mine.plug_self
name_quick tw2504098582860672743 for Mine.plug by Mine.plug_self
name_quick tw12660628722211587041 for Mine.plug by Mine.plug_self
name_quick tw4613930686462287906 for Mine.plug by Mine.plug_self
name_quick tw17993156020533580102 for Mine.plug by Mine.plug_self
name_quick tw6012508502120743258 for Mine.plug by Mine.plug_self
name_quick tw8987815912523675519 for Mine.plug by Mine.plug_self
name_quick tw7503421922109321716 for Mine.plug by Mine.plug_self
name_quick tw17139780236743587250 for Mine.plug by Mine.plug_self
name_quick tw16366562015402752707 for Mine.plug by Mine.plug_self
name_quick tw16873187988247708562 for Mine.plug by Mine.plug_self
name_quick tw16326889199254633757 for Mine.plug by Mine.plug_self
name_quick tw13160144027095335755 for Mine.plug by Mine.plug_self
name_quick tw6380782515089751550 for Mine.plug by Mine.plug_self
name_quick tw14544052848187043789 for Mine.plug by Mine.plug_self
name_quick tw8610040677353227653 for Mine.plug by Mine.plug_self
name_quick tw9206804518496725263 for Mine.plug by Mine.plug_self
name_quick tw12679591844961189642 for Mine.plug by Mine.plug_self
name_quick tw16292439048969090190 for Mine.plug by Mine.plug_self
name_quick tw1102190903223815498 for Mine.plug by Mine.plug_self
name_quick tw3267979357774110234 for Mine.plug by Mine.plug_self
name_quick tw9575731206691268911 for Mine.plug by Mine.plug_self
name_quick tw2370070277545300124 for Mine.plug by Mine.plug_self
name_quick tw1189734492583310 for Mine.plug by Mine.plug_self
name_quick tw15215539614974913122 for Mine.plug by Mine.plug_self
name_quick tw196644378293983589 for Mine.plug by Mine.plug_self
name_quick tw39160002569200845 for Mine.plug by Mine.plug_self
name_quick tw10819683100428557426 for Mine.plug by Mine.plug_self
name_quick tw8946543629884556368 for Mine.plug by Mine.plug_self
name_quick tw8704618095886561957 for Mine.plug by Mine.plug_self
name_quick tw15202239659555905331 for Mine.plug by Mine.plug_self
name_quick tw9794667896261083176 for Mine.plug by Mine.plug_self
name_quick tw14285029430470858289 for Mine.plug by Mine.plug_self
name_quick tw16039550372008468697 for Mine.plug by Mine.plug_self
name_quick tw6127375697748050860 for Mine.plug by Mine.plug_self
name_quick tw2011108890870493169 for Mine.plug by Mine.plug_self
name_quick tw1379578315556383370 for Mine.plug by Mine.plug_self
name_quick tw10758392820592806131 for Mine.plug by Mine.plug_self
name_quick tw16758808235637498351 for Mine.plug by Mine.plug_self
name_quick tw16328912562034613984 for Mine.plug by Mine.plug_self
name_quick tw15736541856241217950 for Mine.plug by Mine.plug_self
name_quick tw17325535178939296128 for Mine.plug by Mine.plug_self
name_quick tw2569364866550412066 for Mine.plug by Mine.plug_self
name_quick tw12731603968600162155 for Mine.plug by Mine.plug_self
name_quick tw535072334866317008 for Mine.plug by Mine.plug_self
name_quick tw12359285113459375979 for Mine.plug by Mine.plug_self
name_quick tw10181792811725400092 for Mine.plug by Mine.plug_self
name_quick tw15157221202141545114 for Mine.plug by Mine.plug_self
name_quick tw5854881644878751223 for Mine.plug by Mine.plug_self
name_quick tw3142773779024712118 for Mine.plug by Mine.plug_self
name_quick tw3952652319720093869 for Mine.plug by Mine.plug_self
name_quick tw6891000109920058784 for Mine.plug by Mine.plug_self
name_quick tw17679261114430710190 for Mine.plug by Mine.plug_self
name_quick tw4109823476700235019 for Mine.plug by Mine.plug_self
name_quick tw16648231224745350325 for Mine.plug by Mine.plug_self
name_quick tw10030586065758793078 for Mine.plug by Mine.plug_self
name_quick tw17853915177807527196 for Mine.plug by Mine.plug_self
name_quick tw3740020263889925745 for Mine.plug by Mine.plug_self
name_quick tw5952267759425050802 for Mine.plug by Mine.plug_self
name_quick tw17429684086410527887 for Mine.plug by Mine.plug_self
name_quick tw9082586571710850966 for Mine.plug by Mine.plug_self
name_quick tw17719373434677690450 for Mine.plug by Mine.plug_self
name_quick tw6123655918767846522 for Mine.plug by Mine.plug_self
name_quick tw4299136966843209011 for Mine.plug by Mine.plug_self
name_quick tw774047393022817027 for Mine.plug by Mine.plug_self
name_quick tw14043711374191979534 for Mine.plug by Mine.plug_self
name_quick tw13169248704851481478 for Mine.plug by Mine.plug_self
name_quick tw15207642765257501584 for Mine.plug by Mine.plug_self
name_quick tw14952990662201256454 for Mine.plug by Mine.plug_self
name_quick tw8999186272805695465 for Mine.plug by Mine.plug_self
name_quick tw7229665172594901996 for Mine.plug by Mine.plug_self
name_quick tw6607189417530752870 for Mine.plug by Mine.plug_self
name_quick tw12177649209318274912 for Mine.plug by Mine.plug_self
name_quick tw2571919107429820419 for Mine.plug by Mine.plug_self
name_quick tw13951257522405164796 for Mine.plug by Mine.plug_self
name_quick tw7405434945208526273 for Mine.plug by Mine.plug_self
name_quick tw18188234029961486008 for Mine.plug by Mine.plug_self
name_quick tw13505292571300825877 for Mine.plug by Mine.plug_self
name_quick tw4800724452203346748 for Mine.plug by Mine.plug_self
name_quick tw5228443966233409354 for Mine.plug by Mine.plug_self
name_quick tw8172093975534723114 for Mine.plug by Mine.plug_self
name_quick tw17045043414572947948 for Mine.plug by Mine.plug_self
name_quick tw14934708107589980039 for Mine.plug by Mine.plug_self
name_quick tw6832808476680081064 for Mine.plug by Mine.plug_self
name_quick tw12114495157272644582 for Mine.plug by Mine.plug_self
name_quick tw1536587703002861866 for Mine.plug by Mine.plug_self
name_quick tw2078703811421203504 for Mine.plug by Mine.plug_self
name_quick tw1393629259489396696 for Mine.plug by Mine.plug_self
name_quick tw13746126617404028095 for Mine.plug by Mine.plug_self
name_quick tw18163462532019968843 for Mine.plug by Mine.plug_self
name_quick tw17172517015917474193 for Mine.plug by Mine.plug_self
name_quick tw7618406622816332465 for Mine.plug by Mine.plug_self
name_quick tw8649964590619651473 for Mine.plug by Mine.plug_self
name_quick tw4824431525194463578 for Mine.plug by Mine.plug_self
name_quick tw10190238754879171395 for Mine.plug by Mine.plug_self
name_quick tw15315713394281565010 for Mine.plug by Mine.plug_self
name_quick tw13903129631018457399 for Mine.plug by Mine.plug_self
name_quick tw10138199336372458610 for Mine.plug by Mine.plug_self
name_quick tw7074795694173733578 for Mine.plug by Mine.plug_self
name_quick tw5853609219237828028 for Mine.plug by Mine.plug_self
name_quick tw15059462757989803610 for Mine.plug by Mine.plug_self
name_quick tw17815586953681464072 for Mine.plug by Mine.plug_self
name_quick tw10719484529398299949 for Mine.plug by Mine.plug_self
name_quick tw9736788993784561348 for Mine.plug by Mine.plug_self
name_quick tw2674190319118857908 for Mine.plug by Mine.plug_self
name_quick tw2370425770031549630 for Mine.plug by Mine.plug_self
name_quick tw10028428298569065181 for Mine.plug by Mine.plug_self
name_quick tw16645262185327669138 for Mine.plug by Mine.plug_self
name_quick tw3504847659760329788 for Mine.plug by Mine.plug_self
name_quick tw1210750091971509897 for Mine.plug by Mine.plug_self
name_quick tw5720267713326709755 for Mine.plug by Mine.plug_self
name_quick tw10964334890339321822 for Mine.plug by Mine.plug_self
name_quick tw15808557625122938864 for Mine.plug by Mine.plug_self
name_quick tw5310036984924271277 for Mine.plug by Mine.plug_self
name_quick tw13902233598862641821 for Mine.plug by Mine.plug_self
name_quick tw7573151900890175926 for Mine.plug by Mine.plug_self
name_quick tw2506853364499732696 for Mine.plug by Mine.plug_self
name_quick tw6624491594363574236 for Mine.plug by Mine.plug_self
name_quick tw12456492676567594705 for Mine.plug by Mine.plug_self
name_quick tw14909702598903578594 for Mine.plug by Mine.plug_self
name_quick tw16127339712140622707 for Mine.plug by Mine.plug_self
name_quick tw14427280190107063356 for Mine.plug by Mine.plug_self
name_quick tw12973657651903071711 for Mine.plug by Mine.plug_self
name_quick tw13551572312386263098 for Mine.plug by Mine.plug_self
name_quick tw6291368078380397288 for Mine.plug by Mine.plug_self
name_quick tw18310272354389090212 for Mine.plug by Mine.plug_self
name_quick tw1544652992362985085 for Mine.plug by Mine.plug_self
name_quick tw12989987162080215863 for Mine.plug by Mine.plug_self
name_quick tw10650810973499830745 for Mine.plug by Mine.plug_self
name_quick tw1267870562809915468 for Mine.plug by Mine.plug_self
name_quick tw14907048974825807369 for Mine.plug by Mine.plug_self
name_quick tw13241461904039861399 for Mine.plug by Mine.plug_self
name_quick tw6813294653679155843 for Mine.plug by Mine.plug_self
name_quick tw6132934438814934913 for Mine.plug by Mine.plug_self
name_quick tw950723637873067451 for Mine.plug by Mine.plug_self
name_quick tw14185684948912167051 for Mine.plug by Mine.plug_self
name_quick tw3427515755752030745 for Mine.plug by Mine.plug_self
name_quick tw148260917463534702 for Mine.plug by Mine.plug_self
name_quick tw8180830640274347804 for Mine.plug by Mine.plug_self
name_quick tw11891824955294080559 for Mine.plug by Mine.plug_self
name_quick tw3768068617246420682 for Mine.plug by Mine.plug_self
name_quick tw14874922208557711187 for Mine.plug by Mine.plug_self
name_quick tw8800560270773162519 for Mine.plug by Mine.plug_self
name_quick tw7733015712792483723 for Mine.plug by Mine.plug_self
name_quick tw14766643958189025262 for Mine.plug by Mine.plug_self
name_quick tw3797612339304411714 for Mine.plug by Mine.plug_self
name_quick tw8540232549379673566 for Mine.plug by Mine.plug_self
name_quick tw2134368852220247820 for Mine.plug by Mine.plug_self
name_quick tw12540713548012372134 for Mine.plug by Mine.plug_self
name_quick tw6519424955469430661 for Mine.plug by Mine.plug_self
name_quick tw921073385446354868 for Mine.plug by Mine.plug_self
name_quick tw10885399304501877467 for Mine.plug by Mine.plug_self
name_quick tw5386766301290243201 for Mine.plug by Mine.plug_self
name_quick tw8686407601681055034 for Mine.plug by Mine.plug_self
name_quick tw1771862750571323454 for Mine.plug by Mine.plug_self
name_quick tw10058976618658966374 for Mine.plug by Mine.plug_self
name_quick tw8385612375773290118 for Mine.plug by Mine.plug_self
name_quick tw4318056027017086478 for Mine.plug by Mine.plug_self
name_quick tw8802822988693486460 for Mine.plug by Mine.plug_self
name_quick tw7057405563618977329 for Mine.plug by Mine.plug_self
name_quick tw4091194055036891139 for Mine.plug by Mine.plug_self
name_quick tw1615719349143574890 for Mine.plug by Mine.plug_self
name_quick tw4042386549635913901 for Mine.plug by Mine.plug_self
name_quick tw9720828393056574044 for Mine.plug by Mine.plug_self
name_quick tw3365093317950918147 for Mine.plug by Mine.plug_self
name_quick tw17230556039016184743 for Mine.plug by Mine.plug_self
name_quick tw17138261911001417010 for Mine.plug by Mine.plug_self
name_quick tw2735471455948067141 for Mine.plug by Mine.plug_self
name_quick tw5646442142991981755 for Mine.plug by Mine.plug_self
name_quick tw7112787868492120936 for Mine.plug by Mine.plug_self
name_quick tw4287028408620065468 for Mine.plug by Mine.plug_self
name_quick tw5950129339639070837 for Mine.plug by Mine.plug_self
name_quick tw178441218286455893 for Mine.plug by Mine.plug_self
name_quick tw16289391198768371057 for Mine.plug by Mine.plug_self
name_quick tw17768419659990539469 for Mine.plug by Mine.plug_self
name_quick tw13102660428377437172 for Mine.plug by Mine.plug_self
name_quick tw10455430044892516648 for Mine.plug by Mine.plug_self
name_quick tw15300170045991075079 for Mine.plug by Mine.plug_self
name_quick tw15965015591981942514 for Mine.plug by Mine.plug_self
name_quick tw16172117957621229858 for Mine.plug by Mine.plug_self
name_quick tw8777329075199875621 for Mine.plug by Mine.plug_self
name_quick tw18283703058932287227 for Mine.plug by Mine.plug_self
name_quick tw8125055898148337911 for Mine.plug by Mine.plug_self
name_quick tw17020146562604978829 for Mine.plug by Mine.plug_self
name_quick tw1690735587144091376 for Mine.plug by Mine.plug_self
name_quick tw8473563963867554017 for Mine.plug by Mine.plug_self
name_quick tw482417222145425773 for Mine.plug by Mine.plug_self
name_quick tw9575948337506731703 for Mine.plug by Mine.plug_self
name_quick tw2077871619930789226 for Mine.plug by Mine.plug_self
name_quick tw16950312913027304927 for Mine.plug by Mine.plug_self
name_quick tw7543195961347049332 for Mine.plug by Mine.plug_self
name_quick tw18371169792594650754 for Mine.plug by Mine.plug_self
name_quick tw7231524377534056507 for Mine.plug by Mine.plug_self
name_quick tw2387720566874501970 for Mine.plug by Mine.plug_self
name_quick tw14096952598973939363 for Mine.plug by Mine.plug_self
name_quick tw2118141222776746865 for Mine.plug by Mine.plug_self
name_quick tw3345107109950449737 for Mine.plug by Mine.plug_self
name_quick tw139799656371268569 for Mine.plug by Mine.plug_self
name_quick tw7543618554067911206 for Mine.plug by Mine.plug_self
name_quick tw9893030918988833448 for Mine.plug by Mine.plug_self
name_quick tw396607853666888187 for Mine.plug by Mine.plug_self
name_quick tw6990963922061375149 for Mine.plug by Mine.plug_self
name_quick tw1305609685974793870 for Mine.plug by Mine.plug_self
name_quick tw5512085447785999860 for Mine.plug by Mine.plug_self
name_quick tw18428756778242999024 for Mine.plug by Mine.plug_self
name_quick tw5315457868209417068 for Mine.plug by Mine.plug_self
name_quick tw8588708647495961459 for Mine.plug by Mine.plug_self
name_quick tw3633577522364906407 for Mine.plug by Mine.plug_self
name_quick tw14364280277409689854 for Mine.plug by Mine.plug_self
name_quick tw13329733208086693882 for Mine.plug by Mine.plug_self
name_quick tw6944952908185719654 for Mine.plug by Mine.plug_self
name_quick tw9292931687148149277 for Mine.plug by Mine.plug_self
name_quick tw3826639566459466600 for Mine.plug by Mine.plug_self
name_quick tw15020028541594565831 for Mine.plug by Mine.plug_self
name_quick tw5082074563857973206 for Mine.plug by Mine.plug_self
name_quick tw5936146933674214641 for Mine.plug by Mine.plug_self
name_quick tw3256587380925597060 for Mine.plug by Mine.plug_self
name_quick tw17596809139577655471 for Mine.plug by Mine.plug_self
name_quick tw2883484788219351825 for Mine.plug by Mine.plug_self
name_quick tw15039117976438264115 for Mine.plug by Mine.plug_self
name_quick tw13427988762788590312 for Mine.plug by Mine.plug_self
name_quick tw3825061337978711158 for Mine.plug by Mine.plug_self
name_quick tw5303519439607764402 for Mine.plug by Mine.plug_self
name_quick tw15194748194917737719 for Mine.plug by Mine.plug_self
name_quick tw7191607858210974391 for Mine.plug by Mine.plug_self
name_quick tw13853819408611901635 for Mine.plug by Mine.plug_self
name_quick tw9492235034089005946 for Mine.plug by Mine.plug_self
name_quick tw13471316229770301743 for Mine.plug by Mine.plug_self
name_quick tw16451151925259046446 for Mine.plug by Mine.plug_self
name_quick tw3148276903521382524 for Mine.plug by Mine.plug_self
name_quick tw10589684114461592954 for Mine.plug by Mine.plug_self
name_quick tw293829605474521371 for Mine.plug by Mine.plug_self
name_quick tw16904869804480856166 for Mine.plug by Mine.plug_self
name_quick tw12494133203773749484 for Mine.plug by Mine.plug_self
name_quick tw12025208970609079342 for Mine.plug by Mine.plug_self
name_quick tw3460871413274159568 for Mine.plug by Mine.plug_self
name_quick tw6980910045739468074 for Mine.plug by Mine.plug_self
name_quick tw447715330943862342 for Mine.plug by Mine.plug_self
name_quick tw17318589155259679147 for Mine.plug by Mine.plug_self
name_quick tw13121200027793486533 for Mine.plug by Mine.plug_self
name_quick tw17919728810627054236 for Mine.plug by Mine.plug_self
name_quick tw5555313912996828296 for Mine.plug by Mine.plug_self
name_quick tw3149940706203789266 for Mine.plug by Mine.plug_self
name_quick tw686183698351167624 for Mine.plug by Mine.plug_self
name_quick tw8795123598061512290 for Mine.plug by Mine.plug_self
name_quick tw3889259530307233657 for Mine.plug by Mine.plug_self
name_quick tw6517296806544964722 for Mine.plug by Mine.plug_self
name_quick tw9047900276149940361 for Mine.plug by Mine.plug_self
name_quick tw4888971946704870899 for Mine.plug by Mine.plug_self
name_quick tw6917869754434977982 for Mine.plug by Mine.plug_self
name_quick tw9131251417149488404 for Mine.plug by Mine.plug_self
name_quick tw487364732245791922 for Mine.plug by Mine.plug_self
name_quick tw14489655085307688843 for Mine.plug by Mine.plug_self
name_quick tw13804622635509601256 for Mine.plug by Mine.plug_self
name_quick tw8162909057868654942 for Mine.plug by Mine.plug_self
name_quick tw18386054884457128365 for Mine.plug by Mine.plug_self
name_quick tw7641510929779896126 for Mine.plug by Mine.plug_self
name_quick tw3545756843259802059 for Mine.plug by Mine.plug_self
name_quick tw4111355340424721971 for Mine.plug by Mine.plug_self
name_quick tw13951202360752479828 for Mine.plug by Mine.plug_self
name_quick tw8654737378357257675 for Mine.plug by Mine.plug_self
name_quick tw17727738676932873817 for Mine.plug by Mine.plug_self
name_quick tw17020626225693228618 for Mine.plug by Mine.plug_self
name_quick tw5423003317807263696 for Mine.plug by Mine.plug_self
name_quick tw10460931487171540145 for Mine.plug by Mine.plug_self
name_quick tw8621552478659558853 for Mine.plug by Mine.plug_self
name_quick tw5247225353297040015 for Mine.plug by Mine.plug_self
name_quick tw15983881195869794717 for Mine.plug by Mine.plug_self
name_quick tw2302674139485633275 for Mine.plug by Mine.plug_self
name_quick tw5289962621202845349 for Mine.plug by Mine.plug_self
name_quick tw10093032338203421213 for Mine.plug by Mine.plug_self
name_quick tw2088544591296533915 for Mine.plug by Mine.plug_self
name_quick tw12807690338718825411 for Mine.plug by Mine.plug_self
name_quick tw4949472239710415697 for Mine.plug by Mine.plug_self
name_quick tw8123005709971320403 for Mine.plug by Mine.plug_self
name_quick tw7561037823649445926 for Mine.plug by Mine.plug_self
name_quick tw15781324953245214433 for Mine.plug by Mine.plug_self
name_quick tw12128325577817847261 for Mine.plug by Mine.plug_self
name_quick tw1495452243305574823 for Mine.plug by Mine.plug_self
name_quick tw17082801352038058188 for Mine.plug by Mine.plug_self
name_quick tw10727534119236929211 for Mine.plug by Mine.plug_self
name_quick tw8283515000281207119 for Mine.plug by Mine.plug_self
name_quick tw13156168479132978002 for Mine.plug by Mine.plug_self
name_quick tw9515652053505349548 for Mine.plug by Mine.plug_self
name_quick tw16474492168511960337 for Mine.plug by Mine.plug_self
name_quick tw12526863579885937616 for Mine.plug by Mine.plug_self
name_quick tw11510725203611331906 for Mine.plug by Mine.plug_self
name_quick tw5144633987255907666 for Mine.plug by Mine.plug_self
name_quick tw10970087489707964778 for Mine.plug by Mine.plug_self
name_quick tw1423138165483278961 for Mine.plug by Mine.plug_self
name_quick tw1916944219915559503 for Mine.plug by Mine.plug_self
name_quick tw5889167727604068794 for Mine.plug by Mine.plug_self
name_quick tw3302314484089059179 for Mine.plug by Mine.plug_self
name_quick tw5946566240119215348 for Mine.plug by Mine.plug_self
name_quick tw10040787053062605231 for Mine.plug by Mine.plug_self
name_quick tw17295947923314359676 for Mine.plug by Mine.plug_self
name_quick tw12170303376835216750 for Mine.plug by Mine.plug_self
name_quick tw18034167525097398909 for Mine.plug by Mine.plug_self
name_quick tw1667231139898017245 for Mine.plug by Mine.plug_self
name_quick tw14031254098957005024 for Mine.plug by Mine.plug_self
name_quick tw14273802060069496912 for Mine.plug by Mine.plug_self
name_quick tw15247426752500302083 for Mine.plug by Mine.plug_self
name_quick tw3054071069301022655 for Mine.plug by Mine.plug_self
name_quick tw15028816761298942483 for Mine.plug by Mine.plug_self
name_quick tw17027947056734134637 for Mine.plug by Mine.plug_self
name_quick tw10767066097796618615 for Mine.plug by Mine.plug_self
name_quick tw12577023982554244617 for Mine.plug by Mine.plug_self
name_quick tw3306904295867340462 for Mine.plug by Mine.plug_self
name_quick tw7950560144509940271 for Mine.plug by Mine.plug_self
name_quick tw4110589180456253056 for Mine.plug by Mine.plug_self
name_quick tw13816233472422033322 for Mine.plug by Mine.plug_self
name_quick tw3777755567575978352 for Mine.plug by Mine.plug_self
name_quick tw6182678533730793537 for Mine.plug by Mine.plug_self
name_quick tw9977392586421186931 for Mine.plug by Mine.plug_self
name_quick tw17169101284591775605 for Mine.plug by Mine.plug_self
name_quick tw1468114885665857710 for Mine.plug by Mine.plug_self
name_quick tw7957090006295546105 for Mine.plug by Mine.plug_self
name_quick tw12477758415327278626 for Mine.plug by Mine.plug_self
name_quick tw1375587502874563802 for Mine.plug by Mine.plug_self
name_quick tw6698160770425034372 for Mine.plug by Mine.plug_self
name_quick tw4691851695120001716 for Mine.plug by Mine.plug_self
name_quick tw18200712748503757919 for Mine.plug by Mine.plug_self
name_quick tw7582166717755450365 for Mine.plug by Mine.plug_self
name_quick tw9248541637817142097 for Mine.plug by Mine.plug_self
name_quick tw18328561965235511954 for Mine.plug by Mine.plug_self
name_quick tw3758773823038459598 for Mine.plug by Mine.plug_self
name_quick tw4733837786962973091 for Mine.plug by Mine.plug_self
name_quick tw10823345740709935493 for Mine.plug by Mine.plug_self
name_quick tw11137651959834898467 for Mine.plug by Mine.plug_self
name_quick tw272414042388314806 for Mine.plug by Mine.plug_self
name_quick tw7155543432591195943 for Mine.plug by Mine.plug_self
name_quick tw2037417660504910701 for Mine.plug by Mine.plug_self
name_quick tw3373567504368509048 for Mine.plug by Mine.plug_self
name_quick tw7824674403005707151 for Mine.plug by Mine.plug_self
name_quick tw3196378941336150401 for Mine.plug by Mine.plug_self
name_quick tw8959964123841196786 for Mine.plug by Mine.plug_self
name_quick tw5994239182223829532 for Mine.plug by Mine.plug_self
name_quick tw1499420768645567495 for Mine.plug by Mine.plug_self
name_quick tw9868982950595657695 for Mine.plug by Mine.plug_self
name_quick tw329819065673440000 for Mine.plug by Mine.plug_self
name_quick tw13650077344797733491 for Mine.plug by Mine.plug_self
name_quick tw830924265138556478 for Mine.plug by Mine.plug_self
name_quick tw4594841794817819559 for Mine.plug by Mine.plug_self
name_quick tw1189118826323900759 for Mine.plug by Mine.plug_self
name_quick tw8944806292087596576 for Mine.plug by Mine.plug_self
name_quick tw6606113021469975653 for Mine.plug by Mine.plug_self
name_quick tw13294325848734340343 for Mine.plug by Mine.plug_self
name_quick tw3735880847841164279 for Mine.plug by Mine.plug_self
name_quick tw7431591544816029494 for Mine.plug by Mine.plug_self
name_quick tw4466658021391931909 for Mine.plug by Mine.plug_self
name_quick tw5425108064043664162 for Mine.plug by Mine.plug_self
name_quick tw12985358249318526461 for Mine.plug by Mine.plug_self
name_quick tw4319011637217762917 for Mine.plug by Mine.plug_self
name_quick tw6937325167468391026 for Mine.plug by Mine.plug_self
name_quick tw6357409834272390260 for Mine.plug by Mine.plug_self
name_quick tw11236458984494512445 for Mine.plug by Mine.plug_self
name_quick tw1995926237046646575 for Mine.plug by Mine.plug_self
name_quick tw4769018279307018242 for Mine.plug by Mine.plug_self
name_quick tw14389334442490810641 for Mine.plug by Mine.plug_self
name_quick tw5698774287046732500 for Mine.plug by Mine.plug_self
name_quick tw15067931366933112725 for Mine.plug by Mine.plug_self
name_quick tw10647819351689358120 for Mine.plug by Mine.plug_self
name_quick tw14615009949319019899 for Mine.plug by Mine.plug_self
name_quick tw17207840028585114417 for Mine.plug by Mine.plug_self
name_quick tw7976981314885711489 for Mine.plug by Mine.plug_self
name_quick tw3558216917135427349 for Mine.plug by Mine.plug_self
name_quick tw7461879971939330490 for Mine.plug by Mine.plug_self
name_quick tw4352594626159697269 for Mine.plug by Mine.plug_self
name_quick tw9455686188066324210 for Mine.plug by Mine.plug_self
name_quick tw10797649063328284778 for Mine.plug by Mine.plug_self
name_quick tw16369446117885005094 for Mine.plug by Mine.plug_self
name_quick tw11935356649212052271 for Mine.plug by Mine.plug_self
name_quick tw7386744729831018872 for Mine.plug by Mine.plug_self
name_quick tw2721586585765338809 for Mine.plug by Mine.plug_self
name_quick tw14460367522058181017 for Mine.plug by Mine.plug_self
name_quick tw9087420756778563785 for Mine.plug by Mine.plug_self
name_quick tw10320149354908582346 for Mine.plug by Mine.plug_self
name_quick tw195516440579289731 for Mine.plug by Mine.plug_self
name_quick tw9130231340562597213 for Mine.plug by Mine.plug_self
name_quick tw15224661121926592747 for Mine.plug by Mine.plug_self
name_quick tw6801968546669101340 for Mine.plug by Mine.plug_self
name_quick tw12513138341781932208 for Mine.plug by Mine.plug_self
name_quick tw7785048605280242668 for Mine.plug by Mine.plug_self
name_quick tw13749758060653150092 for Mine.plug by Mine.plug_self
name_quick tw11882691865914478047 for Mine.plug by Mine.plug_self
name_quick tw9076128300344869771 for Mine.plug by Mine.plug_self
name_quick tw2614552105083212210 for Mine.plug by Mine.plug_self
name_quick tw4205239288364317433 for Mine.plug by Mine.plug_self
name_quick tw18366058095514959488 for Mine.plug by Mine.plug_self
name_quick tw12599741558188205749 for Mine.plug by Mine.plug_self
name_quick tw6841013123486265825 for Mine.plug by Mine.plug_self
name_quick tw11363912090873407280 for Mine.plug by Mine.plug_self
name_quick tw2351620601788327285 for Mine.plug by Mine.plug_self
name_quick tw8552093678088426289 for Mine.plug by Mine.plug_self
name_quick tw2314638664359121040 for Mine.plug by Mine.plug_self
name_quick tw12832791649633735192 for Mine.plug by Mine.plug_self
name_quick tw6551367506479906963 for Mine.plug by Mine.plug_self
name_quick tw4504083675297759592 for Mine.plug by Mine.plug_self
name_quick tw3536357697601684980 for Mine.plug by Mine.plug_self
name_quick tw15250204685079549951 for Mine.plug by Mine.plug_self
name_quick tw17955133630450735404 for Mine.plug by Mine.plug_self
name_quick tw9190918148164325157 for Mine.plug by Mine.plug_self
name_quick tw9062771732600952553 for Mine.plug by Mine.plug_self
name_quick tw4183877074749451670 for Mine.plug by Mine.plug_self
name_quick tw4580202747914273547 for Mine.plug by Mine.plug_self
name_quick tw3793695936567050837 for Mine.plug by Mine.plug_self
name_quick tw15025364365136419289 for Mine.plug by Mine.plug_self
name_quick tw6224646082405213132 for Mine.plug by Mine.plug_self
name_quick tw13424232207471783386 for Mine.plug by Mine.plug_self
name_quick tw15271515629493726085 for Mine.plug by Mine.plug_self
name_quick tw8432684481940611981 for Mine.plug by Mine.plug_self
name_quick tw2081907255765424308 for Mine.plug by Mine.plug_self
name_quick tw8474383852179026721 for Mine.plug by Mine.plug_self
name_quick tw12064662690394058248 for Mine.plug by Mine.plug_self
name_quick tw17238727255148662236 for Mine.plug by Mine.plug_self
name_quick tw18253757678009453241 for Mine.plug by Mine.plug_self
name_quick tw17335170898614401699 for Mine.plug by Mine.plug_self
name_quick tw9165568632223901487 for Mine.plug by Mine.plug_self
name_quick tw799472198861031185 for Mine.plug by Mine.plug_self
name_quick tw4706425542698204933 for Mine.plug by Mine.plug_self
name_quick tw252367510798351285 for Mine.plug by Mine.plug_self
name_quick tw894076849921957361 for Mine.plug by Mine.plug_self
name_quick tw7842807204330285214 for Mine.plug by Mine.plug_self
name_quick tw937105155873367277 for Mine.plug by Mine.plug_self
name_quick tw13142473509193869113 for Mine.plug by Mine.plug_self
name_quick tw12224272158712414510 for Mine.plug by Mine.plug_self
name_quick tw18286265847491885052 for Mine.plug by Mine.plug_self
name_quick tw10220936982206179058 for Mine.plug by Mine.plug_self
name_quick tw4989861115921178866 for Mine.plug by Mine.plug_self
name_quick tw10216692956209284516 for Mine.plug by Mine.plug_self
name_quick tw12225727855978595839 for Mine.plug by Mine.plug_self
name_quick tw11861152243698038893 for Mine.plug by Mine.plug_self
name_quick tw17344496456200356348 for Mine.plug by Mine.plug_self
name_quick tw16712280214892120555 for Mine.plug by Mine.plug_self
name_quick tw1993567047419047990 for Mine.plug by Mine.plug_self
name_quick tw3433653886696886423 for Mine.plug by Mine.plug_self
name_quick tw1930203975799679532 for Mine.plug by Mine.plug_self
name_quick tw6142071019320080357 for Mine.plug by Mine.plug_self
name_quick tw6267220430429643429 for Mine.plug by Mine.plug_self
name_quick tw2447921434856996015 for Mine.plug by Mine.plug_self
name_quick tw9917628215930124269 for Mine.plug by Mine.plug_self
name_quick tw16048576614497160029 for Mine.plug by Mine.plug_self
name_quick tw15078596067121957158 for Mine.plug by Mine.plug_self
name_quick tw489095991917526796 for Mine.plug by Mine.plug_self
name_quick tw8389248881573145916 for Mine.plug by Mine.plug_self
name_quick tw7449101846280096545 for Mine.plug by Mine.plug_self
name_quick tw14190725551584542720 for Mine.plug by Mine.plug_self
name_quick tw7393211689510517793 for Mine.plug by Mine.plug_self
name_quick tw4966674849315620570 for Mine.plug by Mine.plug_self
name_quick tw4187477659947935285 for Mine.plug by Mine.plug_self
name_quick tw12877114100897624224 for Mine.plug by Mine.plug_self
name_quick tw13549102714576105579 for Mine.plug by Mine.plug_self
name_quick tw5998781340512891400 for Mine.plug by Mine.plug_self
name_quick tw7652866986338317172 for Mine.plug by Mine.plug_self
name_quick tw12472836147817038354 for Mine.plug by Mine.plug_self
name_quick tw5815302876190815700 for Mine.plug by Mine.plug_self
name_quick tw3069475018656635626 for Mine.plug by Mine.plug_self
name_quick tw3488208955921114670 for Mine.plug by Mine.plug_self
name_quick tw3308210559937237381 for Mine.plug by Mine.plug_self
name_quick tw10566222408779648918 for Mine.plug by Mine.plug_self
name_quick tw15103234261437856402 for Mine.plug by Mine.plug_self
name_quick tw16138931208732196661 for Mine.plug by Mine.plug_self
name_quick tw16495097172686442475 for Mine.plug by Mine.plug_self
name_quick tw10276908904998144438 for Mine.plug by Mine.plug_self
name_quick tw6900397732965128853 for Mine.plug by Mine.plug_self
name_quick tw18131936236247874842 for Mine.plug by Mine.plug_self
name_quick tw9910355351051955638 for Mine.plug by Mine.plug_self
name_quick tw5550314157272711993 for Mine.plug by Mine.plug_self
name_quick tw12828332729040242785 for Mine.plug by Mine.plug_self
name_quick tw9626942728845285128 for Mine.plug by Mine.plug_self
name_quick tw1343220272319300887 for Mine.plug by Mine.plug_self
name_quick tw14285374257681291273 for Mine.plug by Mine.plug_self
name_quick tw14401720017095790664 for Mine.plug by Mine.plug_self
name_quick tw1711367819467211730 for Mine.plug by Mine.plug_self
name_quick tw1410096668721982599 for Mine.plug by Mine.plug_self
name_quick tw11882390891050353253 for Mine.plug by Mine.plug_self
name_quick tw17000756265888016 for Mine.plug by Mine.plug_self
name_quick tw16737559591592110954 for Mine.plug by Mine.plug_self
name_quick tw18247082017555167765 for Mine.plug by Mine.plug_self
name_quick tw13404028037160507757 for Mine.plug by Mine.plug_self
name_quick tw10709196673778178906 for Mine.plug by Mine.plug_self
name_quick tw16723424844129597499 for Mine.plug by Mine.plug_self
name_quick tw3365010085382643294 for Mine.plug by Mine.plug_self
name_quick tw16148938690769344688 for Mine.plug by Mine.plug_self
name_quick tw1735007293439650466 for Mine.plug by Mine.plug_self
name_quick tw9305466669911107070 for Mine.plug by Mine.plug_self
name_quick tw2110668173088178060 for Mine.plug by Mine.plug_self
name_quick tw14588557730865908194 for Mine.plug by Mine.plug_self
name_quick tw8328094057196393916 for Mine.plug by Mine.plug_self
name_quick tw17431367730909923944 for Mine.plug by Mine.plug_self
name_quick tw11543483234476862875 for Mine.plug by Mine.plug_self
name_quick tw12436211924289087317 for Mine.plug by Mine.plug_self
name_quick tw1157545019965518967 for Mine.plug by Mine.plug_self
name_quick tw14870196432650325839 for Mine.plug by Mine.plug_self
name_quick tw2504501939568898240 for Mine.plug by Mine.plug_self
name_quick tw10846213317406478298 for Mine.plug by Mine.plug_self
name_quick tw1257650718994608863 for Mine.plug by Mine.plug_self
name_quick tw12046425863553024001 for Mine.plug by Mine.plug_self
name_quick tw4665496328224945229 for Mine.plug by Mine.plug_self
name_quick tw12377561305857167785 for Mine.plug by Mine.plug_self
name_quick tw1481926694345511941 for Mine.plug by Mine.plug_self
name_quick tw5127043949985792152 for Mine.plug by Mine.plug_self
name_quick tw9236379625843700516 for Mine.plug by Mine.plug_self
name_quick tw12227490674122928909 for Mine.plug by Mine.plug_self
name_quick tw578555737997480806 for Mine.plug by Mine.plug_self
name_quick tw11786184479649081736 for Mine.plug by Mine.plug_self
name_quick tw4507309187265873474 for Mine.plug by Mine.plug_self
name_quick tw13262538273218963204 for Mine.plug by Mine.plug_self
name_quick tw15598799602833418400 for Mine.plug by Mine.plug_self
name_quick tw1460277438893781036 for Mine.plug by Mine.plug_self
name_quick tw16729788964589934307 for Mine.plug by Mine.plug_self
name_quick tw11765014963103734823 for Mine.plug by Mine.plug_self
name_quick tw10299114407867686024 for Mine.plug by Mine.plug_self
name_quick tw7165179329215463379 for Mine.plug by Mine.plug_self
name_quick tw13902060940116135572 for Mine.plug by Mine.plug_self
name_quick tw8229689697521897066 for Mine.plug by Mine.plug_self
name_quick tw6614585292965373069 for Mine.plug by Mine.plug_self
name_quick tw5415697137353194442 for Mine.plug by Mine.plug_self
name_quick tw17695988578738506429 for Mine.plug by Mine.plug_self
name_quick tw17018449646109014956 for Mine.plug by Mine.plug_self
name_quick tw11793402487394874009 for Mine.plug by Mine.plug_self
name_quick tw13847470327216474714 for Mine.plug by Mine.plug_self
name_quick tw17370054149142409183 for Mine.plug by Mine.plug_self
name_quick tw18360803836614840259 for Mine.plug by Mine.plug_self
name_quick tw4430655021044022179 for Mine.plug by Mine.plug_self
name_quick tw18466492976756830 for Mine.plug by Mine.plug_self
name_quick tw12143486254990352099 for Mine.plug by Mine.plug_self
name_quick tw6504275150365058295 for Mine.plug by Mine.plug_self
name_quick tw6888100737891179579 for Mine.plug by Mine.plug_self
name_quick tw3229698128091672885 for Mine.plug by Mine.plug_self
name_quick tw7313295853046975944 for Mine.plug by Mine.plug_self
name_quick tw15917270771655136656 for Mine.plug by Mine.plug_self
name_quick tw16495559152270511615 for Mine.plug by Mine.plug_self
name_quick tw10353204498128435838 for Mine.plug by Mine.plug_self
name_quick tw13316322371389871543 for Mine.plug by Mine.plug_self
name_quick tw12606261883493885652 for Mine.plug by Mine.plug_self
name_quick tw17728961539438068574 for Mine.plug by Mine.plug_self
name_quick tw16434552024888161954 for Mine.plug by Mine.plug_self
name_quick tw10619036274816975696 for Mine.plug by Mine.plug_self
name_quick tw11433066937589102482 for Mine.plug by Mine.plug_self
name_quick tw16658944759067139292 for Mine.plug by Mine.plug_self
name_quick tw10092856319447448734 for Mine.plug by Mine.plug_self
name_quick tw6697550738653902072 for Mine.plug by Mine.plug_self
name_quick tw14920864480051887209 for Mine.plug by Mine.plug_self
name_quick tw17626262904599113365 for Mine.plug by Mine.plug_self
name_quick tw15605440718772780007 for Mine.plug by Mine.plug_self
name_quick tw1228064911786449325 for Mine.plug by Mine.plug_self
name_quick tw13251161224904053152 for Mine.plug by Mine.plug_self
name_quick tw1711657323119017317 for Mine.plug by Mine.plug_self
name_quick tw13342524657329470049 for Mine.plug by Mine.plug_self
name_quick tw15062378111984178829 for Mine.plug by Mine.plug_self
name_quick tw2081053591005667728 for Mine.plug by Mine.plug_self
name_quick tw5631866682500559305 for Mine.plug by Mine.plug_self
name_quick tw18099695126128789690 for Mine.plug by Mine.plug_self
name_quick tw10257574182948591618 for Mine.plug by Mine.plug_self
name_quick tw11254254501726123291 for Mine.plug by Mine.plug_self
name_quick tw10071868454641916008 for Mine.plug by Mine.plug_self
name_quick tw8164371507598914237 for Mine.plug by Mine.plug_self
name_quick tw5820445615435017067 for Mine.plug by Mine.plug_self
name_quick tw4724670654266164199 for Mine.plug by Mine.plug_self
name_quick tw7692015426583400375 for Mine.plug by Mine.plug_self
name_quick tw2651664433501786496 for Mine.plug by Mine.plug_self
name_quick tw9411460985935078520 for Mine.plug by Mine.plug_self
name_quick tw10782641618400255816 for Mine.plug by Mine.plug_self
name_quick tw17233024954070867409 for Mine.plug by Mine.plug_self
name_quick tw12475847535787081790 for Mine.plug by Mine.plug_self
name_quick tw11629953924900746896 for Mine.plug by Mine.plug_self
name_quick tw13159241964716117882 for Mine.plug by Mine.plug_self
name_quick tw12050852935592152754 for Mine.plug by Mine.plug_self
name_quick tw14746774941630613163 for Mine.plug by Mine.plug_self
name_quick tw1269743608478119537 for Mine.plug by Mine.plug_self
name_quick tw13070384816801012346 for Mine.plug by Mine.plug_self
name_quick tw2637321087531721449 for Mine.plug by Mine.plug_self
name_quick tw7729641633298002090 for Mine.plug by Mine.plug_self
name_quick tw2088498060469179804 for Mine.plug by Mine.plug_self
name_quick tw9041768174481992944 for Mine.plug by Mine.plug_self
name_quick tw11641389924110848164 for Mine.plug by Mine.plug_self
name_quick tw8868882367808763553 for Mine.plug by Mine.plug_self
name_quick tw13775618736486673144 for Mine.plug by Mine.plug_self
name_quick tw1857294707202544078 for Mine.plug by Mine.plug_self
name_quick tw5409283761738284092 for Mine.plug by Mine.plug_self
name_quick tw1188131947540300063 for Mine.plug by Mine.plug_self
name_quick tw4716499452693333712 for Mine.plug by Mine.plug_self
name_quick tw16258813485015810305 for Mine.plug by Mine.plug_self
name_quick tw17382798495522986874 for Mine.plug by Mine.plug_self
name_quick tw3228652444460286982 for Mine.plug by Mine.plug_self
name_quick tw2895304030280410150 for Mine.plug by Mine.plug_self
name_quick tw6057444674265745922 for Mine.plug by Mine.plug_self
name_quick tw17848772402925894760 for Mine.plug by Mine.plug_self
name_quick tw11055029398406535253 for Mine.plug by Mine.plug_self
name_quick tw14265314264860633672 for Mine.plug by Mine.plug_self
name_quick tw16998109343291152856 for Mine.plug by Mine.plug_self
name_quick tw4745058802850807175 for Mine.plug by Mine.plug_self
name_quick tw16861218917600885097 for Mine.plug by Mine.plug_self
name_quick tw1278341880987251545 for Mine.plug by Mine.plug_self
name_quick tw12885971956603332375 for Mine.plug by Mine.plug_self
name_quick tw931183843429516998 for Mine.plug by Mine.plug_self
name_quick tw5607064600570693084 for Mine.plug by Mine.plug_self
name_quick tw12301736329548577491 for Mine.plug by Mine.plug_self
name_quick tw16309933130070103497 for Mine.plug by Mine.plug_self
name_quick tw5410153933605578482 for Mine.plug by Mine.plug_self
name_quick tw4173924237407464957 for Mine.plug by Mine.plug_self
name_quick tw3395616883899927064 for Mine.plug by Mine.plug_self
name_quick tw13195905796856590283 for Mine.plug by Mine.plug_self
name_quick tw3783086151370532256 for Mine.plug by Mine.plug_self
name_quick tw10273473676514133216 for Mine.plug by Mine.plug_self
name_quick tw288087438632003012 for Mine.plug by Mine.plug_self
name_quick tw12049575158971614909 for Mine.plug by Mine.plug_self
name_quick tw10323968676351773119 for Mine.plug by Mine.plug_self
name_quick tw14159497744377131790 for Mine.plug by Mine.plug_self
name_quick tw12071057409057901078 for Mine.plug by Mine.plug_self
name_quick tw10010511219673018494 for Mine.plug by Mine.plug_self
name_quick tw3459824189758198600 for Mine.plug by Mine.plug_self
name_quick tw13783648951372772217 for Mine.plug by Mine.plug_self
name_quick tw1971209045111089449 for Mine.plug by Mine.plug_self
name_quick tw14844032806303022069 for Mine.plug by Mine.plug_self
local macro_rules | `(tactic| o_head (kHook $k $a $e)) => `(tactic| o_head (Mine.pHook $k $a $e))
open_top hd for PySem.Challenge.rw_ae5015_01
end Mine
end
section
open PySem PySem.W PySem.Spec PySem.Calls PyProof.Rows
open Sem (wp)
set_option maxRecDepth 100000
namespace Mine
/-- h' holds all that h holds -/
abbrev Ext (h h' : Heap) : Prop := ∀ b o, h.get? b = some o → h'.get? b = some o
abbrev ExtO (X : List Addr) (h h' : Heap) : Prop := ∀ b o, b ∉ X → h.get? b = some o → h'.get? b = some o
theorem Ext.rfl' {h : Heap} : Ext h h := fun _ _ e => e
theorem Ext.tr {h h' h'' : Heap} (x : Ext h h') (y : Ext h' h'') : Ext h h'' := fun b o e => y b o (x b o e)

/-- all but wr is kept, and the frame at L says what it said -/
def ExtN (wr : List Addr) (L : Addr) (h h' : Heap) : Prop := (∀ b o, b ∉ wr → b ≠ L → h.get? b = some o → h'.get? b = some o) ∧ ∀ m, h.Ns L m → h'.Ns L m
abbrev KeepL (L : Addr) (h h' : Heap) : Prop := ExtN [] L h h'
theorem ExtN.of_ext {wr : List Addr} {L : Addr} {h h' : Heap} (k : Ext h h') : ExtN wr L h h' := ⟨fun b o _ _ e => k b o e, fun _ hn => hn.keeps k⟩
theorem ExtN.of_O {wr : List Addr} {L : Addr} {h h' : Heap} (hL : L ∉ wr) (k : ∀ b o, b ∉ wr → h.get? b = some o → h'.get? b = some o) : ExtN wr L h h' := ⟨fun b o hb _ e => k b o hb e, fun _ hn => hn.at' fun o e => k _ o hL e⟩
theorem ExtN.tr {wr : List Addr} {L : Addr} {a b c : Heap} (x : ExtN wr L a b) (y : ExtN wr L b c) : ExtN wr L a c := ⟨fun d o hd hL e => y.1 d o hd hL (x.1 d o hd hL e), fun m hm => y.2 m (x.2 m hm)⟩
theorem ExtN.more {wr : List Addr} {L : Addr} {a b : Heap} (x : KeepL L a b) : ExtN wr L a b := ⟨fun d o _ hL e => x.1 d o (by simp) hL e, x.2⟩
theorem KeepL.rfl' {L : Addr} {h : Heap} : KeepL L h h := .of_ext Ext.rfl'
/-- all but wr is kept, at the addresses that an older heap held -/
theorem ExtN.trO {wr : List Addr} {L C : Addr} {a b c : Heap} (x : ExtN wr L a b) (hC : a.get? C = none) (hLC : L ≠ C) (s : Heap.SameBut C b c) : ExtN wr L a c :=
  ⟨fun d o hd hL e => s.extBut d o (fun q => by have q' : d = C := q; rw [q', hC] at e; cases e) (x.1 d o hd hL e), fun m hm => (x.2 m hm).sameBut s hLC⟩
def Live (X : List Addr) (h : Heap) : Prop := ∀ b ∈ X, ∃ o, h.get? b = some o
theorem Live.ext {X : List Addr} {h h' : Heap} (x : Live X h) (k : Ext h h') : Live X h' := fun b hb => let ⟨o, e⟩ := x b hb; ⟨o, k _ _ e⟩

/-- one turn of a comprehension's block, over any state J of what was taken, what was kept and the heap -/
def Turn (prog : Program) (w : World) (A : Around) (env : Env) (scope : Scope) (cl : List (PySem.Str × Addr)) (x : PySem.Str) (ifs : List Expr) (elt : Expr) (wr : List Addr) (n : Nat) (P : Nat → Value → Prop)
    (J : List Addr → List Value → List Value → Heap → Prop) (s₂ : Shared) : Prop :=
  ∀ (X : List Addr) (C : Addr) (oC : Obj) (v : Value) (vs ys : List Value) (h : Heap) (tk : Nat) (m₃ : PySem.Str → Option Value) (E' : Value → Shared → Prop),
    vs.length < n → P vs.length v → LCg.NsObj oC m₃ → m₃ x = some v → ExtN wr env.locals s₂.heap h → h.get? C = some oC → s₂.heap.get? C = none → C ∈ X → env.locals ∈ X → @LE.le Nat _ s₂.heap.objs.size C → (∀ b ∈ X, @LE.le Nat _ b C) → J X vs ys h →
    wpAny (model prog w) A (forIn ifs true fun c r => if r = true then do let ok ← isTrue c (compEnvC scope cl C env) (eval c (compEnvC scope cl C env)); pure (ForInStep.yield ok) else pure (ForInStep.yield r))
      (fun ok s₄ => ∃ h₄ tk₄, s₄ = { s₂ with heap := h₄, toks := tk₄ } ∧ KeepL env.locals h h₄ ∧
        (if ok = true then wpAny (model prog w) A (eval elt (compEnvC scope cl C env)) (fun y s₅ => ∃ h₅ tk₅, s₅ = { s₂ with heap := h₅, toks := tk₅ } ∧ KeepL env.locals h₄ h₅ ∧ J X (vs ++ [v]) (ys ++ [y]) h₅) E' s₄
         else J X (vs ++ [v]) ys h₄)) E' { s₂ with heap := h, toks := tk }

section
variable {prog : Program} {w : World} {A : Around} {E : Value → Shared → Prop} {s : Shared} {env : Env}

theorem block_J {elt iter : Expr} {x : PySem.Str} {px : Pos} {ifs : List Expr} {scope : Scope} {cl : List (PySem.Str × Addr)} {pos : Pos} {s₂ : Shared} {I : Addr} {fp wr : List Addr} {n : Nat} {P : Nat → Value → Prop} {St : Nat → Heap → Prop}
    {J : List Addr → List Value → List Value → Heap → Prop} {RR : Value → Addr → Result → Shared → Prop}
    (W : Walks prog w A I fp wr n P St) (hsz : n ≤ sizeLine) (hwr : ∀ i h, St i h → Live wr h) {mL : PySem.Str → Option Value} (hnL : s₂.heap.Ns env.locals mL) (hLw : env.locals ∉ wr) (hLf : env.locals ∉ fp)
    (hcell : ∀ y ∈ scope.names, y.2 ≠ .cell) (hkind : scope.kind = .function) (hx : scope.names.lookup x = some .local) (hst : St 0 s₂.heap) (hfp : ∀ b ∈ fp, b < s₂.heap.objs.size)
    (hJ : ∀ X vs ys h h', J X vs ys h → ExtO X h h' → J X vs ys h') (J0 : ∀ X, J X [] [] s₂.heap)
    (T : Turn prog w A env scope cl x ifs elt wr n P J s₂)
    (hRR : ∀ D C h' tk m' ys vs X, s₂.heap.get? D = none → s₂.heap.get? C = none → D ≠ C → h'.Ns C m' → h'.get? D = some (LCg.lst ys) → vs.length = n → (∀ j v, vs[j]? = some v → P j v) → J X vs ys h' → D ∈ X → C ∈ X → env.locals ∈ X →
      ExtN wr env.locals s₂.heap h' → RR (.ref D) C (.ok .next) { s₂ with heap := h', toks := tk }) :
    wpAny (model prog w) A (newList []) (fun acc s₃ => wpAny (model prog w) A (newFunctionEnv scope env.globals cl [] env.qual none .none (some env)) (fun cenv s₄ =>
      codeAny (model prog w) A (.compStart (.ListComp elt [⟨.Name x px, iter, ifs, 0⟩] scope pos) 0 (.ref I) acc { cenv with scope := relabel scope env }) (RR acc cenv.locals) s₄) E s₃) E s₂ := by
  refine wpAny_newObj_type (wpAny_newFunctionEnv hcell (by intro y hy; simp at hy) (fun h₁ hns₁ hsb₁ => ?_) hkind)
  dsimp only at hns₁ hsb₁ ⊢
  generalize hH2 : s₂.heap.push { cls := .type "list", dict := none, data := .seq ([] : List Value).toArray } = H2 at hns₁ hsb₁ ⊢
  have hC : H2.objs.size = s₂.heap.objs.size + 1 := by rw [← hH2, Heap.size_push]
  generalize hCd : H2.objs.size = C at hns₁ hsb₁ hC ⊢
  generalize hDd : s₂.heap.objs.size = D at hC ⊢
  have hDC : D ≠ C := by rw [hC]; exact Nat.ne_of_lt (Nat.lt_succ_self _)
  have gD : s₂.heap.get? D = none := by
    cases e : s₂.heap.get? D with
    | none => rfl
    | some o => exact absurd (Heap.lt_size e) (by rw [hDd]; exact Nat.lt_irrefl _)
  have gC : s₂.heap.get? C = none := by
    cases e : s₂.heap.get? C with
    | none => rfl
    | some o => exact absurd (Heap.lt_size e) (by rw [hDd, hC]; exact Nat.not_lt.mpr (Nat.le_succ _))
  have old : Ext s₂.heap h₁ := fun b o e => hsb₁.extBut b o (fun q => by rw [q, gC] at e; cases e) (Heap.get?_push_of_some _ (hH2 ▸ Heap.get?_push_of_some _ e))
  have hacc : h₁.get? D = some (LCg.lst []) := hsb₁.extBut _ _ hDC (by
    have := Heap.get?_push_size s₂.heap (o := { cls := .type "list", dict := none, data := .seq ([] : List Value).toArray }) rfl
    rw [hH2, hDd] at this; exact Heap.get?_push_of_some _ this)
  have fpC : C ∉ fp := fun hm => by have := hfp _ hm; rw [hDd, hC] at this; exact Nat.lt_irrefl _ (Nat.lt_of_succ_lt this)
  have fpD : D ∉ fp := fun hm => by have := hfp _ hm; rw [hDd] at this; exact Nat.lt_irrefl _ this
  have hst₁ : St 0 h₁ := W.frame _ _ _ hst fun b _ o e => old b o e
  let X : List Addr := C :: D :: env.locals :: wr
  have CX : C ∈ X := .head _
  have DX : D ∈ X := .tail _ (.head _)
  have LX : env.locals ∈ X := .tail _ (.tail _ (.head _))
  have wX : ∀ b ∈ wr, b ∈ X := fun b hb => .tail _ (.tail _ (.tail _ hb))
  obtain ⟨oL, _, _, gL, _⟩ := id hnL
  have LC : env.locals ≠ C := fun q => by rw [q, gC] at gL; cases gL
  have LD : env.locals ≠ D := fun q => by rw [q, gD] at gL; cases gL
  have fpL : ∀ b ∈ fp, b ≠ env.locals := fun b hb q => hLf (q ▸ hb)
  have leC : @LE.le Nat _ s₂.heap.objs.size C := by rw [hC, hDd]; exact Nat.le_succ _
  have leL : ∀ b o, s₂.heap.get? b = some o → @LE.le Nat _ b C := fun b o e => Nat.le_of_lt (Nat.lt_of_lt_of_le (Heap.lt_size e) leC)
  have leX : ∀ b ∈ X, @LE.le Nat _ b C := fun b hb => by
    rcases List.mem_cons.mp hb with rfl | hb
    · exact Nat.le_refl _
    · rcases List.mem_cons.mp hb with rfl | hb
      · rw [hC]; exact Nat.le_succ _
      · rcases List.mem_cons.mp hb with rfl | hb
        · exact leL _ _ gL
        · obtain ⟨o, e⟩ := hwr _ _ hst b hb; exact leL _ _ e
  have CW : C ∉ wr := fun h => fpC (W.sub _ h)
  have DW : D ∉ wr := fun h => fpD (W.sub _ h)
  have loop : ∀ s₃ : Shared, s₃ = { s₂ with heap := h₁, toks := s₂.toks + ([] : List (PySem.Str × Value)).length } →
      codeAny (model prog w) A (.compLoop (.ListComp elt [⟨.Name x px, iter, ifs, 0⟩] scope pos) 0 (.ref I) (.ref D) (compEnvC scope cl C env)) (RR (.ref D) C) s₃ := by
    rintro s₃ rfl
    refine codeAny_compLoop_tests
      (fun k s' => ∃ h' tk m' ys vs, s' = { s₂ with heap := h', toks := tk } ∧ vs.length ≤ n ∧ k = n + 1 - vs.length ∧ ys.length ≤ vs.length ∧ St vs.length h' ∧ h'.Ns C m' ∧ h'.get? D = some (LCg.lst ys) ∧
        (∀ j v, vs[j]? = some v → P j v) ∧ ExtN wr env.locals s₂.heap h' ∧ J X vs ys h') ?_ (n + 1)
      ⟨h₁, _, _, [], [], rfl, Nat.zero_le _, rfl, Nat.le_refl _, hst₁, hns₁, hacc, by simp, .of_ext old, hJ X _ _ _ _ (J0 X) fun b o _ e => old b o e⟩
    rintro k s' ⟨h', tk, m', ys, vs, rfl, hi, rfl, hyl, hst', hn', hD', hP, hk, hj⟩
    by_cases hlt : vs.length < n
    · refine W.item vs.length _ _ _ hlt hst' fun v h₂ tk₂ hPv hst₂ hk₂ => ?_
      refine wpAny_assign_Name (wpAny_storeName_local (lookup_relabel_local hx) (hn'.at' fun o e => hk₂ _ o CW e) (fun h₃ hn₃ hs₃ => ?_) (by simp [compEnvC, relabel, hkind]))
      have up₃ : ExtN wr env.locals s₂.heap h₃ := (hk.tr (.of_O hLw hk₂)).trO gC LC hs₃
      have hst₃ : St (vs.length + 1) h₃ := W.frame _ _ _ hst₂ fun b hb o e => hs₃.extBut b o (fun q => fpC (by have q' : b = C := q; rw [← q']; exact hb)) e
      have hD₃ : h₃.get? D = some (LCg.lst ys) := hs₃.extBut _ _ hDC (hk₂ _ _ DW hD')
      obtain ⟨oC, heC, hoC⟩ := LCg.ns_obj hn₃
      have j₃ : J X vs ys h₃ := hJ X _ _ _ _ hj fun b o hb e => hs₃.extBut b o (fun q => hb (by have q' : b = C := q; rw [q']; exact CX)) (hk₂ b o (fun q => hb (wX b q)) e)
      have hP' : ∀ j u, (vs ++ [v])[j]? = some u → P j u := fun j u hj => by
        rcases Nat.lt_trichotomy j vs.length with h | h | h
        · exact hP j u (by rwa [List.getElem?_append_left h] at hj)
        · subst h; simp at hj; subst hj; exact hPv
        · have hnone : (vs ++ [v])[j]? = none := List.getElem?_eq_none (by rw [List.length_append, List.length_singleton]; omega)
          rw [hnone] at hj; cases hj
      have hlen : (vs ++ [v]).length = vs.length + 1 := by rw [List.length_append, List.length_singleton]
      refine wpAny_mono (T X C oC v vs ys h₃ _ _ _ hlt hPv hoC (by simp) up₃ heC gC CX LX leC leX j₃) (fun ok s₄ h₄ => ?_) fun _ _ e => e
      obtain ⟨h₄, tk₄, rfl, x₄, z₄⟩ := h₄
      have hst₄ : St (vs.length + 1) h₄ := W.frame _ _ _ hst₃ fun b hb o e => x₄.1 b o (by simp) (fpL b hb) e
      cases ok with
      | false =>
        simp only [Bool.false_eq_true, if_false] at z₄ ⊢
        exact ⟨n + 1 - (vs ++ [v]).length, by omega, h₄, tk₄, _, ys, vs ++ [v], rfl, by omega, rfl, by omega, by rw [hlen]; exact hst₄, hn₃.at' (fun o e => x₄.1 _ o (by simp) (Ne.symm LC) e), x₄.1 _ _ (by simp) (Ne.symm LD) hD₃, hP', up₃.tr x₄.more, z₄⟩
      | true =>
        simp only [if_true] at z₄ ⊢
        refine wpAny_mono z₄ (fun y s₅ h₅ => ?_) fun _ _ e => e
        obtain ⟨h₅, tk₅, rfl, x₅, j₅⟩ := h₅
        refine append_at (hsz := by show ys.toArray.size ≤ sizeLine; rw [List.size_toArray]; omega) (x₅.1 _ _ (by simp) (Ne.symm LD) (x₄.1 _ _ (by simp) (Ne.symm LD) hD₃)) fun h₆ hs₆ hD₆ => ?_
        refine ⟨n + 1 - (vs ++ [v]).length, by omega, h₆, tk₅, _, ys ++ [y], vs ++ [v], rfl, by omega, rfl, by rw [List.length_append, List.length_singleton]; omega, ?_, ((hn₃.at' fun o e => x₄.1 _ o (by simp) (Ne.symm LC) e).at' fun o e => x₅.1 _ o (by simp) (Ne.symm LC) e).sameBut hs₆ (Ne.symm hDC), hD₆.trans (congrArg some (LCg.lst_snoc ys y)), hP', ?_, ?_⟩
        · rw [hlen]; exact W.frame _ _ _ hst₄ fun b hb o e => hs₆.extBut b o (fun q => fpD (q ▸ hb)) (x₅.1 b o (by simp) (fpL b hb) e)
        · exact ((up₃.tr x₄.more).tr x₅.more).trO gD LD hs₆
        · exact hJ X _ _ _ _ j₅ fun b o hb e => hs₆.extBut b o (fun q => hb (q ▸ DX)) e
    · have hin : vs.length = n := by omega
      refine W.done _ _ _ (hin ▸ hst') fun h₂ tk₂ hk₂ => ?_
      exact hRR D C h₂ tk₂ m' ys vs X gD gC hDC (hn'.at' fun o e => hk₂ _ o CW e) (hk₂ _ _ DW hD') hin hP (hJ X _ _ _ _ hj fun b o hb e => hk₂ b o (fun q => hb (wX b q)) e) DX CX LX (hk.tr (.of_O hLw hk₂))
  exact codeAny_compStart_list (loop _ rfl) (W.self 0 _ _ _ hst₁ (loop _ rfl))

/-- what the source of a comprehension must show -/
def SrcJ (prog : Program) (w : World) (A : Around) (env : Env) (scope : Scope) (cl : List (PySem.Str × Addr)) (x : PySem.Str) (ifs : List Expr) (elt : Expr) (Q : Value → Shared → Prop) (it : Value) (s₂ : Shared) : Prop :=
  ∃ I fp wr n P St, ∃ J : List Addr → List Value → List Value → Heap → Prop, ∃ m, it = .ref I ∧ Walks prog w A I fp wr n P St ∧ n ≤ sizeLine ∧ (∀ i h, St i h → Live wr h) ∧ s₂.heap.Ns env.locals m ∧ env.locals ∉ wr ∧ env.locals ∉ fp ∧ St 0 s₂.heap ∧ (∀ b ∈ fp, b < s₂.heap.objs.size) ∧
    (∀ X vs ys h h', J X vs ys h → ExtO X h h' → J X vs ys h') ∧ (∀ X, J X [] [] s₂.heap) ∧ Turn prog w A env scope cl x ifs elt wr n P J s₂ ∧
    (∀ D h' tk ys vs X, s₂.heap.get? D = none → h'.get? D = some (LCg.lst ys) → vs.length = n → (∀ j v, vs[j]? = some v → P j v) → J X vs ys h' → D ∈ X → ExtN wr env.locals s₂.heap h' → Q (.ref D) { s₂ with heap := h', toks := tk })
/-- the same, the list bound to a local name -/
def SrcJA (prog : Program) (w : World) (A : Around) (env : Env) (scope : Scope) (cl : List (PySem.Str × Addr)) (x y : PySem.Str) (ifs : List Expr) (elt : Expr) (Q : Flow → Shared → Prop) (it : Value) (s₂ : Shared) : Prop :=
  ∃ I fp wr n P St, ∃ J : List Addr → List Value → List Value → Heap → Prop, ∃ m, it = .ref I ∧ Walks prog w A I fp wr n P St ∧ n ≤ sizeLine ∧ (∀ i h, St i h → Live wr h) ∧ s₂.heap.Ns env.locals m ∧ env.locals ∉ wr ∧ env.locals ∉ fp ∧ St 0 s₂.heap ∧ (∀ b ∈ fp, b < s₂.heap.objs.size) ∧
    (∀ X vs ys h h', J X vs ys h → ExtO X h h' → J X vs ys h') ∧ (∀ X, J X [] [] s₂.heap) ∧ Turn prog w A env scope cl x ifs elt wr n P J s₂ ∧
    (∀ D h' tk ys vs X, s₂.heap.get? D = none → h'.get? D = some (LCg.lst ys) → vs.length = n → (∀ j v, vs[j]? = some v → P j v) → J X vs ys h' → D ∈ X → h'.Ns env.locals (fun z => if z = y then some (.ref D) else m z) → ExtO (env.locals :: wr) s₂.heap h' → Q .next { s₂ with heap := h', toks := tk })

theorem comp_J {elt iter : Expr} {x : PySem.Str} {px : Pos} {ifs : List Expr} {scope : Scope} {cl : List (PySem.Str × Addr)} {pos : Pos} {Q : Value → Shared → Prop}
    (hclos : closureFor scope env = pure cl) (hcell : ∀ y ∈ scope.names, y.2 ≠ .cell) (hkind : scope.kind = .function)
    (hnames : ∀ y ∈ scope.names, y.2 = .local → scope.names.lookup y.1 = some .local) (hx : scope.names.lookup x = some .local)
    (h : wpAny (model prog w) A (eval iter env) (fun xv s₁ => wpAny (model prog w) A (pyIter xv) (SrcJ prog w A env scope cl x ifs elt Q) E s₁) E s)
    (hs : ∀ x, foldedSetIterable iter env x = pure x := by intro _; rfl) :
    wpAny (model prog w) A (eval (.ListComp elt [⟨.Name x px, iter, ifs, 0⟩] scope pos) env) Q E s := by
  rw [eval_ListComp]
  refine wpAny_comprehension_free (use := none) rfl hs hclos hkind hnames (wpAny_mono h (fun xv s₁ h₁ => wpAny_mono h₁ (fun it s₂ h₂ => ?_) fun _ _ e => e) fun _ _ e => e)
  obtain ⟨I, fp, wr, n, P, St, J, m, rfl, W, hsz, hwr, hnL, hLw, hLf, hst, hfp, hJ, J0, T, fin⟩ := h₂
  refine block_J (RR := fun acc C => compPost (model prog w) A E none Q acc C) W hsz hwr hnL hLw hLf hcell hkind hx hst hfp hJ J0 T ?_
  intro D C h' tk m' ys vs X gD gC hDC hn hD hlen hP hj DX CX LX hk
  refine ⟨m', hn, fun h'' hs'' => fin D h'' tk ys vs X gD (hs''.extBut _ _ hDC hD) hlen hP (hJ X _ _ _ _ hj fun b o hb e => hs''.extBut b o (fun q => hb (q ▸ CX)) e) DX (hk.trO gC (fun q => by obtain ⟨_, _, _, gL, _⟩ := id hnL; rw [q, gC] at gL; cases gL) hs'')⟩

theorem assign_J {elt iter : Expr} {x y : PySem.Str} {px py : Pos} {ifs : List Expr} {scope : Scope} {cl : List (PySem.Str × Addr)} {pos spos : Pos} {Q : Flow → Shared → Prop}
    (hsw : swapsWith (.ListComp elt [⟨.Name x px, iter, ifs, 0⟩] scope pos) (some (.Name y py)) spos.line env = pure true)
    (hclos : closureFor scope env = pure cl) (hcell : ∀ z ∈ scope.names, z.2 ≠ .cell) (hkind : scope.kind = .function)
    (hnames : ∀ z ∈ scope.names, z.2 = .local → scope.names.lookup z.1 = some .local) (hx : scope.names.lookup x = some .local)
    (hy : env.kindOf y = some .local) (hp : (env.scope.kind == .class || (env.scope.kind == .module && env.locals != env.globals)) = false)
    (h : wpAny (model prog w) A (eval iter env) (fun xv s₁ => wpAny (model prog w) A (pyIter xv) (SrcJA prog w A env scope cl x y ifs elt Q) E s₁) E s)
    (hs : ∀ x, foldedSetIterable iter env x = pure x := by intro _; rfl) :
    wpAny (model prog w) A (exec (.Assign [.Name y py] (.ListComp elt [⟨.Name x px, iter, ifs, 0⟩] scope pos) spos) env) Q E s := by
  rw [exec_Assign_Name_used _ _ _ _ hsw]
  refine wpAny_bind (wpAny_standAt (wpAny_bind ?_))
  show wpAny _ A (do let _ ← comprehension (.ListComp elt [⟨.Name x px, iter, ifs, 0⟩] scope pos) scope env _ (newList []) false (eval iter env) (some (assign (.Name y py) env))) _ _ s
  refine wpAny_bind (wpAny_mono (wpAny_comprehension_free (use := some (assign (.Name y py) env)) (Q := fun _ s' => Q .next s') rfl hs hclos hkind hnames
    (wpAny_mono h (fun xv s₁ h₁ => wpAny_mono h₁ (fun it s₂ h₂ => ?_) fun _ _ e => e) fun _ _ e => e)) (fun _ s' hq => wpAny_pure (wpAny_pure hq)) fun _ _ e => e)
  obtain ⟨I, fp, wr, n, P, St, J, m, rfl, W, hsz, hwr, hnL, hLw, hLf, hst, hfp, hJ, J0, T, fin⟩ := h₂
  obtain ⟨oL, _, _, gL, _⟩ := id hnL
  refine block_J (RR := fun acc C => compPost (model prog w) A E (some (assign (.Name y py) env)) (fun _ s' => Q .next s') acc C) W hsz hwr hnL hLw hLf hcell hkind hx hst hfp hJ J0 T ?_
  intro D C h' tk m' ys vs X gD gC hDC hn hD hlen hP hj DX CX LX hk
  have hLC : env.locals ≠ C := fun q => by rw [q, gC] at gL; cases gL
  have hLD : env.locals ≠ D := fun q => by rw [q, gD] at gL; cases gL
  show wpAny _ A (assign (.Name y py) env (.ref D)) _ _ _
  refine wpAny_assign_Name (wpAny_storeName_local hy (hk.2 _ hnL) (fun h₂ hn₂ hs₂ => ?_) hp)
  refine ⟨m', hn.sameBut hs₂ (Ne.symm hLC), fun h'' hs'' => fin D h'' _ ys vs X gD (hs''.extBut _ _ hDC (hs₂.extBut _ _ (Ne.symm hLD) hD)) hlen hP ?_ DX (hn₂.sameBut hs'' hLC) ?_⟩
  · exact hJ X _ _ _ _ hj fun b o hb e => hs''.extBut b o (fun q => hb (q ▸ CX)) (hs₂.extBut b o (fun q => hb (q ▸ LX)) e)
  · exact fun b o hb e => hs''.extBut b o (fun q => by rw [q, gC] at e; cases e) (hs₂.extBut b o (fun q => hb (q ▸ .head _)) (hk.1 b o (fun q => hb (.tail _ q)) (fun q => hb (q ▸ .head _)) e))

/-- a thing that can be walked: its iterator is made and n items come -/
def IsSrc (prog : Program) (w : World) (A : Around) (s₁ : Shared) (xv : Value) (srcs : List Addr) (n : Nat) (P : Nat → Value → Prop) : Prop :=
  ∀ (Q : Value → Shared → Prop) (E : Value → Shared → Prop), (∀ oI fp St, oI.isFreed = false → Walks prog w A s₁.heap.objs.size fp [s₁.heap.objs.size] n P St → St 0 (s₁.heap.push oI) → (∀ b ∈ fp, b < (s₁.heap.push oI).objs.size) → (∀ b ∈ fp, b = s₁.heap.objs.size ∨ b ∈ srcs) →
    (∀ i h, St i h → Live [s₁.heap.objs.size] h) → Q (.ref s₁.heap.objs.size) { s₁ with heap := s₁.heap.push oI }) → wpAny (model prog w) A (pyIter xv) Q E s₁

theorem isSrc_list {s₁ : Shared} {l : Addr} {items : Array Value} (hh : A.handled = none) (hl : s₁.heap.IsList l items) : IsSrc prog w A s₁ (.ref l) [l] items.size (fun i v => items[i]? = some v) := fun Q E h => by
  have hlt : l < s₁.heap.objs.size := by obtain ⟨_, e, _⟩ := hl; exact Heap.lt_size e
  refine wpAny_pyIter_list hl (h _ _ _ rfl (Walks.list hh s₁.heap.objs.size l (Nat.ne_of_lt hlt) items) ⟨⟨_, Heap.get?_push_size _ rfl, rfl, rfl⟩, hl.push _⟩ (fun b hb => ?_) (fun b hb => by simpa using hb) fun i h' st b hb => ?_)
  · rw [Heap.size_push]
    rcases List.mem_cons.mp hb with rfl | hb
    · exact Nat.lt_succ_self _
    · rw [List.mem_singleton.mp hb]; exact Nat.lt_succ_of_lt hlt
  · rw [List.mem_singleton.mp hb]
    obtain ⟨o, e, _⟩ := st.1; exact ⟨o, e⟩

theorem isSrc_tuple {s₁ : Shared} {l : Addr} {items : Array Value} (hh : A.handled = none) (hl : s₁.heap.IsTuple l items) : IsSrc prog w A s₁ (.ref l) [l] items.size (fun i v => items[i]? = some v) := fun Q E h => by
  have hlt : l < s₁.heap.objs.size := by obtain ⟨_, e, _⟩ := hl; exact Heap.lt_size e
  refine wpAny_pyIter_tuple hl (h _ _ _ rfl (Walks.tuple hh s₁.heap.objs.size l (Nat.ne_of_lt hlt) items) ⟨⟨_, Heap.get?_push_size _ rfl, rfl, rfl⟩, ?_⟩ (fun b hb => ?_) (fun b hb => by simpa using hb) fun i h' st b hb => ?_)
  · obtain ⟨o, e, r⟩ := hl; exact ⟨o, Heap.get?_push_of_some _ e, r⟩
  · rw [Heap.size_push]
    rcases List.mem_cons.mp hb with rfl | hb
    · exact Nat.lt_succ_self _
    · rw [List.mem_singleton.mp hb]; exact Nat.lt_succ_of_lt hlt
  · rw [List.mem_singleton.mp hb]
    obtain ⟨o, e, _⟩ := st.1; exact ⟨o, e⟩

theorem isSrc_range {s₁ : Shared} {r : Addr} {a b : Int} {t u v : Tok} {n : Nat} (hh : A.handled = none) (hr : IsRange s₁.heap r a b 1 t u v) (hsm : Builtin.Range.small a b 1 = true) (hn : Builtin.Range.rangeSize a b 1 = ((n : Nat) : Int)) :
    IsSrc prog w A s₁ (.ref r) [] n (fun i v => ∃ t, v = .int (a + (i : Int)) t) := fun Q E h => by
  refine wpAny_pyIter_range hr hsm (h _ _ _ rfl (LCg.range_walks hh a n) ?_ (fun b hb => ?_) (fun b hb => by simpa using hb) fun i h' st b hb => ?_)
  · show IsRangeIter _ _ _ _ _
    rw [hn]; simpa using Heap.get?_push_size _ rfl
  · rw [List.mem_singleton.mp hb, Heap.size_push]; exact Nat.lt_succ_self _
  · rw [List.mem_singleton.mp hb]; exact ⟨_, st⟩

/-- what an element leaves -/
def Elt (L : Addr) (s₁ : Shared) (h : Heap) (R : Value → Heap → Prop) (y : Value) (s₅ : Shared) : Prop := ∃ h₅ tk₅, s₅ = { s₁ with heap := h₅, toks := tk₅ } ∧ KeepL L h h₅ ∧ R y h₅
theorem Elt.intro {L : Addr} {s₁ : Shared} {h h₅ : Heap} {tk : Nat} {R : Value → Heap → Prop} {y : Value} (x : KeepL L h h₅) (r : R y h₅) : Elt L s₁ h R y { s₁ with heap := h₅, toks := tk } := ⟨h₅, tk, rfl, x, r⟩
/-- a test, then perhaps an element -/
def Tst (L : Addr) (prog : Program) (w : World) (A : Around) (elt : Expr) (cenv : Env) (E' : Value → Shared → Prop) (s₁ : Shared) (h : Heap) (R : Value → Heap → Prop) (R₀ : Heap → Prop) (ok : Bool) (s₄ : Shared) : Prop :=
  ∃ h₄ tk₄, s₄ = { s₁ with heap := h₄, toks := tk₄ } ∧ KeepL L h h₄ ∧ (if ok = true then wpAny (model prog w) A (eval elt cenv) (Elt L s₁ h₄ R) E' s₄ else R₀ h₄)

/-- the turn, told from the state ahead of the iterator -/
def TurnS (prog : Program) (w : World) (A : Around) (env : Env) (scope : Scope) (cl : List (PySem.Str × Addr)) (x : PySem.Str) (ifs : List Expr) (elt : Expr) (n : Nat) (P : Nat → Value → Prop)
    (J : List Addr → List Value → List Value → Heap → Prop) (s₁ : Shared) : Prop :=
  ∀ (X : List Addr) (C : Addr) (oC : Obj) (v : Value) (vs ys : List Value) (h : Heap) (tk : Nat) (m₃ : PySem.Str → Option Value) (E' : Value → Shared → Prop),
    vs.length < n → P vs.length v → LCg.NsObj oC m₃ → m₃ x = some v → KeepL env.locals s₁.heap h → h.get? C = some oC → s₁.heap.get? C = none → C ∈ X → env.locals ∈ X → @LE.le Nat _ s₁.heap.objs.size C → (∀ b ∈ X, @LE.le Nat _ b C) → J X vs ys h →
    wpAny (model prog w) A (forIn ifs true fun c r => if r = true then do let ok ← isTrue c (compEnvC scope cl C env) (eval c (compEnvC scope cl C env)); pure (ForInStep.yield ok) else pure (ForInStep.yield r))
      (Tst env.locals prog w A elt (compEnvC scope cl C env) E' s₁ h (fun y h₅ => J X (vs ++ [v]) (ys ++ [y]) h₅) (fun h₄ => J X (vs ++ [v]) ys h₄)) E' { s₁ with heap := h, toks := tk }

theorem TurnS.toTurn {scope : Scope} {cl : List (PySem.Str × Addr)} {x : PySem.Str} {ifs : List Expr} {elt : Expr} {n : Nat} {P : Nat → Value → Prop} {J : List Addr → List Value → List Value → Heap → Prop} {s₁ : Shared} {oI : Obj}
    (T : TurnS prog w A env scope cl x ifs elt n P J s₁) : Turn prog w A env scope cl x ifs elt [s₁.heap.objs.size] n P J { s₁ with heap := s₁.heap.push oI } := by
  intro X C oC v vs ys h tk m₃ E' hlt hP hoC hx hk hC gC CX lv lC lX hj
  have gC' : s₁.heap.get? C = none := by
    cases e : s₁.heap.get? C with
    | none => rfl
    | some o => have := Heap.get?_push_of_some oI e; rw [gC] at this; cases this
  refine wpAny_mono (T X C oC v vs ys h tk m₃ E' hlt hP hoC hx ⟨fun b o _ hL e => hk.1 b o (fun hm => absurd (Heap.lt_size e) (by rw [List.mem_singleton.mp hm]; exact Nat.lt_irrefl _)) hL (Heap.get?_push_of_some _ e), fun m hm => hk.2 m (hm.keeps fun b o e => Heap.get?_push_of_some _ e)⟩ hC gC' CX lv (Nat.le_trans (Nat.le_of_lt (by show s₁.heap.objs.size < (s₁.heap.push oI).objs.size; rw [Heap.size_push]; exact Nat.lt_succ_self _)) lC) lX hj) (fun ok s₄ h₄ => ?_) fun _ _ e => e
  obtain ⟨h', tk', rfl, x', z⟩ := h₄
  refine ⟨h', tk', rfl, x', ?_⟩
  cases ok with
  | false => simpa using z
  | true =>
    simp only [if_true] at z ⊢
    exact wpAny_mono z (fun y s₅ q => by obtain ⟨a, b, rfl, c, d⟩ := q; exact ⟨a, b, rfl, c, d⟩) fun _ _ e => e

theorem src_J {scope : Scope} {cl : List (PySem.Str × Addr)} {x : PySem.Str} {ifs : List Expr} {elt : Expr} {srcs : List Addr} {n : Nat} {P : Nat → Value → Prop} {s₁ : Shared} {xv : Value} {Q : Value → Shared → Prop} {m : PySem.Str → Option Value} (J : Nat → List Addr → List Value → List Value → Heap → Prop)
    (S : IsSrc prog w A s₁ xv srcs n P) (hsz : n ≤ sizeLine) (hnL : s₁.heap.Ns env.locals m) (hLs : env.locals ∉ srcs)
    (hJ : ∀ X vs ys h h', J s₁.heap.objs.size X vs ys h → ExtO X h h' → J s₁.heap.objs.size X vs ys h') (J0 : ∀ X, J s₁.heap.objs.size X [] [] s₁.heap) (T : TurnS prog w A env scope cl x ifs elt n P (J s₁.heap.objs.size) s₁)
    (fin : ∀ D h' tk ys vs X, s₁.heap.get? D = none → h'.get? D = some (LCg.lst ys) → vs.length = n → (∀ j v, vs[j]? = some v → P j v) → J s₁.heap.objs.size X vs ys h' → D ∈ X → KeepL env.locals s₁.heap h' → Q (.ref D) { s₁ with heap := h', toks := tk }) :
    wpAny (model prog w) A (pyIter xv) (SrcJ prog w A env scope cl x ifs elt Q) E s₁ := by
  refine S _ _ fun oI fp St hf W st0 hfp hsub hwr => ?_
  have up : Ext s₁.heap (s₁.heap.push oI) := fun b o e => Heap.get?_push_of_some _ e
  obtain ⟨oL, _, _, gL, _⟩ := id hnL
  have off : ∀ b o, s₁.heap.get? b = some o → b ∉ [s₁.heap.objs.size] := fun b o e hm => absurd (Heap.lt_size e) (by rw [List.mem_singleton.mp hm]; exact Nat.lt_irrefl _)
  refine ⟨_, fp, _, n, P, St, J s₁.heap.objs.size, m, rfl, W, hsz, hwr, hnL.keeps up, off _ _ gL, fun hm => (hsub _ hm).elim (fun q => off _ _ gL (q ▸ .head _)) hLs, st0, hfp, hJ, fun X => hJ X _ _ _ _ (J0 X) fun b o _ e => up b o e, T.toTurn, ?_⟩
  intro D h' tk ys vs X gD hD hlen hP hj DX hk
  refine fin D h' tk ys vs X ?_ hD hlen hP hj DX ⟨fun b o _ hL e => hk.1 b o (off b o e) hL (up b o e), fun m hm => hk.2 m (hm.keeps up)⟩
  cases e : s₁.heap.get? D with
  | none => rfl
  | some o => have := up _ _ e; rw [gD] at this; cases this

theorem src_JA {scope : Scope} {cl : List (PySem.Str × Addr)} {x y : PySem.Str} {ifs : List Expr} {elt : Expr} {srcs : List Addr} {n : Nat} {P : Nat → Value → Prop} {s₁ : Shared} {xv : Value} {Q : Flow → Shared → Prop} {m : PySem.Str → Option Value} (J : Nat → List Addr → List Value → List Value → Heap → Prop)
    (S : IsSrc prog w A s₁ xv srcs n P) (hsz : n ≤ sizeLine) (hnL : s₁.heap.Ns env.locals m) (hLs : env.locals ∉ srcs)
    (hJ : ∀ X vs ys h h', J s₁.heap.objs.size X vs ys h → ExtO X h h' → J s₁.heap.objs.size X vs ys h') (J0 : ∀ X, J s₁.heap.objs.size X [] [] s₁.heap) (T : TurnS prog w A env scope cl x ifs elt n P (J s₁.heap.objs.size) s₁)
    (fin : ∀ D h' tk ys vs X, s₁.heap.get? D = none → h'.get? D = some (LCg.lst ys) → vs.length = n → (∀ j v, vs[j]? = some v → P j v) → J s₁.heap.objs.size X vs ys h' → D ∈ X → h'.Ns env.locals (fun z => if z = y then some (.ref D) else m z) → ExtO [env.locals] s₁.heap h' → Q .next { s₁ with heap := h', toks := tk }) :
    wpAny (model prog w) A (pyIter xv) (SrcJA prog w A env scope cl x y ifs elt Q) E s₁ := by
  refine S _ _ fun oI fp St hf W st0 hfp hsub hwr => ?_
  have up : Ext s₁.heap (s₁.heap.push oI) := fun b o e => Heap.get?_push_of_some _ e
  have off : ∀ b o, s₁.heap.get? b = some o → b ∉ [s₁.heap.objs.size] := fun b o e hm => absurd (Heap.lt_size e) (by rw [List.mem_singleton.mp hm]; exact Nat.lt_irrefl _)
  obtain ⟨oL, _, _, gL, _⟩ := id hnL
  refine ⟨_, fp, _, n, P, St, J s₁.heap.objs.size, m, rfl, W, hsz, hwr, hnL.keeps up, off _ _ gL, fun hm => (hsub _ hm).elim (fun q => off _ _ gL (q ▸ .head _)) hLs, st0, hfp, hJ, fun X => hJ X _ _ _ _ (J0 X) fun b o _ e => up b o e, T.toTurn, ?_⟩
  intro D h' tk ys vs X gD hD hlen hP hj DX hn' hk
  refine fin D h' tk ys vs X ?_ hD hlen hP hj DX hn' fun b o hb e => hk b o (fun hm => ?_) (up b o e)
  · cases e : s₁.heap.get? D with
    | none => rfl
    | some o => have := up _ _ e; rw [gD] at this; cases this
  · rcases List.mem_cons.mp hm with rfl | hm
    · exact hb (.head _)
    · exact off b o e hm

theorem fr_L {h₀ h h' : Heap} {L : Addr} {m : PySem.Str → Option Value} (F : Fr h₀ L h m) (k : KeepL L h h') : Fr h₀ L h' m :=
  ⟨k.2 _ F.ns, fun b o e => k.1 b o (by simp) (fun q => by rw [q] at e; exact absurd (Nat.lt_of_lt_of_le (Heap.lt_size e) F.above) (Nat.lt_irrefl _)) (F.keep b o e), F.above⟩
theorem news_L {h₀ h h' : Heap} {L : Addr} {news : List (Addr × Obj)} (N : News h₀ L h news) (k : KeepL L h h') : News h₀ L h' news := fun p hp => ⟨k.1 _ _ (by simp) (N p hp).2.1 (N p hp).1, (N p hp).2⟩
/-- the frame and the ledger behind a comprehension bound to a name -/
theorem fr_bound {h₀ h h' : Heap} {L : Addr} {m m' : PySem.Str → Option Value} (F : Fr h₀ L h m) (hn : h'.Ns L m') (k : ExtO [L] h h') : Fr h₀ L h' m' :=
  ⟨hn, fun b o e => k b o (fun hm => by rw [List.mem_singleton.mp hm] at e; exact absurd (Nat.lt_of_lt_of_le (Heap.lt_size e) F.above) (Nat.lt_irrefl _)) (F.keep b o e), F.above⟩
theorem news_bound {h₀ h h' : Heap} {L : Addr} {news : List (Addr × Obj)} (N : News h₀ L h news) (k : ExtO [L] h h') : News h₀ L h' news :=
  fun p hp => ⟨k _ _ (by simpa using (N p hp).2.1) (N p hp).1, (N p hp).2⟩
theorem news_at {h₀ h : Heap} {L l : Addr} {m : PySem.Str → Option Value} {news : List (Addr × Obj)} {o : Obj} {h' : Heap} {m' : PySem.Str → Option Value} (F : Fr h₀ L h m) (F' : Fr h₀ L h' m') (N : News h₀ L h' news) (hl : h.get? l = none) (ho : h'.get? l = some o) : News h₀ L h' ((l, o) :: news) := by
  intro p hp
  rcases List.mem_cons.mp hp with rfl | hp
  · refine ⟨ho, ?_, ?_⟩
    · rintro rfl
      obtain ⟨oL, _, _, hL, _⟩ := F.ns
      rw [hl] at hL; cases hL
    · cases e : h₀.get? l with
      | none => rfl
      | some x => have := F.keep _ _ e; rw [hl] at this; cases this
  · exact N p hp
end
end Mine
end
section
open PySem PySem.W PySem.Spec PySem.Calls PyProof.Rows
set_option maxRecDepth 100000
namespace Mine
theorem compTurn2_0 (elt t0 t1 iter0 iter1 : Expr) (scope : Scope) (pos : Pos) (it acc : Value) (env : Env) :
    compTurn (.ListComp elt [⟨t0, iter0, [], 0⟩, ⟨t1, iter1, [], 0⟩] scope pos) 0 it acc env = (standAt iter0.pos >>= fun _ => pyNext it >>= fun r => match r with
      | none => pure (.done .next)
      | some v => letOwnedTupleGo t0 it v >>= fun _ => assign t0 env v >>= fun _ =>
        eval iter1 env >>= fun x => standAt iter1.pos >>= fun _ => foldedSetIterable iter1 env x >>= fun x => holding [x] (pyIter x) >>= fun i =>
          runOwn (.compStart (.ListComp elt [⟨t0, iter0, [], 0⟩, ⟨t1, iter1, [], 0⟩] scope pos) 1 i acc env) env >>= fun _ =>
          again (.compLoop (.ListComp elt [⟨t0, iter0, [], 0⟩, ⟨t1, iter1, [], 0⟩] scope pos) 0 it acc env)) := by rfl
theorem compTurn2_1 (elt t0 t1 iter0 iter1 : Expr) (scope : Scope) (pos : Pos) (it acc : Value) (env : Env) :
    compTurn (.ListComp elt [⟨t0, iter0, [], 0⟩, ⟨t1, iter1, [], 0⟩] scope pos) 1 it acc env = (standAt iter1.pos >>= fun _ => pyNext it >>= fun r => match r with
      | none => pure (.done .next)
      | some v => letOwnedTupleGo t1 it v >>= fun _ => assign t1 env v >>= fun _ =>
        (eval elt env >>= fun x => call (.builtin "list.append") [acc, x] >>= fun _ => pure ()) >>= fun _ =>
          again (.compLoop (.ListComp elt [⟨t0, iter0, [], 0⟩, ⟨t1, iter1, [], 0⟩] scope pos) 1 it acc env)) := by rfl
section
variable {prog : Program} {w : World} {A : Around} {E : Value → Shared → Prop} {R : Result → Shared → Prop} {s : Shared}
theorem start1 {elt t0 t1 iter0 iter1 : Expr} {scope : Scope} {pos : Pos} {it acc : Value} {env : Env}
    (h0 : codeAny (model prog w) A (.compLoop (.ListComp elt [⟨t0, iter0, [], 0⟩, ⟨t1, iter1, [], 0⟩] scope pos) 1 it acc env) R s)
    (h : wpAny (model prog w) A (pyIter it) (fun it' s' => codeAny (model prog w) A (.compLoop (.ListComp elt [⟨t0, iter0, [], 0⟩, ⟨t1, iter1, [], 0⟩] scope pos) 1 it' acc env) R s')
      (notedBy (model prog w) A env fun x s' => R (.error x) s') s) :
    codeAny (model prog w) A (.compStart (.ListComp elt [⟨t0, iter0, [], 0⟩, ⟨t1, iter1, [], 0⟩] scope pos) 1 it acc env) R s := by
  refine codeAny_of_tree ?_
  show wpAny _ _ ((compStart (.ListComp elt [⟨t0, iter0, [], 0⟩, ⟨t1, iter1, [], 0⟩] scope pos) 1 it acc env).onRaise (fun x => do noteFrame x env; standAt theWindowsPlace)) _ _ s
  refine wpAny_notedAt ?_
  unfold compStart
  show wpAny _ _ (ask >>= _) _ _ s
  refine wpAny_bind (wpAny_askSetting (wpAny_ite ?_))
  split
  · first
      | exact wpAny_bind (wpAny_pure (wpAny_pure (And.intro rfl h0)))
      | exact wpAny_pure (And.intro rfl h0)
  · first
      | exact wpAny_bind (wpAny_rule (wpAny_bind (wpAny_standAt (wpAny_bind (wpAny_mono h (fun it' s' h' => wpAny_pure (And.intro rfl h')) fun _ _ x => x)))))
      | (refine wpAny_bind (wpAny_rule ?_); show wpAny _ _ (standAt iter1.pos >>= _) _ _ s; exact wpAny_bind (wpAny_standAt (wpAny_bind (wpAny_mono h (fun it' s' h' => wpAny_pure (And.intro rfl h')) fun _ _ x => x))))
theorem loop1 {elt t0 t1 iter0 iter1 : Expr} {scope : Scope} {pos : Pos} {it acc : Value} {env : Env} (I : Nat → Shared → Prop)
    (turn : ∀ n s, I n s → wpAny (model prog w) A (pyNext it) (fun r s₁ => match r with
      | none => R (.ok .next) s₁
      | some v => wpAny (model prog w) A (assign t1 env v) (fun _ s₂ => wpAny (model prog w) A (eval elt env) (fun x s₃ =>
          wpAny (model prog w) A (call (.builtin "list.append") [acc, x]) (fun _ s₄ => ∃ m, m < n ∧ I m s₄) (notedBy (model prog w) A env fun e s' => R (.error e) s') s₃)
          (notedBy (model prog w) A env fun e s' => R (.error e) s') s₂) (notedBy (model prog w) A env fun e s' => R (.error e) s') s₁) (notedBy (model prog w) A env fun e s' => R (.error e) s') s)
    (n : Nat) (h : I n s) (ht : ∀ v, letOwnedTupleGo t1 it v = pure () := by intro _; rfl) :
    codeAny (model prog w) A (.compLoop (.ListComp elt [⟨t0, iter0, [], 0⟩, ⟨t1, iter1, [], 0⟩] scope pos) 1 it acc env) R s := by
  refine codeAny_loop rfl I (fun n s hI => ?_) n h
  show wpAny _ _ ((compTurn (.ListComp elt [⟨t0, iter0, [], 0⟩, ⟨t1, iter1, [], 0⟩] scope pos) 1 it acc env).onRaise (fun x => do noteFrame x env; theTreesLotGoes x)) _ _ s
  refine wpAny_noted ?_
  rw [compTurn2_1]
  refine wpAny_bind (wpAny_standAt (wpAny_bind (wpAny_mono (turn n s hI) (fun r s₁ h₁ => ?_) fun _ _ h' => h')))
  cases r with
  | none => exact wpAny_pure h₁
  | some v =>
    refine wpAny_bind (wpAny_of_eq (ht v) ?_)
    exact wpAny_bind (wpAny_mono h₁ (fun _ s₂ h₂ => wpAny_bind (wpAny_bind (wpAny_mono h₂ (fun x s₃ h₃ => wpAny_bind (wpAny_mono h₃
      (fun _ s₄ h₄ => wpAny_pure (wpAny_pure ⟨rfl, h₄⟩)) fun _ _ h' => h')) fun _ _ h' => h'))) fun _ _ h' => h')
/-- the outer loop: one turn at the first state, then the end -/
theorem loop0 {elt t0 t1 iter0 iter1 : Expr} {scope : Scope} {pos : Pos} {it acc : Value} {env : Env} (Mid : Shared → Prop)
    (first : wpAny (model prog w) A (pyNext it) (fun r s₁ => match r with
      | none => False
      | some v => wpAny (model prog w) A (assign t0 env v) (fun _ s₂ => wpAny (model prog w) A (eval iter1 env) (fun x s₃ =>
          wpAny (model prog w) A (pyIter x) (fun i s₄ => codeAny (model prog w) (A.mark none) (.compStart (.ListComp elt [⟨t0, iter0, [], 0⟩, ⟨t1, iter1, [], 0⟩] scope pos) 1 i acc env)
            (fun r s' => match r with | .ok _ => Mid s' | .error e => cameBackBy (model prog w) A env (notedBy (model prog w) A env fun e s' => R (.error e) s') e s') s₄) (notedBy (model prog w) A env fun e s' => R (.error e) s') s₃)
          (notedBy (model prog w) A env fun e s' => R (.error e) s') s₂) (notedBy (model prog w) A env fun e s' => R (.error e) s') s₁) (notedBy (model prog w) A env fun e s' => R (.error e) s') s)
    (last : ∀ s', Mid s' → wpAny (model prog w) A (pyNext it) (fun r s₁ => match r with | none => R (.ok .next) s₁ | some _ => False) (notedBy (model prog w) A env fun e s' => R (.error e) s') s')
    (hs : ∀ x, foldedSetIterable iter1 env x = pure x) (ht : ∀ v, letOwnedTupleGo t0 it v = pure () := by intro _; rfl) :
    codeAny (model prog w) A (.compLoop (.ListComp elt [⟨t0, iter0, [], 0⟩, ⟨t1, iter1, [], 0⟩] scope pos) 0 it acc env) R s := by
  refine codeAny_loop rfl (fun n s' => (n = 2 ∧ s' = s) ∨ (n = 1 ∧ Mid s')) (fun n s' hI => ?_) 2 (.inl ⟨rfl, rfl⟩)
  show wpAny _ _ ((compTurn (.ListComp elt [⟨t0, iter0, [], 0⟩, ⟨t1, iter1, [], 0⟩] scope pos) 0 it acc env).onRaise (fun x => do noteFrame x env; theTreesLotGoes x)) _ _ s'
  refine wpAny_noted ?_
  rw [compTurn2_0]
  rcases hI with ⟨rfl, rfl⟩ | ⟨rfl, hM⟩
  · refine wpAny_bind (wpAny_standAt (wpAny_bind (wpAny_mono first (fun r s₁ h₁ => ?_) fun _ _ h' => h')))
    cases r with
    | none => exact h₁.elim
    | some v =>
      refine wpAny_bind (wpAny_of_eq (ht v) ?_)
      refine wpAny_bind (wpAny_mono h₁ (fun _ s₂ h₂ => wpAny_bind (wpAny_mono h₂ (fun x s₃ h₃ => wpAny_bind (wpAny_standAt (wpAny_bind (wpAny_of_eq (hs x) (wpAny_bind (wpAny_holding (wpAny_mono h₃ (fun i s₄ h₄ => ?_) fun _ _ h' => h'))))))) fun _ _ h' => h')) fun _ _ h' => h')
      exact wpAny_bind (wpAny_runOwn (codeAny_mono h₄ fun r s₅ h₅ => by
        cases r with
        | ok f => exact wpAny_pure ⟨rfl, 1, by omega, .inr ⟨rfl, h₅⟩⟩
        | error e => exact h₅))
  · refine wpAny_bind (wpAny_standAt (wpAny_bind (wpAny_mono (last _ hM) (fun r s₁ h₁ => ?_) fun _ _ h' => h')))
    cases r with
    | none => exact wpAny_pure h₁
    | some v => exact h₁.elim

/-- what the inner source must show -/
def In2 (env : Env) (Q : Value → Shared → Prop) (s₁ : Shared) (C D I : Addr) (h : Heap) (xv2 : Value) (s₂ : Shared) : Prop :=
  ∃ l1 its h₂ tk₂, s₂ = { s₁ with heap := h₂, toks := tk₂ } ∧ KeepL env.locals h h₂ ∧ xv2 = .ref l1 ∧ h₂.IsList l1 its ∧ h.get? l1 = none ∧ its.size ≤ sizeLine ∧
    ∀ h' tk', h'.get? D = some (LCg.lst its.toList) → (∀ b o, b ≠ C → b ≠ D → b ≠ I → h₂.get? b = some o → h'.get? b = some o) → Q (.ref D) { s₁ with heap := h', toks := tk' }
/-- what the outer source must show -/
def Src2 (prog : Program) (w : World) (A : Around) (env : Env) (scope : Scope) (cl : List (PySem.Str × Addr)) (x : PySem.Str) (iter1 : Expr) (Q : Value → Shared → Prop) (xv : Value) (s₁ : Shared) : Prop :=
  ∃ l0 v m, xv = .ref l0 ∧ s₁.heap.IsList l0 #[v] ∧ s₁.heap.Ns env.locals m ∧ l0 ≠ env.locals ∧
    ∀ (C D I : Addr) (oC : Obj) (h : Heap) (tk : Nat) (m₃ : PySem.Str → Option Value) (E' : Value → Shared → Prop), LCg.NsObj oC m₃ → m₃ x = some v → KeepL env.locals s₁.heap h → h.get? C = some oC → s₁.heap.get? C = none → s₁.heap.get? D = none → s₁.heap.get? I = none → (∃ o, h.get? D = some o) → (∃ o, h.get? I = some o) →
      wpAny (model prog w) A (eval iter1 (compEnvC scope cl C env)) (In2 env Q s₁ C D I h) E' { s₁ with heap := h, toks := tk }
theorem comp2_J {env : Env} {iter0 iter1 : Expr} {x y : PySem.Str} {px py pe : Pos} {scope : Scope} {cl : List (PySem.Str × Addr)} {pos : Pos} {Q : Value → Shared → Prop}
    (hclos : closureFor scope env = pure cl) (hcell : ∀ z ∈ scope.names, z.2 ≠ .cell) (hkind : scope.kind = .function)
    (hnames : ∀ z ∈ scope.names, z.2 = .local → scope.names.lookup z.1 = some .local) (hx : scope.names.lookup x = some .local) (hy : scope.names.lookup y = some .local) (hyd : (y == ("__debug__" : PySem.Str)) = false) (hh : A.handled = none)
    (h : wpAny (model prog w) A (eval iter0 env) (Src2 prog w A env scope cl x iter1 Q) E s)
    (hs0 : ∀ x, foldedSetIterable iter0 env x = pure x := by intro _; rfl) (hs1 : ∀ C x, foldedSetIterable iter1 (compEnvC scope cl C env) x = pure x := by intro _ _; rfl) :
    wpAny (model prog w) A (eval (.ListComp (.Name y pe) [⟨.Name x px, iter0, [], 0⟩, ⟨.Name y py, iter1, [], 0⟩] scope pos) env) Q E s := by
  rw [eval_ListComp]
  refine wpAny_comprehension_free (use := none) rfl hs0 hclos hkind hnames (wpAny_mono h (fun xv s₁ h₁ => ?_) fun _ _ e => e)
  obtain ⟨l0, v, m, rfl, hl0, hnL, hl0L, hin⟩ := h₁
  have hlt0 : l0 < s₁.heap.objs.size := by obtain ⟨_, e, _⟩ := hl0; exact Heap.lt_size e
  refine wpAny_pyIter_list hl0 ?_
  generalize hI : s₁.heap.objs.size = I at hlt0 ⊢
  have W := Walks.list (prog := prog) (w := w) (A := A) hh I l0 (Nat.ne_of_lt hlt0) #[v]
  refine wpAny_newObj_type (wpAny_newFunctionEnv hcell (by intro y hy; simp at hy) (fun h₁ hns₁ hsb₁ => ?_) hkind)
  dsimp only at hns₁ hsb₁ ⊢
  generalize hH1 : s₁.heap.push { cls := .type "list_iterator", data := .fields #[.ref l0, .int 0 0] } = H1 at hns₁ hsb₁ ⊢
  generalize hH2 : H1.push { cls := .type "list", dict := none, data := .seq ([] : List Value).toArray } = H2 at hns₁ hsb₁ ⊢
  have hD' : H1.objs.size = I + 1 := by rw [← hH1, Heap.size_push, hI]
  have hC' : H2.objs.size = I + 2 := by rw [← hH2, Heap.size_push, hD']
  generalize hCd : H2.objs.size = C at hns₁ hsb₁ hC' ⊢
  generalize hDd : H1.objs.size = D at hD' ⊢
  have hDC : D ≠ C := by rw [hD', hC']; exact Nat.ne_of_lt (Nat.lt_succ_self _)
  have hID : I ≠ D := by rw [hD']; exact Nat.ne_of_lt (Nat.lt_succ_self _)
  have hIC : I ≠ C := by rw [hC']; exact Nat.ne_of_lt (Nat.lt_succ_of_lt (Nat.lt_succ_self _))
  have none_of : ∀ b : Addr, @LE.le Nat _ I b → s₁.heap.get? b = none := fun b hb => Heap.get?_none_of_le (by rw [hI]; exact hb)
  have gI := none_of I (Nat.le_refl _)
  have gD := none_of D (by rw [hD']; exact Nat.le_succ _)
  have gC := none_of C (by rw [hC']; exact Nat.le_trans (Nat.le_succ _) (Nat.le_succ _))
  have up2 : Ext s₁.heap H2 := fun b o e => hH2 ▸ Heap.get?_push_of_some _ (hH1 ▸ Heap.get?_push_of_some _ e)
  have old : Ext s₁.heap h₁ := fun b o e => hsb₁.extBut b o (fun q => by rw [q, gC] at e; cases e) (Heap.get?_push_of_some _ (up2 b o e))
  have hI1 : H1.get? I = some { cls := .type "list_iterator", data := .fields #[.ref l0, .int 0 0] } := by rw [← hH1, ← hI]; exact Heap.get?_push_size _ rfl
  have hI2 : h₁.get? I = some { cls := .type "list_iterator", data := .fields #[.ref l0, .int 0 0] } := hsb₁.extBut _ _ hIC (Heap.get?_push_of_some _ (hH2 ▸ Heap.get?_push_of_some _ hI1))
  have hacc : h₁.get? D = some (LCg.lst []) := hsb₁.extBut _ _ hDC (by
    have := Heap.get?_push_size H1 (o := { cls := .type "list", dict := none, data := .seq ([] : List Value).toArray }) rfl
    rw [hH2, hDd] at this; exact Heap.get?_push_of_some _ this)
  have hl1 : h₁.IsList l0 #[v] := by obtain ⟨o, e, r⟩ := hl0; exact ⟨o, old _ _ e, r⟩
  obtain ⟨oL, _, _, gL, _⟩ := id hnL
  have LC : env.locals ≠ C := fun q => by rw [q, gC] at gL; cases gL
  have LD : env.locals ≠ D := fun q => by rw [q, gD] at gL; cases gL
  have LI : env.locals ≠ I := fun q => by rw [q, gI] at gL; cases gL
  have st0 : h₁.IsListIter I l0 0 ∧ h₁.IsList l0 #[v] := ⟨⟨_, hI2, rfl, rfl⟩, hl1⟩
  have hl0I : l0 ≠ I := Nat.ne_of_lt hlt0
  have hl0C : l0 ≠ C := fun q => by obtain ⟨_, e, _⟩ := hl0; rw [q, gC] at e; cases e
  have hl0D : l0 ≠ D := fun q => by obtain ⟨_, e, _⟩ := hl0; rw [q, gD] at e; cases e
  let Mid : Shared → Prop := fun s' => ∃ h' tk' ys, s' = { s₁ with heap := h', toks := tk' } ∧ (h'.IsListIter I l0 1 ∧ h'.IsList l0 #[v]) ∧ (∃ m', h'.Ns C m') ∧ h'.get? D = some (LCg.lst ys) ∧
    ∀ h'' tk'', h''.get? D = some (LCg.lst ys) → (∀ b o, b ≠ C → b ≠ D → b ≠ I → h'.get? b = some o → h''.get? b = some o) → Q (.ref D) { s₁ with heap := h'', toks := tk'' }
  have loop : ∀ s₃ : Shared, (∃ tk, s₃ = { s₁ with heap := h₁, toks := tk }) →
      codeAny (model prog w) A (.compLoop (.ListComp (.Name y pe) [⟨.Name x px, iter0, [], 0⟩, ⟨.Name y py, iter1, [], 0⟩] scope pos) 0 (.ref I) (.ref D) (compEnvC scope cl C env)) (compPost (model prog w) A E none Q (.ref D) C) s₃ := by
    rintro _ ⟨tk, rfl⟩
    refine loop0 Mid ?_ ?_ (hs1 C)
    · refine W.item 0 _ _ _ (Nat.zero_lt_one) st0 fun v' h₂ tk₂ hP st1 hk₂ => ?_
      obtain rfl : v = v' := by simpa using hP
      have noI : ∀ {b : Addr}, b ≠ I → b ∉ [I] := fun h q => h (List.mem_singleton.mp q)
      refine wpAny_assign_Name (wpAny_storeName_local (lookup_relabel_local hx) (hns₁.at' fun o e => hk₂ _ o (noI (Ne.symm hIC)) e) (fun h₃ hn₃ hs₃ => ?_) (by simp [compEnvC, relabel, hkind]))
      have ext3 : Ext s₁.heap h₃ := fun b o e => hs₃.extBut b o (fun q => by have q' : b = C := q; rw [q', gC] at e; cases e) (hk₂ b o (noI fun q => by rw [q, gI] at e; cases e) (old b o e))
      obtain ⟨oC, heC', hoC⟩ := LCg.ns_obj hn₃
      have heC : h₃.get? C = some oC := heC'
      have hD3 : h₃.get? D = some (LCg.lst []) := hs₃.extBut _ _ hDC (hk₂ _ _ (noI (Ne.symm hID)) hacc)
      have st3 : h₃.IsListIter I l0 1 ∧ h₃.IsList l0 #[v] := W.frame _ _ _ st1 fun b hb o e => hs₃.extBut b o (fun q => by
        have q' : b = C := q
        rcases List.mem_cons.mp hb with r | hb
        · exact hIC (r.symm.trans q')
        · exact hl0C ((List.mem_singleton.mp hb).symm.trans q')) e
      refine wpAny_mono (hin C D I oC h₃ _ _ _ hoC (by simp) (.of_ext ext3) heC gC gD gI ⟨_, hD3⟩ (by obtain ⟨o, e, _⟩ := st3.1; exact ⟨o, e⟩)) (fun xv2 s₄ h₄ => ?_) fun _ _ e => e
      obtain ⟨l1, its, h4, tk4, rfl, k4, rfl, hl4, fl4, hsz, fin⟩ := h₄
      have hlt4 : l1 < h4.objs.size := by obtain ⟨_, e, _⟩ := hl4; exact Heap.lt_size e
      refine wpAny_pyIter_list hl4 ?_
      have l1C : l1 ≠ C := fun q => by rw [q, heC] at fl4; cases fl4
      have l1D : l1 ≠ D := fun q => by rw [q, hD3] at fl4; cases fl4
      have kC := k4.1 _ _ (by simp) (Ne.symm LC) heC
      have kD := k4.1 _ _ (by simp) (Ne.symm LD) hD3
      have st4 : h4.IsListIter I l0 1 ∧ h4.IsList l0 #[v] := W.frame _ _ _ st3 fun b hb o e => k4.1 b o (by simp) (fun q => by
        rcases List.mem_cons.mp hb with r | hb
        · exact LI (q.symm.trans r)
        · exact hl0L ((List.mem_singleton.mp hb).symm.trans q)) e
      dsimp only
      generalize hI1 : h4.objs.size = J at hlt4 ⊢
      have W1 := Walks.list (prog := prog) (w := w) (A := A.mark none) hh J l1 (Nat.ne_of_lt hlt4) its
      have JC : J ≠ C := fun q => by have := Heap.lt_size kC; rw [hI1, q] at this; exact Nat.lt_irrefl _ this
      have JD : J ≠ D := fun q => by have := Heap.lt_size kD; rw [hI1, q] at this; exact Nat.lt_irrefl _ this
      have JI : J ≠ I := fun q => by obtain ⟨_, e, _⟩ := st4.1; have := Heap.lt_size e; rw [hI1, q] at this; exact Nat.lt_irrefl _ this
      have Jl : J ≠ l0 := fun q => by obtain ⟨_, e, _⟩ := st4.2; have := Heap.lt_size e; rw [hI1, q] at this; exact Nat.lt_irrefl _ this
      have noJ : ∀ {b : Addr}, b ≠ J → b ∉ [J] := fun h q => h (List.mem_singleton.mp q)
      have gJ : h4.get? J = none := by rw [← hI1]; exact Heap.get?_none_of_le (Nat.le_refl _)
      have inner : ∀ s₅ : Shared, (∃ tk, s₅ = { s₁ with heap := h4.push { cls := .type "list_iterator", data := .fields #[.ref l1, .int 0 0] }, toks := tk }) →
          codeAny (model prog w) (A.mark none) (.compLoop (.ListComp (.Name y pe) [⟨.Name x px, iter0, [], 0⟩, ⟨.Name y py, iter1, [], 0⟩] scope pos) 1 (.ref J) (.ref D) (compEnvC scope cl C env))
            (fun r s' => match r with | .ok _ => Mid s' | .error e => cameBackBy (model prog w) A (compEnvC scope cl C env) (notedBy (model prog w) A (compEnvC scope cl C env) fun e s' => compPost (model prog w) A E none Q (.ref D) C (.error e) s') e s') s₅ := by
        rintro _ ⟨tk5, rfl⟩
        refine loop1 (fun k s' => ∃ i h' tk', k = its.size + 1 - i ∧ i ≤ its.size ∧ s' = { s₁ with heap := h', toks := tk' } ∧ (h'.IsListIter J l1 i ∧ h'.IsList l1 its) ∧ (∃ m', h'.Ns C m') ∧ h'.get? D = some (LCg.lst (its.toList.take i)) ∧
            ∀ b o, b ≠ C → b ≠ D → b ≠ J → h4.get? b = some o → h'.get? b = some o) ?_ (its.size + 1) ⟨0, _, _, rfl, Nat.zero_le _, rfl, ⟨⟨_, by rw [← hI1]; exact Heap.get?_push_size _ rfl, rfl, rfl⟩, hl4.push _⟩, ⟨_, (LCg.NsObj.ns hoC kC).keeps fun b o e => Heap.get?_push_of_some _ e⟩, Heap.get?_push_of_some _ kD, fun b o _ _ _ e => Heap.get?_push_of_some _ e⟩
        rintro k _ ⟨i, h', tk', rfl, hi, rfl, sti, ⟨m', hC'⟩, hDi, keep⟩
        by_cases hlt : i < its.size
        · refine W1.item i _ _ _ hlt sti fun u h₆ tk₆ hu st₆ hk₆ => ?_
          refine wpAny_assign_Name (wpAny_storeName_local (lookup_relabel_local hy) (hC'.at' fun o e => hk₆ _ o (noJ (Ne.symm JC)) e) (fun h₇ hn₇ hs₇ => ?_) (by simp [compEnvC, relabel, hkind]))
          refine wpAny_Name (wpAny_loadName_local (by simp [compEnvC, relabel, hkind]) (lookup_relabel_local hy) hn₇ (v := u) (by simp) ?_) hyd
          have hD7 : h₇.get? D = some (LCg.lst (its.toList.take i)) := hs₇.extBut _ _ hDC (hk₆ _ _ (noJ (Ne.symm JD)) hDi)
          refine append_at (hsz := by rw [List.size_toArray, List.length_take]; exact Nat.le_trans (Nat.min_le_right _ _) (by simpa using hsz)) hD7 fun h₈ hs₈ hD₈ => ?_
          have tk1 : its.toList.take (i + 1) = its.toList.take i ++ [u] := by
            rw [List.take_add_one]
            have hu' : its.toList[i]? = some u := by simpa using hu
            rw [hu']; rfl
          refine ⟨its.size + 1 - (i + 1), by omega, i + 1, h₈, _, rfl, hlt, rfl, ?_, ⟨_, hn₇.sameBut hs₈ (Ne.symm hDC)⟩, ?_, ?_⟩
          · refine W1.frame _ _ _ st₆ fun b hb o e => hs₈.extBut b o (fun q => ?_) (hs₇.extBut b o (fun q => ?_) e)
            · have q' : b = D := q
              rcases List.mem_cons.mp hb with r | hb
              · exact JD (r.symm.trans q')
              · exact l1D ((List.mem_singleton.mp hb).symm.trans q')
            · have q' : b = C := q
              rcases List.mem_cons.mp hb with r | hb
              · exact JC (r.symm.trans q')
              · exact l1C ((List.mem_singleton.mp hb).symm.trans q')
          · rw [tk1]; exact hD₈.trans (congrArg some (LCg.lst_snoc _ u))
          · exact fun b o b1 b2 b3 e => hs₈.extBut b o b2 (hs₇.extBut b o b1 (hk₆ b o (noJ b3) (keep b o b1 b2 b3 e)))
        · have hie : i = its.size := by omega
          subst hie
          refine W1.done _ _ _ sti fun h₆ tk₆ hk₆ => ?_
          have hDe : h₆.get? D = some (LCg.lst its.toList) := by
            have := hk₆ _ _ (noJ (Ne.symm JD)) hDi
            rwa [List.take_of_length_le (by simp)] at this
          have keep6 : ∀ b o, b ≠ C → b ≠ D → h4.get? b = some o → h₆.get? b = some o := fun b o b1 b2 e => by
            have b3 : b ≠ J := fun q => by rw [q, gJ] at e; cases e
            exact hk₆ b o (noJ b3) (keep b o b1 b2 b3 e)
          refine ⟨h₆, _, its.toList, rfl, W.frame _ _ _ st4 fun b hb o e => ?_, ⟨m', hC'.at' fun o e => hk₆ _ o (noJ (Ne.symm JC)) e⟩, hDe, fun h'' tk'' hD'' k'' => fin h'' tk'' hD'' fun b o b1 b2 b3 e => k'' b o b1 b2 b3 (keep6 b o b1 b2 e)⟩
          rcases List.mem_cons.mp hb with r | hb
          · exact keep6 b o (fun q => hIC (r.symm.trans q)) (fun q => hID (r.symm.trans q)) e
          · have r := List.mem_singleton.mp hb
            exact keep6 b o (fun q => hl0C (r.symm.trans q)) (fun q => hl0D (r.symm.trans q)) e
      exact start1 (inner _ ⟨_, rfl⟩) (W1.self 0 _ _ _ ⟨⟨_, by rw [← hI1]; exact Heap.get?_push_size _ rfl, rfl, rfl⟩, hl4.push _⟩ (inner _ ⟨_, rfl⟩))
    · rintro _ ⟨h', tk', ys, rfl, st, ⟨m', hC'⟩, hDy, fin⟩
      refine W.done _ _ _ st fun h₂ tk₂ hk₂ => ?_
      have noI : ∀ {b : Addr}, b ≠ I → b ∉ [I] := fun h q => h (List.mem_singleton.mp q)
      exact ⟨m', hC'.at' fun o e => hk₂ _ o (noI (Ne.symm hIC)) e, fun h'' hs'' => fin h'' tk₂ (hs''.extBut _ _ hDC (hk₂ _ _ (noI (Ne.symm hID)) hDy)) fun b o b1 b2 b3 e => hs''.extBut b o b1 (hk₂ b o (noI b3) e)⟩
  exact codeAny_compStart_list (loop _ ⟨_, rfl⟩) (W.self 0 _ _ _ st0 (loop _ ⟨_, rfl⟩))
end
end Mine
end
section
open PySem
set_option maxRecDepth 100000
namespace Mine
/-- a run has one end -/
theorem runs_det {M : Model} {Γ : Ctx} {p : Pos} {t : Sem Fin} {fs : List Frame} {s s₁ : Shared} {e : End}
    (h : Runs M Γ p t fs s e s₁) : ∀ {e₂ s₂}, Runs M Γ p t fs s e₂ s₂ → e = e₂ ∧ s₁ = s₂ := by
  induction h with
  | segRet a b iha ihb =>
    intro e₂ s₂ k
    cases k with
    | segRet a' b' =>
      obtain ⟨x, rfl⟩ := iha a'
      cases x
      exact ihb b'
    | segSuspOut _ a' => exact absurd (iha a').1 (by simp)
    | segSuspGen _ a' => exact absurd (iha a').1 (by simp)
  | segGen a b iha ihb =>
    intro e₂ s₂ k
    cases k with
    | segGen a' b' =>
      obtain ⟨x, rfl⟩ := iha a'
      cases x
      exact ihb b'
    | segSuspOut _ a' => exact absurd (iha a').1 (by simp)
    | segSuspGen _ a' => exact absurd (iha a').1 (by simp)
  | segSuspOut n a iha =>
    intro e₂ s₂ k
    cases k with
    | segRet a' b' => exact absurd (iha a').1 (by simp)
    | segGen a' b' => exact absurd (iha a').1 (by simp)
    | segSuspOut _ a' =>
      obtain ⟨x, rfl⟩ := iha a'
      cases x
      exact ⟨rfl, rfl⟩
    | segSuspGen n' _ _ _ => rw [n] at n'; cases n'
  | segSuspGen n a q b iha ihb =>
    intro e₂ s₂ k
    cases k with
    | segRet a' b' => exact absurd (iha a').1 (by simp)
    | segGen a' b' => exact absurd (iha a').1 (by simp)
    | segSuspOut n' a' => rw [n] at n'; cases n'
    | segSuspGen n' a' q' b' =>
      rw [n] at n'
      cases n'
      obtain ⟨x, rfl⟩ := iha a'
      cases x
      exact ihb b'
  | call a b iha ihb =>
    intro e₂ s₂ k
    cases k with
    | call a' b' =>
      obtain ⟨x, rfl⟩ := iha a'
      cases x
      exact ihb b'
    | callSusp a' => exact absurd (iha a').1 (by simp)
  | callSusp a iha =>
    intro e₂ s₂ k
    cases k with
    | call a' b' => exact absurd (iha a').1 (by simp)
    | callSusp a' =>
      obtain ⟨x, rfl⟩ := iha a'
      cases x
      exact ⟨rfl, rfl⟩
  | resumeFresh g a q b iha ihb =>
    intro e₂ s₂ k
    cases k with
    | resumeFresh g' a' q' b' =>
      rw [g] at g'; cases g'
      obtain ⟨rfl, rfl⟩ := iha a'
      exact ihb b'
    | resumeSuspended g' _ _ _ => rw [g] at g'; cases g'
    | resumeJustStarted _ n' _ => exact absurd rfl n'
    | resumeRunning g' _ => rw [g] at g'; cases g'
    | resumeFinished g' _ => rw [g] at g'; cases g'
  | resumeSuspended g a q b iha ihb =>
    intro e₂ s₂ k
    cases k with
    | resumeFresh g' _ _ _ => rw [g] at g'; cases g'
    | resumeSuspended g' a' q' b' =>
      rw [g] at g'; cases g'
      obtain ⟨rfl, rfl⟩ := iha a'
      exact ihb b'
    | resumeJustStarted g' _ _ => rw [g] at g'; cases g'
    | resumeThrowFresh g' _ => rw [g] at g'; cases g'
    | resumeRunning g' _ => rw [g] at g'; cases g'
    | resumeFinished g' _ => rw [g] at g'; cases g'
  | load g a iha =>
    intro e₂ s₂ k
    cases k with
    | load g' a' =>
      rw [g] at g'
      cases g'
      exact iha a'
  | genState g a iha =>
    intro e₂ s₂ k
    cases k with
    | genState g' a' =>
      rw [g] at g'
      cases g'
      exact iha a'
  | done => intro e₂ s₂ k; cases k; exact ⟨rfl, rfl⟩
  | raise => intro e₂ s₂ k; cases k; exact ⟨rfl, rfl⟩
  | yield => intro e₂ s₂ k; cases k; exact ⟨rfl, rfl⟩
  | again q a iha => intro e₂ s₂ k; cases k with | again _ a' => exact iha a'
  | update q a iha => intro e₂ s₂ k; cases k with | update _ a' => exact iha a'
  | choose q a iha => intro e₂ s₂ k; cases k with | choose _ a' => exact iha a'
  | resumeJustStarted g n a iha =>
    intro e₂ s₂ k
    cases k with
    | resumeFresh _ _ _ _ => exact absurd rfl n
    | resumeSuspended g' _ _ _ => rw [g] at g'; cases g'
    | resumeJustStarted _ _ a' => exact iha a'
    | resumeRunning g' _ => rw [g] at g'; cases g'
    | resumeFinished g' _ => rw [g] at g'; cases g'
  | resumeThrowFresh g a iha =>
    intro e₂ s₂ k
    cases k with
    | resumeSuspended g' _ _ _ => rw [g] at g'; cases g'
    | resumeThrowFresh _ a' => exact iha a'
    | resumeRunning g' _ => rw [g] at g'; cases g'
    | resumeFinished g' _ => rw [g] at g'; cases g'
  | resumeRunning g a iha =>
    intro e₂ s₂ k
    cases k with
    | resumeFresh g' _ _ _ => rw [g] at g'; cases g'
    | resumeSuspended g' _ _ _ => rw [g] at g'; cases g'
    | resumeJustStarted g' _ _ => rw [g] at g'; cases g'
    | resumeThrowFresh g' _ => rw [g] at g'; cases g'
    | resumeRunning _ a' => exact iha a'
    | resumeFinished g' _ => rw [g] at g'; cases g'
  | resumeFinished g a iha =>
    intro e₂ s₂ k
    cases k with
    | resumeFresh g' _ _ _ => rw [g] at g'; cases g'
    | resumeSuspended g' _ _ _ => rw [g] at g'; cases g'
    | resumeJustStarted g' _ _ => rw [g] at g'; cases g'
    | resumeThrowFresh g' _ => rw [g] at g'; cases g'
    | resumeFinished _ a' => exact iha a'
    | resumeRunning g' _ => rw [g] at g'; cases g'
  | rule a iha => intro e₂ s₂ k; cases k with | rule a' => exact iha a'
  | «at» a iha => intro e₂ s₂ k; cases k with | «at» a' => exact iha a'
  | loadIfAlive a iha => intro e₂ s₂ k; cases k with | loadIfAlive a' => exact iha a'
  | point a iha => intro e₂ s₂ k; cases k with | point a' => exact iha a'
  | alloc a iha => intro e₂ s₂ k; cases k with | alloc a' => exact iha a'
  | fresh a iha => intro e₂ s₂ k; cases k with | fresh a' => exact iha a'
  | ask a iha => intro e₂ s₂ k; cases k with | ask a' => exact iha a'
  | os a iha => intro e₂ s₂ k; cases k with | os a' => exact iha a'
  | handled a iha => intro e₂ s₂ k; cases k with | handled a' => exact iha a'
  | stack a iha => intro e₂ s₂ k; cases k with | stack a' => exact iha a'
  | thread a iha => intro e₂ s₂ k; cases k with | thread a' => exact iha a'
  | newGen a iha => intro e₂ s₂ k; cases k with | newGen a' => exact iha a'
theorem wakes_det {M : Model} {Γ : Ctx} {p : Pos} {g : Nat} {r : Resume} {s s₁ s₂ : Shared} {x y : GenResult} (h : Wakes M Γ p g r s x s₁) (k : Wakes M Γ p g r s y s₂) : x = y ∧ s₁ = s₂ := by
  unfold Wakes at h k
  split at h
  · exact h.elim
  · rename_i c hg
    simp only [hg] at k
    split at h
    · obtain ⟨e₁, t₁, a, _, rfl, rfl⟩ := h
      obtain ⟨e₂, t₂, b, _, rfl, rfl⟩ := k
      obtain ⟨rfl, rfl⟩ := runs_det a b
      exact ⟨rfl, rfl⟩
    · split at k
      · exact (by simp_all : False).elim
      · exact ⟨h.1.trans k.1.symm, h.2.trans k.2.symm⟩
      · exact ⟨h.1.trans (by first | exact k.1.symm | simp_all), h.2.trans (by first | exact k.2.symm | simp_all)⟩
    · exact ⟨h.1.trans k.1.symm, h.2.trans k.2.symm⟩
  · rename_i hg
    simp only [hg] at k
    obtain ⟨e₁, t₁, a, _, rfl, rfl⟩ := h
    obtain ⟨e₂, t₂, b, _, rfl, rfl⟩ := k
    obtain ⟨rfl, rfl⟩ := runs_det a b
    exact ⟨rfl, rfl⟩
  · rename_i hg
    simp only [hg] at k
    exact ⟨h.1.trans k.1.symm, h.2.trans k.2.symm⟩
  · rename_i hg
    simp only [hg] at k
    exact ⟨h.1.trans k.1.symm, h.2.trans k.2.symm⟩

section
open Sem
variable {ι α : Type} [Inhabited ι] {M : Model}
theorem wpCode_all {Γ : Ctx} {p : Pos} {s : Shared} {R : ι → Result → Shared → Prop} (h : ∀ i, wpCode M Γ (R i) p s) : wpCode M Γ (fun r s' => ∀ i, R i r s') p s := by
  obtain ⟨r, s', a, _⟩ := h default
  refine ⟨r, s', a, fun i => ?_⟩
  obtain ⟨r', s'', b, c⟩ := h i
  obtain ⟨x, rfl⟩ := runs_det a b
  cases x
  exact c
theorem wp_all : ∀ (t : Sem α) {Γ : Ctx} {p : Pos} {s : Shared} {Q : ι → α → Pos → Shared → Prop} {E : Value → Pos → Shared → Prop}, (∀ i, wp M Γ t (Q i) E p s) → wp M Γ t (fun a p s => ∀ i, Q i a p s) E p s
  | .pure a, _, _, _, _, _, h => h
  | .raise e, _, _, _, _, _, h => h default
  | .unsupported _, _, _, _, _, _, h => h default
  | .finish _, _, _, _, _, _, h => h default
  | .rule _ k, _, _, _, _, _, h => wp_all (k ()) h
  | .at _ k, _, _, _, _, _, h => wp_all (k ()) h
  | .load a _ k, _, _, _, _, _, h => by
    obtain ⟨o, e, _⟩ := h default
    refine ⟨o, e, wp_all (k o) fun i => ?_⟩
    obtain ⟨o', e', z⟩ := h i
    rw [e] at e'; cases e'
    exact z
  | .update _ _ _ k, _, _, _, _, _, h => ⟨(h default).1, wp_all (k ()) fun i => (h i).2⟩
  | .loadIfAlive _ k, _, _, _, _, _, h => wp_all (k _) h
  | .point _ k, _, _, _, _, _, h => wp_all (k ()) h
  | .register _ _, _, _, _, _, _, h => h default
  | .alloc _ k, _, _, _, _, _, h => wp_all (k _) h
  | .fresh k, _, _, _, _, _, h => wp_all (k _) h
  | .ask k, _, _, _, _, _, h => wp_all (k _) h
  | .choose _ _ k, _, _, _, _, _, h => ⟨(h default).1, wp_all (k _) fun i => (h i).2⟩
  | .os _ _ k, _, _, _, _, _, h => wp_all (k _) h
  | .call c hd g l k, Γ, p, s, Q, E, h => by
    obtain ⟨r, s', a, b⟩ := wpCode_all (R := fun i r s' => wp M Γ (k r) (Q i) E p s') h
    exact ⟨r, s', a, wp_all (k r) b⟩
  | .handled _ k, _, _, _, _, _, h => wp_all (k _) h
  | .genState _ k, _, _, _, _, _, h => by
    obtain ⟨o, e, _⟩ := h default
    refine ⟨o, e, wp_all (k _) fun i => ?_⟩
    obtain ⟨o', e', z⟩ := h i
    rw [e] at e'; cases e'
    exact z
  | .newGen _ k, _, _, _, _, _, h => wp_all (k _) h
  | .resume g r l k, _, _, _, _, _, h => by
    obtain ⟨x, s', a, _⟩ := h default
    refine ⟨x, s', a, wp_all (k x) fun i => ?_⟩
    obtain ⟨y, s'', b, z⟩ := h i
    obtain ⟨rfl, rfl⟩ := wakes_det a b
    exact z
  | .yield .., _, _, _, _, _, h => h default
  | .stack k, _, _, _, _, _, h => wp_all (k _) h
  | .fork .., _, _, _, _, _, h => h default
  | .thread k, _, _, _, _, _, h => wp_all (k _) h
  | .await .., _, _, _, _, _, h => h default
/-- what holds behind a run under each of many readings holds under all at once -/
theorem wpAny_all {A : Around} {t : Sem α} {Q : ι → α → Shared → Prop} {E : Value → Shared → Prop} {s : Shared} (h : ∀ i, wpAny M A t (Q i) E s) : wpAny M A t (fun a s' => ∀ i, Q i a s') E s :=
  fun Γ p hΓ => wp_all t fun i => h i Γ p hΓ
end
end Mine
end
section
open PySem PySem.W PySem.Spec PySem.Calls PyProof.Rows
set_option maxRecDepth 100000
namespace Mine
noncomputable abbrev P0 : Program := PySem.Challenge.rw_ae5015_01.row.prog
noncomputable abbrev looseN : List PySem.Str := looseW Mine.hd.view_39 [Str.ofString "_twin_re_1", Str.ofString "NOT_SET", Str.ofString "LIST_KEY", Str.ofString "DatumInContext", Str.ofString "Fields", Str.ofString "Slice", Str.ofString "OPERATOR_MAP", Str.ofString "_query_to_str"]
noncomputable abbrev TopN (mean : ExcName → Option Value) (mg mb : PySem.Str → Option Value) (h : Heap) : Prop := Top Mine.hd.view_39 looseN mean mg mb h
def fillme (_ : OpenLaw) (_ : Params → Frag) : Prop := True

/-- where a call stands: the caller's frame and the room -/
structure Cx (w : World) (mean : ExcName → Option Value) (mg mb : PySem.Str → Option Value) (dp un D U : Nat) (cs : Scope) (A₀ : Around) (base h₀ : Heap) (outer : List Env) (L : Addr) (m : PySem.Str → Option Value) (h : Heap) : Prop where
  B : Below A₀ base outer h₀
  F : Fr h₀ L h m
  X : (Mine.hd.heap_39 w.params).In h₀
  T : TopN mean mg mb h₀
  hk : cs.kind = .function
  hd : dp + D < recursionLimit
  hu : un + U < cLine

abbrev DatumObj (v p c : Value) (h1 h2 h3 : Int) (t1 t2 t3 : Tok) : Obj := dictOf [⟨h1, .str "_value" t1, v⟩, ⟨h2, .str "path" t2, p⟩, ⟨h3, .str "context" t3, c⟩] 3

theorem gone_of {s g : Heap} {adr : List Addr} {l : Addr} (G : GSub s g adr) (hg : g.get? l = none) (hl : l ∉ adr) : s.get? l = none := by
  cases e : s.get? l with
  | none => rfl
  | some o => rw [G l o e hl] at hg; cases hg
theorem not_adr {l : Addr} : ∀ {news : List (Addr × Obj)}, (∀ p ∈ news, p.1 ≠ l) → l ∉ news.map (·.1) := fun h hm => by
  obtain ⟨p, hp, e⟩ := List.mem_map.mp hm
  exact h p hp e
def AllNe (d : Addr) : List (Addr × Obj) → Prop
  | [] => True
  | p :: r => @Ne Nat p.1 d ∧ AllNe d r
theorem allNe_of {d : Addr} : ∀ {l : List (Addr × Obj)}, (∀ p ∈ l, p.1 ≠ d) → AllNe d l
  | [], _ => trivial
  | p :: _, h => ⟨h p (.head _), allNe_of fun q hq => h q (.tail _ hq)⟩
section
variable {h₀ h h' : Heap} {L l : Addr} {m : PySem.Str → Option Value} {news : List (Addr × Obj)} {o : Obj}
theorem ne_new (N : News h₀ L h news) (hl : h.get? l = none) : AllNe l news := allNe_of fun p hp e => by
  have := (N p hp).1; rw [e, hl] at this; cases this
theorem news_add (F : Fr h₀ L h m) (N : News h₀ L h news) (k : Ext h h') (hl : h.get? l = none) (ho : h'.get? l = some o) : News h₀ L h' ((l, o) :: news) := by
  intro p hp
  rcases List.mem_cons.mp hp with rfl | hp
  · refine ⟨ho, ?_, ?_⟩
    · rintro rfl
      obtain ⟨oL, _, _, hL, _⟩ := F.ns
      rw [hl] at hL; cases hL
    · cases e : h₀.get? l with
      | none => rfl
      | some x => have := F.keep _ _ e; rw [hl] at this; cases this
  · exact ⟨k _ _ (N p hp).1, (N p hp).2⟩
end
end Mine
namespace Mine
theorem ext_of {s g h' h₀ : Heap} {L L' : Addr} {m' : PySem.Str → Option Value} {need news' : List (Addr × Obj)} (N : News h₀ L s need) (G : GSub s g (need.map (·.1))) (F' : Fr g L' h' m') (N' : News g L' h' news') (hs : ∀ p ∈ need, p ∈ news') : Ext s h' :=
  elt_after (InElt.start s) G N F' N' hs
theorem gone' {s g h' : Heap} {L' l : Addr} {o : Obj} {need news' : List (Addr × Obj)} (G : GSub s g (need.map (·.1))) (N' : News g L' h' news') (hm : (l, o) ∈ news') (hne : ∀ p ∈ need, p.1 ≠ l) : s.get? l = none :=
  gone_of G (N' _ hm).2.2 (not_adr hne)
end Mine

namespace Mine
section
variable {prog : Program} {w : World} {A : Around} {E : Value → Shared → Prop} {s : Shared}
theorem two_lt (a b : Value) : Builtin._operator.two "lt" ⟨[a, b], []⟩ = pure (a, b) := by kernel_rfl
theorem args_oplt (a b : Value) : argsOk "_operator.lt" ⟨[a, b], []⟩ := by unfold argsOk; kernel_rfl
theorem entry_oplt : entryFor table "_operator.lt" = some Builtin.«_operator.lt» := entryFor_of_tree (by kernel_rfl)
theorem op_lt {a b : Value} {Q : Value → Shared → Prop} (h : wpAny (model prog w) A.in1 (compareOp .Lt a b) Q E s) : wpAny (model prog w) A (call (.builtin "_operator.lt") [a, b]) Q E s := by
  refine Calls.call_function_entry (by decide +kernel) (by decide +kernel) entry_oplt (args_oplt a b) ?_
  unfold Builtin.«_operator.lt»
  dsimp only
  rw [two_lt]
  exact wpAny_bind (wpAny_pure (wpAny_bind (wpAny_mono h (fun v s' q => wpAny_pure ⟨v, rfl, q⟩) fun _ _ q => q)))
end
theorem lt_get {d a : Addr} {o : Obj} {l : List (Addr × Obj)} (h : ∀ p ∈ l, p.1 < d) (m : (a, o) ∈ l) : d ≠ a := Nat.ne_of_gt (h _ m)
theorem lt_get' {d a : Addr} {o : Obj} {l : List (Addr × Obj)} (h : ∀ p ∈ l, p.1 < d) (m : (a, o) ∈ l) : a ≠ d := Nat.ne_of_lt (h _ m)
theorem older_ne {d : Addr} {l l₀ : List (Addr × Obj)} (h : ∀ p ∈ l₀, p.1 < d) (e : l.map (·.1) = l₀.map (·.1)) : ∀ p ∈ l, p.1 ≠ d := by
  intro p hp
  have : p.1 ∈ l₀.map (·.1) := e ▸ List.mem_map_of_mem hp
  obtain ⟨q, hq, eq⟩ := List.mem_map.mp this
  exact eq ▸ Nat.ne_of_lt (h q hq)
theorem ne_older {d : Addr} {l l₀ : List (Addr × Obj)} (h : ∀ p ∈ l₀, p.1 < d) (e : l.map (·.1) = l₀.map (·.1)) : ∀ p ∈ l, d ≠ p.1 :=
  fun p hp => (older_ne h e p hp).symm
end Mine
end
section
open PySem PySem.W PySem.Spec PySem.Calls PyProof.Rows
set_option maxRecDepth 100000
namespace Mine
/-- y is a datum of the value v, at or above B, off X -/
def DatB (B : Nat) (X : List Addr) (h : Heap) (y v : Value) : Prop :=
  ∃ r dd p c h1 h2 h3 t1 t2 t3, y = .ref r ∧ @LE.le Nat _ B r ∧ @LE.le Nat _ B dd ∧ r ∉ X ∧ dd ∉ X ∧ h.get? r = some (instObj 209 dd) ∧ h.get? dd = some (DatumObj v p c h1 h2 h3 t1 t2 t3)
theorem DatB.ext {B : Nat} {X : List Addr} {h h' : Heap} {y v : Value} (d : DatB B X h y v) (k : ExtO X h h') : DatB B X h' y v := by
  obtain ⟨r, dd, p, c, h1, h2, h3, t1, t2, t3, e, b1, b2, x1, x2, g1, g2⟩ := d
  exact ⟨r, dd, p, c, h1, h2, h3, t1, t2, t3, e, b1, b2, x1, x2, k _ _ x1 g1, k _ _ x2 g2⟩
theorem off_of {C r : Addr} {X : List Addr} (lX : ∀ b ∈ X, @LE.le Nat _ b C) (hr : @LT.lt Nat _ C r) : r ∉ X := fun hm => absurd (Nat.lt_of_lt_of_le hr (lX r hm)) (Nat.lt_irrefl _)
theorem DatB.mk {B : Nat} {C : Addr} {X : List Addr} {h : Heap} {v p c : Value} {r dd : Addr} {h1 h2 h3 : Int} {t1 t2 t3 : Tok} (lC : @LE.le Nat _ B C) (lX : ∀ b ∈ X, @LE.le Nat _ b C)
    (hr : @LT.lt Nat _ C r) (hd : @LT.lt Nat _ C dd) (g1 : h.get? r = some (instObj 209 dd)) (g2 : h.get? dd = some (DatumObj v p c h1 h2 h3 t1 t2 t3)) : DatB B X h (.ref r) v :=
  ⟨r, dd, p, c, h1, h2, h3, t1, t2, t3, rfl, Nat.le_trans lC (Nat.le_of_lt hr), Nat.le_trans lC (Nat.le_of_lt hd), off_of lX hr, off_of lX hd, g1, g2⟩
/-- y is a datum of the value v above C -/
def DatC (C : Addr) (h : Heap) (y v : Value) : Prop :=
  ∃ r dd p c h1 h2 h3 t1 t2 t3, y = .ref r ∧ @LT.lt Nat _ C r ∧ @LT.lt Nat _ C dd ∧ h.get? r = some (instObj 209 dd) ∧ h.get? dd = some (DatumObj v p c h1 h2 h3 t1 t2 t3)
theorem DatC.mk {C : Addr} {h : Heap} {v p c : Value} {r dd : Addr} {h1 h2 h3 : Int} {t1 t2 t3 : Tok} (hr : @LT.lt Nat _ C r) (hd : @LT.lt Nat _ C dd) (g1 : h.get? r = some (instObj 209 dd)) (g2 : h.get? dd = some (DatumObj v p c h1 h2 h3 t1 t2 t3)) : DatC C h (.ref r) v :=
  ⟨r, dd, p, c, h1, h2, h3, t1, t2, t3, rfl, hr, hd, g1, g2⟩
theorem DatC.toB {B : Nat} {C : Addr} {X : List Addr} {h : Heap} {y v : Value} (d : DatC C h y v) (lC : @LE.le Nat _ B C) (lX : ∀ b ∈ X, @LE.le Nat _ b C) : DatB B X h y v := by
  obtain ⟨r, dd, p, c, h1, h2, h3, t1, t2, t3, rfl, hr, hd, g1, g2⟩ := d
  exact DatB.mk lC lX hr hd g1 g2
theorem lt_news {h₀ h : Heap} {L : Addr} {news : List (Addr × Obj)} {r : Nat} (N : News h₀ L h news) (hr : h.objs.size ≤ r) : AllLt r news := allLt_of fun p hp => Nat.lt_of_lt_of_le (Heap.lt_size (N p hp).1) hr
theorem live_of {h₀ h : Heap} {L : Addr} {m : PySem.Str → Option Value} (F : Fr h₀ L h m) : Live [L] h := fun b hb => by
  rw [List.mem_singleton.mp hb]
  obtain ⟨o, _, _, e, _⟩ := F.ns
  exact ⟨o, e⟩
theorem News.ne_L {h₀ h : Heap} {L a : Addr} {o : Obj} {news : List (Addr × Obj)} (N : News h₀ L h news) (hm : (a, o) ∈ news) : a ≠ L := (N _ hm).2.1
theorem none_of_ext {a b : Heap} (k : Ext a b) {r : Addr} (e : b.get? r = none) : a.get? r = none := by
  cases q : a.get? r with
  | none => rfl
  | some o => have := k _ _ q; rw [e] at this; cases this
/-- y is a datum of the value v that the heap base did not hold -/
def DatN (base h : Heap) (y v : Value) : Prop :=
  ∃ r dd p c h1 h2 h3 t1 t2 t3, y = .ref r ∧ base.get? r = none ∧ base.get? dd = none ∧ h.get? r = some (instObj 209 dd) ∧ h.get? dd = some (DatumObj v p c h1 h2 h3 t1 t2 t3)
theorem DatB.toN {base h₁ h : Heap} {X : List Addr} {y v : Value} (k : Ext base h₁) (d : DatB h₁.objs.size X h y v) : DatN base h y v := by
  obtain ⟨r, dd, p, c, h1, h2, h3, t1, t2, t3, e, b1, b2, x1, x2, g1, g2⟩ := d
  exact ⟨r, dd, p, c, h1, h2, h3, t1, t2, t3, e, none_of_ext k (Heap.get?_none_of_le b1), none_of_ext k (Heap.get?_none_of_le b2), g1, g2⟩
theorem DatN.ext {base h h' : Heap} {y v : Value} (k : Ext h h') (d : DatN base h y v) : DatN base h' y v := by
  obtain ⟨r, dd, p, c, h1, h2, h3, t1, t2, t3, e, b1, b2, g1, g2⟩ := d
  exact ⟨r, dd, p, c, h1, h2, h3, t1, t2, t3, e, b1, b2, k _ _ g1, k _ _ g2⟩
/-- what a walk leaves: the state, the frame, one object b of old, and P -/
def Res {α : Type} (s : Shared) (h₀ : Heap) (L : Addr) (m : PySem.Str → Option Value) (b : Addr) (ob : Obj) (P : α → Heap → Prop) (v : α) (s' : Shared) : Prop :=
  ∃ h' tk', s' = { s with heap := h', toks := tk' } ∧ Fr h₀ L h' m ∧ h'.get? b = some ob ∧ P v h'
theorem Res.intro {α : Type} {s : Shared} {h₀ : Heap} {L : Addr} {m : PySem.Str → Option Value} {b : Addr} {ob : Obj} {P : α → Heap → Prop} {v : α} {h' : Heap} {tk' : Nat} (F : Fr h₀ L h' m) (e : h'.get? b = some ob) (p : P v h') :
    Res s h₀ L m b ob P v { s with heap := h', toks := tk' } := ⟨h', tk', rfl, F, e, p⟩
/-- one walk with one more object of the ledger tells of all objects -/
theorem keep_all {α : Type} {M : Model} {A : Around} {t : Sem α} {s : Shared} {h₀ : Heap} {L : Addr} {m : PySem.Str → Option Value} {need : List (Addr × Obj)} {P : Addr → α → Heap → Prop} {E : Value → Shared → Prop}
    (F : Fr h₀ L s.heap m) (N : News h₀ L s.heap need) {f : Addr} {of : Obj} (hf : (f, of) ∈ need)
    (walk : ∀ b ob, News h₀ L s.heap ((b, ob) :: need) → wpAny M A t (Res s h₀ L m b ob (P b)) E s) :
    wpAny M A t (fun v s' => ∃ h' tk', s' = { s with heap := h', toks := tk' } ∧ KeepL L s.heap h' ∧ ∀ b o, s.heap.get? b = some o → b ≠ L → h₀.get? b = none → P b v h') E s := by
  let ι := { q : Addr × Obj // s.heap.get? q.1 = some q.2 ∧ q.1 ≠ L ∧ h₀.get? q.1 = none }
  letI : Inhabited ι := ⟨⟨(f, of), N _ hf⟩⟩
  refine wpAny_mono (wpAny_all (ι := ι) (Q := fun q v s' => Res s h₀ L m q.1.1 q.1.2 (P q.1.1) v s') fun q => walk q.1.1 q.1.2 fun p hp => ?_) (fun v s' hq => ?_) fun _ _ e => e
  · rcases List.mem_cons.mp hp with rfl | hp
    · exact q.2
    · exact N p hp
  · obtain ⟨h', tk', rfl, F', _, _⟩ := hq default
    refine ⟨h', tk', rfl, ⟨fun b o _ hL e => ?_, fun m' hm' => ?_⟩, fun b o e hL h0 => ?_⟩
    · cases z : h₀.get? b with
      | some x =>
        have := F.keep _ _ z
        rw [e] at this; cases this
        exact F'.keep _ _ z
      | none =>
        obtain ⟨h2, tk2, q, _, e2, _⟩ := hq ⟨(b, o), e, hL, z⟩
        cases q
        exact e2
    · have : m' = m := by
        funext x
        obtain ⟨o1, es1, ep1, g1, d1, k1, f1⟩ := hm'
        obtain ⟨o2, es2, ep2, g2, d2, k2, f2⟩ := F.ns
        rw [g1] at g2; cases g2
        rw [d1] at d2; cases d2
        exact (f1 x).symm.trans (f2 x)
      exact this ▸ F'.ns
    · obtain ⟨h2, tk2, q, _, _, p2⟩ := hq ⟨(b, o), e, hL, h0⟩
      cases q
      exact p2
/-- an address that differs from all objects of old is new -/
theorem fresh_all {s h₀ h' : Heap} {L : Addr} {r : Addr} {news : List (Addr × Obj)} {o : Obj} (N : News h₀ L h' news) (hm : (r, o) ∈ news) (hne : ∀ b ob, s.get? b = some ob → b ≠ L → h₀.get? b = none → b ≠ r) : s.get? r = none := by
  cases e : s.get? r with
  | none => rfl
  | some x => exact absurd rfl (hne r x e (N _ hm).2.1 (N _ hm).2.2)
/-- b says whether x is less than y: two ints, or two texts -/
def LtV (x y : Value) (b : Bool) : Prop :=
  (∃ a ta c tc, x = .int a ta ∧ y = .int c tc ∧ b = decide (a < c)) ∨ (∃ a ta c tc, x = .str a ta ∧ y = .str c tc ∧ b = decide (a.cps.toList < c.cps.toList))
theorem News.sub {h₀ h : Heap} {L : Addr} {a b : List (Addr × Obj)} (N : News h₀ L h b) (s : ∀ p ∈ a, p ∈ b) : News h₀ L h a := fun p hp => N p (s p hp)
theorem News.both {h₀ h : Heap} {L : Addr} {p : Addr × Obj} {b : List (Addr × Obj)} (x : News h₀ L h [p]) (y : News h₀ L h b) : News h₀ L h (p :: b) := fun q hq => (List.mem_cons.mp hq).elim (fun e => x q (e ▸ .head _)) (y q)
theorem frame_new {s g h : Heap} {L' : Addr} {m' : PySem.Str → Option Value} {need news' : List (Addr × Obj)} (G : GSub s g (need.map (·.1))) (F' : Fr g L' h m') (N' : News g L' h news') (hs : ∀ p ∈ need, p ∈ news') : s.get? L' = none := by
  cases e : s.get? L' with
  | none => rfl
  | some o =>
    have := G L' o e fun hm => by
      obtain ⟨p, hp, q⟩ := List.mem_map.mp hm
      exact (N' p (hs p hp)).2.1 q
    rw [Heap.get?_none_of_le F'.above] at this; cases this
theorem ext_KL {s a b : Heap} {L : Addr} (k : Ext s a) (hL : s.get? L = none) (kk : KeepL L a b) : Ext s b := fun d o e => kk.1 d o (by simp) (fun q => by rw [q, hL] at e; cases e) (k d o e)
theorem News.one {h₀ h : Heap} {L : Addr} {p : Addr × Obj} {b : List (Addr × Obj)} (N : News h₀ L h (p :: b)) : News h₀ L h [p] := fun q hq => N q (List.mem_singleton.mp hq ▸ .head _)
theorem ne_cls {h₀ h : Heap} {L a b : Addr} {o1 o2 : Obj} {news : List (Addr × Obj)} (N : News h₀ L h news) (h1 : (a, o1) ∈ news) (h2 : (b, o2) ∈ news) (hc : o1.cls ≠ o2.cls) : @Ne Nat a b := fun e => by
    have e1 := (N _ h1).1
    have e2 := (N _ h2).1
    have q : a = b := e
    simp only at e1 e2
    rw [q, e2] at e1
    exact hc (by rw [Option.some.inj e1])
theorem ext_but {s g h' h₀ : Heap} {L L' : Addr} {m' : PySem.Str → Option Value} {need news' : List (Addr × Obj)} {bad : List Addr} (N : News h₀ L s need) (G : GSub s g (need.map (·.1))) (F' : Fr g L' h' m') (N' : News g L' h' news') (hs : ∀ p ∈ need, p.1 ∈ bad ∨ p ∈ news') : ExtO bad s h' := fun b o hb e => by
  by_cases hm : b ∈ need.map (·.1)
  · obtain ⟨p, hp, rfl⟩ := List.mem_map.mp hm
    have h1 := (N p hp).1
    rw [e] at h1
    rcases hs p hp with q | q
    · exact absurd q hb
    · rw [Option.some.inj h1]; exact (N' p q).1
  · exact F'.keep b o (G b o e hm)
theorem upd_twice {x : PySem.Str} {a b : Option Value} {m : PySem.Str → Option Value} : (fun y => if y = x then a else if y = x then b else m y) = fun y => if y = x then a else m y := by
  funext y
  by_cases h : y = x
  · rw [if_pos h, if_pos h]
  · rw [if_neg h, if_neg h, if_neg h]
/-- two objects of the ledger changed, all else kept -/
theorem news_two {h₀ h h' : Heap} {L a b : Addr} {o o' p p' : Obj} {news news' news'' : List (Addr × Obj)} (N : News h₀ L h news) (e : ExtO [a, b] h h') (ga : h'.get? a = some o') (gb : h'.get? b = some p') (U : Upd a o o' news news') (V : Upd b p p' news' news'') : News h₀ L h' news'' := by
  obtain ⟨p1, q1, e1, e2, n1, n2⟩ := U.split
  obtain ⟨p2, q2, e3, e4, n3, n4⟩ := V.split
  have old : ∀ x ∈ news, x.1 ≠ a → x.1 ≠ b → h'.get? x.1 = some x.2 ∧ x.1 ≠ L ∧ h₀.get? x.1 = none := fun x hx ha hb =>
    ⟨e _ _ (by simp [ha, hb]) (N x hx).1, (N x hx).2⟩
  have na : (a, o) ∈ news := by rw [e1]; simp
  have mid : ∀ x ∈ news', x.1 ≠ b → h'.get? x.1 = some x.2 ∧ x.1 ≠ L ∧ h₀.get? x.1 = none := fun x hx hb => by
    rw [e2] at hx
    rcases List.mem_append.mp hx with hx | hx
    · exact old x (by rw [e1]; exact List.mem_append_left _ hx) (n1 x hx) hb
    · rcases List.mem_cons.mp hx with rfl | hx
      · exact ⟨ga, (N _ na).2⟩
      · exact old x (by rw [e1]; exact List.mem_append_right _ (.tail _ hx)) (n2 x hx) hb
  have nb : (b, p) ∈ news' := by rw [e3]; simp
  intro x hx
  rw [e4] at hx
  rcases List.mem_append.mp hx with hx | hx
  · exact mid x (by rw [e3]; exact List.mem_append_left _ hx) (n3 x hx)
  · rcases List.mem_cons.mp hx with rfl | hx
    · refine ⟨gb, ?_⟩
      rw [e2] at nb
      rcases List.mem_append.mp nb with h | h
      · exact (N (b, p) (by rw [e1]; exact List.mem_append_left _ h)).2
      · rcases List.mem_cons.mp h with h | h
        · have : b = a := congrArg Prod.fst h
          rw [this]; exact (N _ na).2
        · exact (N (b, p) (by rw [e1]; exact List.mem_append_right _ (.tail _ h))).2
    · exact mid x (by rw [e3]; exact List.mem_append_right _ (.tail _ hx)) (n4 x hx)
theorem ne_fresh {h₀ h : Heap} {L a b : Addr} {o : Obj} {news : List (Addr × Obj)} (hl : h.get? b = none) (N : News h₀ L h news) (hm : (a, o) ∈ news) : @Ne Nat a b := fun e => by
  have := (N _ hm).1
  have q : a = b := e
  simp only at this
  rw [q, hl] at this; cases this
theorem allNe_get {a b : Addr} {o : Obj} : ∀ {l : List (Addr × Obj)}, AllNe b l → (a, o) ∈ l → @Ne Nat a b
  | _ :: _, h, hm => (List.mem_cons.mp hm).elim (fun e => by have := h.1; rw [← e] at this; exact this) fun q => allNe_get h.2 q
theorem paired_of {α β : Type} {F : α → β → Prop} : ∀ {ys : List α} {ws : List β}, ys.length = ws.length → (∀ (j : Nat) y v, ys[j]? = some y → ws[j]? = some v → F y v) → Paired F ys ws
  | [], [], _, _ => .nil
  | [], _ :: _, h, _ => by cases h
  | _ :: _, [], h, _ => by cases h
  | y :: ys, w :: ws, h, k => .cons (k 0 y w rfl rfl) (paired_of (Nat.succ.inj h) fun j a b e1 e2 => k (j + 1) a b e1 e2)
theorem Paired.imp {α β : Type} {F G : α → β → Prop} (h : ∀ a b, F a b → G a b) : ∀ {ys : List α} {ws : List β}, Paired F ys ws → Paired G ys ws
  | _, _, .nil => .nil
  | _, _, .cons x y => .cons (h _ _ x) (Paired.imp h y)
theorem Paired.filt {α β : Type} {F : α → β → Prop} (q : β → Bool) : ∀ {ys : List α} {ws : List β}, Paired F ys ws → Paired F (((ys.zip ws).filter fun p => q p.2).map (·.1)) (ws.filter q)
  | _, _, .nil => .nil
  | _, _, .cons (b := b) x y => by
    have := Paired.filt q y
    cases hq : q b with
    | true => simpa [hq] using Paired.cons x this
    | false => simpa [hq] using this
theorem Paired.get {α β : Type} {F : α → β → Prop} : ∀ {ys : List α} {ws : List β}, Paired F ys ws → ∀ (j : Nat) y, ys[j]? = some y → ∃ v, ws[j]? = some v ∧ F y v
  | _, _, .nil, _, _, e => by cases e
  | _, _, .cons x _, 0, _, e => by cases e; exact ⟨_, rfl, x⟩
  | _, _, .cons _ y, j + 1, z, e => Paired.get y j z e
/-- a ledger's object at an address above -/
theorem news_up {h₀ h h' : Heap} {L l : Addr} {m : PySem.Str → Option Value} {news : List (Addr × Obj)} {o : Obj} (F : Fr h₀ L h m) (N : News h₀ L h' news) (hl : @LE.le Nat _ h.objs.size l) (ho : h'.get? l = some o) : News h₀ L h' ((l, o) :: news) := by
  have hn : h.get? l = none := Heap.get?_none_of_le hl
  intro p hp
  rcases List.mem_cons.mp hp with rfl | hp
  · refine ⟨ho, ?_, ?_⟩
    · rintro rfl
      obtain ⟨oL, _, _, hL, _⟩ := F.ns
      rw [hn] at hL; cases hL
    · cases e : h₀.get? l with
      | none => rfl
      | some x => have := F.keep _ _ e; rw [hn] at this; cases this
  · exact N p hp
section
variable {prog : Program} {w : World} {A : Around} {E : Value → Shared → Prop} {s : Shared} {h₀ : Heap} {L : Addr} {news : List (Addr × Obj)}
theorem item_news {value slice : Expr} {l : Addr} {its : Array Value} {n : Nat} {i : Int} {u : Tok} {x : Value} {Q : Value → Shared → Prop} (N : News h₀ L s.heap news) (hm : (l, ({ cls := .type "list", data := .seq its n } : Obj)) ∈ news)
    (hx : its[i.toNat]? = some x) (h0 : 0 ≤ i) (hf : i < 100) (h : Q x s)
    (hs : subscripted slice false (.ref l) (.int i u) = operate [.ref l, .int i u] (getItem (.ref l) (.int i u)) := by with_unfolding_all rfl) (hg : ∀ r, letTemporaryGo value (.ref l) r = pure () := by intro _; with_unfolding_all rfl) :
    wpAny (model prog w) A (subscriptTail value slice (.ref l) (.int i u)) Q E s :=
  item_list ⟨_, N.get hm, rfl, _, rfl⟩ h0 (by omega) hx h hs hg
theorem len_news {l : Addr} {its : Array Value} {n : Nat} {Q : Value → Shared → Prop} (N : News h₀ L s.heap news) (hm : (l, ({ cls := .type "list", data := .seq its n } : Obj)) ∈ news) (hf : its.size < 100)
    (h : Q (.int its.size (s.toks + 1)) { s with toks := s.toks + 1 + 1 }) : wpAny (model prog w) A (call (.builtin "len") [.ref l]) Q E s :=
  Calls.call_len_list ⟨_, N.get hm, rfl, _, rfl⟩ (by omega) h
end
end Mine
end
section
open PySem PySem.W PySem.Spec PySem.Calls PyProof.Rows
set_option maxRecDepth 100000
namespace Mine
section
variable {prog : Program} {w : World} {A₀ A : Around} {s : Shared} {base h₀ : Heap} {outer : List Env} {L : Addr} {m : PySem.Str → Option Value} {env : Env} {news : List (Addr × Obj)} {K : Frag}
  {R : Result → Shared → Prop} {name qual : PySem.Str} {params : Arguments} {body : List Stmt} {scope : Scope} {dV kV doc pm cdv ct oc : Value} {an od : Option Addr} {osl : Array (Option Value)} {f : Addr} {args : Args} {binds : List (PySem.Str × Value)}
  {mean : ExcName → Option Value} {mg mb : PySem.Str → Option Value} {p : Program} {loose : List PySem.Str}
/-- entering a def that has cells; what stood behind the caller's ledger stands in the new ground -/
theorem code_defCG (B : Below A₀ base outer h₀) (F : Fr h₀ L s.heap m) (X₀ : K.In h₀) (N : News h₀ L s.heap news) (T : Top p loose mean mg mb h₀) (hA : A.frames = some (env :: outer)) (hf : env.frame = some L) (hke : env.scope.kind = .function)
    (ho : K.lookup f = some ⟨oc, od, .func (fnOf name qual params body scope dV kV doc pm an cdv ct), osl⟩) (hcd : codeIn K cdv qual = true) (hroom : A.depth < recursionLimit)
    (hbind : BindsTo s (fnOf name qual params body scope dV kV doc pm an cdv ct) args binds) (hkind : (binds.all fun y => scope.names.lookup y.1 == some .local || scope.names.lookup y.1 == some .cell) = true)
    (hnd : ((cellsFrom 0 scope.names []).map (·.1)).Nodup)
    (h : ∀ g L' h₁ tk cells, Fr h₀ L g m → Fr g L' h₁ (bindL (envOfC qual scope L' f cdv).kindOf binds fun _ => none) → News g L' h₁ (cells ++ news) →
      CellsAre (bindC (envOfC qual scope L' f cdv).kindOf binds fun _ => none) (cellsFrom (L' + 1) scope.names []) cells → Below A base (env :: outer) g → K.In g → Top p loose mean mg mb g → (∀ p ∈ news, p.1 < L') → GSub s.heap g (news.map (·.1)) →
      wpAny (model prog w) (A.deeper (envOfC qual scope L' f cdv)) (execs body (envOfC qual scope L' f cdv))
        (fun fl s' => LeaveK h₀ L m g R (match fl with | .ret v => v | _ => .none) s')
        (fun e s' => wpAny (model prog w) (A.deeper (envOfC qual scope L' f cdv)) (leaving (envOfC qual scope L' f cdv) e) (fun _ s'' => R (.error e) s'') (fun e' s'' => R (.error e') s'') s')
        { s with heap := h₁, toks := tk })
    (hco : scope.isCoroutine = false) (hgen : scope.isGenerator = false) (hk : scope.kind = .function) : codeAny (model prog w) A (.call (.ref f) args) R s := by
  obtain ⟨FG, BG, st, lv⟩ := groundX (R := R) B F N hA hf hke
  refine codeAny_call_function (fd := fnX name qual params body scope [] dV kV doc pm an cdv ct) hroom ((X₀.keeps F.keep) _ _ ho) rfl hco hgen rfl (codeRec_of (X₀.keeps F.keep) hcd) (hbind _ _ _ _ ?_)
  refine wpAny_newFunctionEnv_cells hk (kindsX hkind _) fun env' he s' x => ?_
  subst he
  refine ⟨(T.nolimit.keeps F.keep).keeps x.toInCall.keep, codeAny_func ?_⟩
  obtain ⟨h₁, tk, rfl, _⟩ := x.done
  have up := x.toInCall.keep
  obtain ⟨cells, NC, Y⟩ := Cl.news (h₀ := s.heap) (Nat.le_refl _) fun n c hm => ⟨x.cell n c (lookup_of_mem_nodup (cellsFrom_names scope.names 0 (s.heap.objs.size + 1) [] [] rfl ▸ hnd) hm), x.above n c hm⟩
  have N₁ : News (hideAll s.heap (news.map (·.1))) s.heap.objs.size h₁ (cells ++ news) := fun q hq => by
    rcases List.mem_append.mp hq with hq | hq
    · refine ⟨(NC q hq).1, (NC q hq).2.1, ?_⟩
      cases e : (hideAll s.heap (news.map (·.1))).get? q.1 with
      | none => rfl
      | some o => exact absurd (of_hideAll _ e) (by rw [(NC q hq).2.2]; exact fun z => nomatch z)
    · exact ⟨up _ _ (N q hq).1, Nat.ne_of_lt (Heap.lt_size (N q hq).1), hideAll_none _ (List.mem_map_of_mem hq)⟩
  exact wpAny_mono (h _ s.heap.objs.size h₁ tk cells FG ⟨x.toInCall.ns, fun b o e => up b o (of_hideAll _ e), Nat.le_of_eq (hideAll_size _ _)⟩ N₁ Y BG (X₀.keeps st) (T.keeps st)
    (fun q hq => Heap.lt_size (N q hq).1) fun b o e n => hideAll_get _ e n) (fun _ _ hl => lv _ _ hl) fun _ _ y => y
end
end Mine
end
section
open PySem PySem.W PySem.Spec PySem.Calls PyProof.Rows
set_option maxRecDepth 100000
namespace Mine
theorem adj (k n : Nat) (h : k ≤ n) : Builtin.Slice.sliceAdjust (some (k : Int)) none 1 (Builtin.Range.rangeSize 0 (n : Int) 1) = ((k : Int), (n : Int)) := by
  have : Builtin.Range.rangeSize 0 (n : Int) 1 = (n : Int) := by
    unfold Builtin.Range.rangeSize
    simp only [show (1:Int) > 0 from by decide, if_true, Int.ediv_one]
    split <;> omega
  rw [this]
  unfold Builtin.Slice.sliceAdjust
  simp only [show ¬ ((1:Int) < 0) from by decide, show ¬ ((k:Int) < 0) from by omega, if_false]
  congr 1
  omega
theorem range_small (k n : Nat) (h : n ≤ 5) (hk : k ≤ n := by omega) : Builtin.Range.small (k : Int) (n : Int) 1 = true := by
  have h1 : k = 0 ∨ k = 1 ∨ k = 2 ∨ k = 3 ∨ k = 4 ∨ k = 5 := by omega
  have h2 : n = 0 ∨ n = 1 ∨ n = 2 ∨ n = 3 ∨ n = 4 ∨ n = 5 := by omega
  rcases h1 with rfl | rfl | rfl | rfl | rfl | rfl <;> rcases h2 with rfl | rfl | rfl | rfl | rfl | rfl <;> first | decide +kernel | omega
theorem range_size (k n : Nat) : Builtin.Range.rangeSize (k : Int) (n : Int) 1 = ((n - k : Nat) : Int) := by
  unfold Builtin.Range.rangeSize
  simp only [show (1:Int) > 0 from by decide, if_true, Int.ediv_one]
  split <;> omega
set_option maxHeartbeats 2000000 in
theorem range_from (r sl : Addr) (n k : Nat) (t u v tk : Tok) (hk : k ≤ n) (hn : n ≤ 5) :
    Meets (Builtin.«range.__getitem__» ⟨[.ref r, .ref sl], []⟩) (fun _ R s => s.heap.get? r = some { cls := .type "range", dict := none, data := .fields #[.int 0 t, .int n u, .int 1 v], slots := #[] } ∧ s.heap.get? sl = some { cls := .type "slice", dict := none, data := .fields #[.int k tk, .none, .none], slots := #[] } ∧
      ∀ t' u' v' tk', R (.ok (.ret (.ref s.heap.objs.size))) { s with heap := s.heap.push { cls := .type "range", data := .fields #[.int k t', .int n u', .int 1 v'] }, toks := tk' }) :=
  .of_wp fun prog w A R s h => by
    obtain ⟨hp, g, d, tk', os⟩ := s
    obtain ⟨hr, hs, h⟩ := h
    have hi := int_index
    have hroom : Builtin.divisionGoesByPylong (((n : Int) - (k : Int)) * 1) (1 * (Option.none : Option Int).getD 1) = false := PyProof.noPylong_small (by decide)
    have ha : Builtin.Slice.sliceAdjust (some (k : Int)) none ((Option.none : Option Int).getD 1) (Builtin.Range.rangeSize 0 (n : Int) 1) = ((k : Int), (n : Int)) := adj k n hk
    have b : ∀ x : Nat, x ≤ 5 → ¬ ((0 + (x : Int) * 1).natAbs.log2 ≥ bitsLine) := by
      intro x hx
      have : x = 0 ∨ x = 1 ∨ x = 2 ∨ x = 3 ∨ x = 4 ∨ x = 5 := by omega
      rcases this with rfl | rfl | rfl | rfl | rfl | rfl <;> decide +kernel
    have b1 : ¬ ((1 * (Option.none : Option Int).getD 1).natAbs.log2 ≥ bitsLine) := by decide +kernel
    wp_walk
    simp only [ha, if_neg (b k (by omega))]
    wp_walk
    simp only [if_neg (b n hn)]
    wp_walk
    refine ⟨_, rfl, ?_⟩
    have e1 : (0 : Int) + (k : Int) * 1 = k := by omega
    have e2 : (0 : Int) + (n : Int) * 1 = n := by omega
    rw [e1, e2]
    exact h _ _ _ _
section
variable {prog : Program} {w : World} {A : Around} {E : Value → Shared → Prop} {s : Shared} {h₀ : Heap} {L : Addr} {m : PySem.Str → Option Value} {news : List (Addr × Obj)}
theorem getItem_range_from {r sl : Addr} {n k : Nat} {t u v tk : Tok} {Q : Value → Shared → Prop} (hk : k ≤ n) (hn : n ≤ 5) (hr : s.heap.get? r = some { cls := .type "range", dict := none, data := .fields #[.int 0 t, .int n u, .int 1 v], slots := #[] })
    (hs : s.heap.get? sl = some { cls := .type "slice", dict := none, data := .fields #[.int k tk, .none, .none], slots := #[] })
    (h : ∀ t' u' v' tk', Q (.ref s.heap.objs.size) { s with heap := s.heap.push { cls := .type "range", data := .fields #[.int k t', .int n u', .int 1 v'] }, toks := tk' }) :
    wpAny (model prog w) A (getItem (.ref r) (.ref sl)) Q E s := by
  have hT : s.TypeIs (.ref r) "range" := ⟨_, hr, rfl⟩
  unfold getItem
  try with_reducible refine wpAny_holding ?_
  first | refine wpAny_bind (wpAny_pure ?_) | skip
  refine wpAny_bind (wpAny_sequenceKey hT (by decide) ?_)
  refine wpAny_bind (wpAny_callSpecial?_slot (name := PySem.Str.ofString "__getitem__") hT PySem.F.slot_range_getitem
    (call_meets PySem.F.slot_range_getitem hT PySem.F.entry_range_getitem (PySem.F.args_range_getitem_2 _ _) (range_from r sl n k t u v tk hk hn) ⟨hr, hs, fun t' u' v' tk' => ?_⟩))
  exact wpAny_pure (h t' u' v' tk')
theorem range_slice {value slice : Expr} {ops : List Value} {r : Addr} {n k : Nat} {t u v tk : Tok} {g : Heap} {gs : Array GenState} {d : Drawn} {tt : Nat} {os : OsState} {Q : Value → Shared → Prop} (hk : k ≤ n) (hn : n ≤ 5) (F : Fr h₀ L g m) (N : News h₀ L g news) (hr : IsRange g r 0 n 1 t u v)
    (h : ∀ a h' tk' t' u' v', Fr h₀ L h' m → News h₀ L h' news → IsRange h' a k n 1 t' u' v' → Q (.ref a) ⟨h', gs, d, tk', os⟩)
    (hs : subscripted slice false (.ref r) (.ref g.objs.size) = operate ops (getItem (.ref r) (.ref g.objs.size)) := by with_unfolding_all rfl)
    (ht : ∀ x, letTemporaryGo value (.ref r) x = pure () := by intro _; with_unfolding_all rfl) :
    wpAny (model prog w) A (subscriptTail value slice (.ref r) (.ref g.objs.size)) Q E ⟨g.push { cls := .type "slice", data := .fields #[.int k tk, .none, .none] }, gs, d, tt, os⟩ := by
  have hr' : g.get? r = some { cls := .type "range", dict := none, data := .fields #[.int 0 t, .int n u, .int 1 v], slots := #[] } := hr
  refine subscriptTail_ops (s := ⟨g.push { cls := .type "slice", data := .fields #[.int k tk, .none, .none] }, gs, d, tt, os⟩) (T := "range") ⟨_, Heap.get?_push_of_some _ hr', rfl⟩ PySem.F.slot_range_getitem.lookup
    (getItem_range_from hk hn (Heap.get?_push_of_some _ hr') (Heap.get?_push_size _ rfl) fun t' u' v' tk' => ?_) hs ht
  exact h _ _ _ _ _ _ ((F.push _).push _) ((N.grown fun _ _ e => Heap.get?_push_of_some _ e).grown fun _ _ e => Heap.get?_push_of_some _ e) (IsRange.new ..)
end
end Mine
end
section
open PySem PySem.W PySem.Spec PySem.Calls PyProof.Rows
set_option maxRecDepth 100000
namespace Mine
section
variable {prog : Program} {w : World} {A : Around} {E : Value → Shared → Prop} {s : Shared} {h₀ : Heap} {L : Addr} {news : List (Addr × Obj)}
theorem args_callable (a : Value) : argsOk "callable" ⟨[a], []⟩ := by unfold argsOk; kernel_rfl
theorem entry_callable : entryFor table "callable" = some Builtin.«callable» := entryFor_of_tree (by kernel_rfl)
theorem list_no_call : typeLookup (.type "list") "__call__" = pure none := by rw [typeLookup_type, builtinLookup_eq_fast]; kernel_rfl
theorem one_callable (a : Value) : oneArg "callable" ⟨[a], []⟩ = pure a := by kernel_rfl
theorem callable_list {l : Addr} {its : Array Value} {n : Nat} {Q : Value → Shared → Prop} (N : News h₀ L s.heap news) (hm : (l, ({ cls := .type "list", data := .seq its n } : Obj)) ∈ news) (h : Q (.bool false) s) : wpAny (model prog w) A (call (.builtin "callable") [.ref l]) Q E s := by
  refine Calls.call_function_entry (by decide +kernel) (by decide +kernel) entry_callable (args_callable _) ?_
  unfold Builtin.«callable»
  rw [one_callable]
  refine wpAny_bind (wpAny_pure (wpAny_bind (wpAny_specialOf ⟨_, N.get hm, rfl⟩ list_no_call ?_)))
  exact wpAny_pure ⟨_, rfl, h⟩
theorem set_news {m : PySem.Str → Option Value} {news' : List (Addr × Obj)} {D : Addr} {its : Array Value} {n : Nat} {k : Int} {t : Tok} {v : Value} {Q : Unit → Shared → Prop} (F : Fr h₀ L s.heap m) (Nw : News h₀ L s.heap news) (U : Upd D (W.listOf its n) (W.listOf (its.setIfInBounds k.toNat v) n) news news')
    (h0 : 0 ≤ k) (h1 : k < its.size) (hs : its.size < 100) (h : ∀ h', Fr h₀ L h' m → News h₀ L h' news' → Q () { s with heap := h' }) : wpAny (model prog w) A (setItem (.ref D) (.int k t) v) Q E s := by
  obtain ⟨pre, post, rfl, rfl, a, b⟩ := U.split
  have z := Nw (D, W.listOf its n) (List.mem_append.mpr (.inr (.head _)))
  refine ki_setAt z.1 h0 (by omega) (by omega) (h _ (F.change (Heap.SameBut.update ..) z.2.1 z.2.2) (ki_turn _ Nw a b rfl ?_))
  rw [if_pos (by simp)]
end
end Mine
end
section
open PySem PySem.W PySem.Spec PySem.Calls PyProof.Rows
set_option maxRecDepth 100000
namespace Mine
/-- a for loop that is about to turn -/
def ForSrc (prog : Program) (w : World) (A : Around) (env : Env) (target : Expr) (body : List Stmt) (Q : Flow → Shared → Prop) (E : Value → Shared → Prop) (it : Value) (s₂ : Shared) : Prop :=
  codeAny (model prog w) A (.forLoop target it body [] env) (fun r s' => match r with | .ok f => Q f s' | .error e => cameBackBy (model prog w) A env E e s') s₂
/-- what a turn leaves -/
def TurnEnd (s : Shared) (g : Heap) (L : Addr) (Inv : (PySem.Str → Option Value) → List (Addr × Obj) → Prop) (Q : Flow → Shared → Prop) (I : Addr) (oI : Obj) (f : Flow) (s₃ : Shared) : Prop :=
  match f with
  | .ret v => Q (.ret v) s₃
  | .brk => Q .next s₃
  | _ => ∃ h' tk' m' news', s₃ = { s with heap := h', toks := tk' } ∧ Fr g L h' m' ∧ News g L h' ((I, oI) :: news') ∧ (∀ p ∈ news', p.1 ≠ I) ∧ Inv m' news'
theorem TurnEnd.next {s : Shared} {g : Heap} {L : Addr} {Inv : (PySem.Str → Option Value) → List (Addr × Obj) → Prop} {Q : Flow → Shared → Prop} {I : Addr} {oI : Obj} {h' : Heap} {tk' : Nat} {m' : PySem.Str → Option Value} {all : List (Addr × Obj)}
    (F : Fr g L h' m') (N : News g L h' all) (news' : List (Addr × Obj)) (hI : (I, oI) ∈ all) (hs : ∀ p ∈ news', p ∈ all) (off : ∀ p ∈ news', p.1 ≠ I) (inv : Inv m' news') : TurnEnd s g L Inv Q I oI .next { s with heap := h', toks := tk' } :=
  ⟨h', tk', m', news', rfl, F, fun p hp => (List.mem_cons.mp hp).elim (fun e => e ▸ N _ hI) fun hp => N _ (hs p hp), off, inv⟩
section
variable {prog : Program} {w : World} {A : Around} {E : Value → Shared → Prop} {s : Shared} {env : Env}
theorem for_enter {target iter : Expr} {body : List Stmt} {pos : Pos} {Q : Flow → Shared → Prop}
    (h : wpAny (model prog w) A (eval iter env) (fun x s₁ => wpAny (model prog w) A (pyIter x) (ForSrc prog w A env target body Q E) E s₁) E s)
    (hs : ∀ x, foldedSetIterable iter env x = pure x := by intro _; rfl) :
    wpAny (model prog w) A (exec (.For target iter body [] pos) env) Q E s := wpAny_For h hs
theorem for_J {target : Expr} {body : List Stmt} {Q : Flow → Shared → Prop} {s₁ : Shared} {xv : Value} {srcs : List Addr} {n : Nat} {P : Nat → Value → Prop} {g : Heap} {L : Addr} {m : PySem.Str → Option Value} {news : List (Addr × Obj)}
    (Inv : (PySem.Str → Option Value) → List (Addr × Obj) → Nat → (PySem.Str → Option Value) → List (Addr × Obj) → Prop)
    (S : IsSrc prog w A s₁ xv srcs n P) (F : Fr g L s₁.heap m) (N : News g L s₁.heap news) (K : List (Addr × Obj)) (hK : ∀ a ∈ srcs, ∃ o, (a, o) ∈ K) (i0 : Inv m news 0 m news) (hInv : ∀ i m' news', Inv m news i m' news' → ∀ p ∈ K, p ∈ news')
    (turn : ∀ i v I oI h tk m' news' (E' : Value → Shared → Prop), i < n → P i v → Inv m news i m' news' → Fr g L h m' → News g L h ((I, oI) :: news') → (∀ p ∈ news', p.1 ≠ I) →
      wpAny (model prog w) A (assign target env v) (fun _ s₂ => wpAny (model prog w) A (execs body env) (TurnEnd s₁ g L (Inv m news (i + 1)) Q I oI) E' s₂) E' { s₁ with heap := h, toks := tk })
    (fin : ∀ h tk m' news', Inv m news n m' news' → Fr g L h m' → News g L h news' → Q .next { s₁ with heap := h, toks := tk })
    (ht : ∀ it v, letOwnedTupleGo target it v = pure () := by intro _ _; rfl) :
    wpAny (model prog w) A (pyIter xv) (ForSrc prog w A env target body Q E) E s₁ := by
  generalize hm0 : m = m0 at i0 hInv turn fin
  generalize hn0 : news = nw0 at i0 hInv turn fin
  refine S _ _ fun oI fp St hf W st0 hfp hsub hwr => ?_
  have up : Ext s₁.heap (s₁.heap.push oI) := fun b o e => Heap.get?_push_of_some _ e
  generalize hI : s₁.heap.objs.size = I at W st0 hsub hwr ⊢
  have gI : s₁.heap.get? I = none := Heap.get?_none_of_le (by rw [hI]; exact Nat.le_refl _)
  have IL : I ≠ L := fun q => by obtain ⟨_, _, _, e, _⟩ := F.ns; rw [← q, gI] at e; cases e
  have Ig : g.get? I = none := by
    cases e : g.get? I with
    | none => rfl
    | some o => have := F.keep _ _ e; rw [gI] at this; cases this
  have off0 : ∀ p ∈ news, p.1 ≠ I := fun p hp q => by have := (N p hp).1; rw [q, gI] at this; cases this
  have noI : ∀ {b : Addr}, b ≠ I → b ∉ [I] := fun h q => h (List.mem_singleton.mp q)
  unfold ForSrc
  refine codeAny_forLoop (fun k s' => ∃ i h tk m news, k = n + 1 - i ∧ i ≤ n ∧ s' = { s₁ with heap := h, toks := tk } ∧ St i h ∧ Fr g L h m ∧ News g L h news ∧ (∀ p ∈ news, p.1 ≠ I) ∧ Inv m0 nw0 i m news) ?_ (n + 1)
    ⟨0, _, s₁.toks, m, news, rfl, Nat.zero_le _, rfl, st0, F.keeps up, N.grown up, off0, by rw [hm0, hn0]; exact i0⟩ (ht _)
  rintro k _ ⟨i, h, tk, m, news, rfl, hi, rfl, st, F, N, off, inv⟩
  by_cases hlt : i < n
  · refine W.item i _ _ _ hlt st fun v h₂ tk₂ hP st₂ hk₂ => ?_
    obtain ⟨oI₂, eI₂⟩ := hwr _ _ st₂ I (.head _)
    have F₂ : Fr g L h₂ m := LCg.fr_but F hk₂ (Ne.symm IL) Ig
    have N₂ : News g L h₂ ((I, oI₂) :: news) := fun p hp => by
      rcases List.mem_cons.mp hp with rfl | hp
      · exact ⟨eI₂, IL, Ig⟩
      · exact LCg.news_but N hk₂ off p hp
    refine wpAny_mono (turn i v I oI₂ h₂ tk₂ m news _ hlt hP inv F₂ N₂ off) (fun _ s₃ h₃ => wpAny_mono h₃ (fun f s₄ h₄ => ?_) fun _ _ e => e) fun _ _ e => e
    have step : (∃ h' tk' m' news', s₄ = { s₁ with heap := h', toks := tk' } ∧ Fr g L h' m' ∧ News g L h' ((I, oI₂) :: news') ∧ (∀ p ∈ news', p.1 ≠ I) ∧ Inv m0 nw0 (i + 1) m' news') →
        ∃ m', m' < n + 1 - i ∧ ∃ i h tk m news, m' = n + 1 - i ∧ i ≤ n ∧ s₄ = { s₁ with heap := h, toks := tk } ∧ St i h ∧ Fr g L h m ∧ News g L h news ∧ (∀ p ∈ news, p.1 ≠ I) ∧ Inv m0 nw0 i m news := by
      rintro ⟨h', tk', m', news', rfl, F', N', off', inv'⟩
      refine ⟨n + 1 - (i + 1), by omega, i + 1, h', tk', m', news', rfl, hlt, rfl, W.frame _ _ _ st₂ fun b hb o e => ?_, F', fun p hp => N' p (.tail _ hp), off', inv'⟩
      rcases hsub b hb with rfl | hb
      · rw [eI₂] at e; cases e; exact (N' _ (.head _)).1
      · obtain ⟨oa, ha⟩ := hK b hb
        have e1 := (N₂ _ (.tail _ (hInv _ _ _ inv _ ha))).1
        rw [e] at e1; cases e1
        exact (N' _ (.tail _ (hInv _ _ _ inv' _ ha))).1
    cases f with
    | next => exact step h₄
    | cont => exact step h₄
    | brk => exact h₄
    | ret v => exact h₄
  · have hin : i = n := by omega
    subst hin
    refine W.done _ _ _ st fun h₂ tk₂ hk₂ => ?_
    exact wpAny_pure (fin h₂ tk₂ m news inv (LCg.fr_but F hk₂ (Ne.symm IL) Ig) (LCg.news_but N hk₂ off))
end
end Mine
end
section
open PySem PySem.W PySem.Spec PySem.Calls PyProof.Rows
set_option Elab.async false
set_option maxRecDepth 100000
namespace Mine
local macro_rules | `(tactic| k_in) => `(tactic| first | k_in_fast | assumption | exact Frag.In.keeps (by k_asm) (Fr.keep (by k_asm)))
local macro_rules | `(tactic| walk_at "callWith ref") => `(tactic| (k_here; (with_reducible show wpAny _ _ (callWith _ (Value.ref _) _ _ (backToKw _ (keywordEach (_ :: _) _))) _ _ _); k_dflt (refine' callWith_KW ?k1 ?k2 ?k3 ?_; (case k1 => k_asm); (case k2 => k_is); (case k3 => exact rfl); k_whole)))
local macro_rules | `(tactic| k_room) => `(tactic| ktr_room)
local macro_rules | `(tactic| k_units) => `(tactic| ktr_units)
local macro_rules | `(tactic| walk_at "call builtin:_operator.lt") => `(tactic| refine op_lt ?_)
local macro_rules | `(tactic| k_all) => `(tactic| first | exact List.forall_mem_nil _ | (refine' List.forall_mem_cons.mpr ⟨?a, ?b⟩; (case a => (refine neN ?_; (try dsimp only); first | with_reducible assumption | exact Nat.ne_of_lt (by with_reducible assumption) | exact Nat.ne_of_gt (by with_reducible assumption) | exact Ne.symm (by with_reducible assumption) | (law_clear; omega))); (case b => k_all)))
local macro_rules | `(tactic| k_subL) => `(tactic| first | exact List.forall_mem_nil _ | (refine' List.forall_mem_cons.mpr ⟨?a, ?b⟩; (case a => k_mem); (case b => k_subL)))
local macro_rules | `(tactic| k_lt $h) => `(tactic| (have hRaw := $h; replace $h := allLt_of $h; simp only [AllLt, and_true] at $h:ident))
local macro_rules | `(tactic| k_ne) => `(tactic| (refine neN ?_; (try dsimp only); first | with_reducible assumption | exact lt_get (by with_reducible assumption) (by k_mem) | exact lt_get' (by with_reducible assumption) (by k_mem) | exact Ne.symm (by with_reducible assumption) | exact allNe_get (by assumption) (by k_mem) | exact Ne.symm (allNe_get (by assumption) (by k_mem)) | (law_clear; omega) | omega))
local macro_rules | `(tactic| k_all) => `(tactic| first | exact List.forall_mem_nil _ | exact older_ne (by with_reducible assumption) rfl | exact ne_older (by with_reducible assumption) rfl | (refine' List.forall_mem_cons.mpr ⟨?a, ?b⟩; (case a => k_ne); (case b => k_all)))
section
variable {w : World} {mean : ExcName → Option Value} {mg mb : PySem.Str → Option Value} {dp un : Nat} {gd : Option (List Code)} {cn : PySem.Str} {cs : Scope} {a : Addr} {ccd : Value} {cl : List (PySem.Str × Addr)} {outer : List Env} {A₀ : Around} {base h₀ : Heap} {L : Addr} {m : PySem.Str → Option Value} {s : Shared} {Q E : Value → Shared → Prop}

set_option maxHeartbeats 1000000 in
theorem expr_find (C : Cx w mean mg mb dp un 20 200 cs A₀ base h₀ outer L m s.heap)
   {e ed th thd d dd : Addr} {p c : Value} {x y : Int} {h1 h2 h3 h4 h5 h6 : Int} {t1 t2 t3 t4 t5 t6 to tx ty : Tok}
   (N : News h₀ L s.heap [(e, instObj 971 ed), (ed, dictOf [⟨h4, .str "target" t4, .ref th⟩, ⟨h5, .str "op" t5, .str "<" to⟩, ⟨h6, .str "value" t6, .int y ty⟩] 3), (th, instObj 333 thd), (thd, dictOf [] 0), (d, instObj 209 dd), (dd, DatumObj (.int x tx) p c h1 h2 h3 t1 t2 t3)])
   (ret1 : ∀ l h' tk', x < y → Ext s.heap h' → s.heap.get? l = none → h'.get? l = some (W.listOf #[.ref d] 1) → Q (.ref l) { s with heap := h', toks := tk' })
   (ret0 : ∀ l h' tk', ¬ x < y → Ext s.heap h' → s.heap.get? l = none → h'.get? l = some (W.listOf #[] 0) → Q (.ref l) { s with heap := h', toks := tk' }) :
   wpAny (model P0 w) (ktrTop dp un gd cn cs L a ccd cl outer) (call (.ref 949) [.ref e, .ref d] []) Q E s := by
  w_top off
  obtain ⟨B, F, X, T, hk, hd, hu⟩ := C
  refine wpAny_call ?_
  k_dflt (refine' code_defG ?k1 ?k2 ?k3 ?k4 ?k5 ?kA ?kF ?kK ?k6 ?k7 ?k8 ?k9 ?kB ?_ ?c2 ?c3 ?c4 ?c5; (case kA => exact rfl); (case kF => exact rfl); (case kK => assumption); (case k1 => k_asm); (case k2 => k_asm); (case k3 => k_asm); (case k4 => k_asm); (case k5 => k_asm); (case k6 => k_is); (case k7 => k_is); (case k8 => ktr_room); (case k9 => exact BindsTo.of_eq rfl); (case c5 => decide); (case kB => exact locs rfl); (case c2 => exact rfl); (case c3 => exact rfl); (case c4 => exact rfl); k_whole; intro g' L' h' FG' F' N' B' X' T' kG'; (try dsimp only); (try k_fold))
  k_steps
  · exact ret1 _ _ _ (by assumption) (ext_of N kG' (by assumption) (by assumption) (by k_subL)) (gone' kG' (by assumption) (by k_mem) (by k_all)) (News.get (by assumption) (by k_mem))
  · exact ret0 _ _ _ (by assumption) (ext_of N kG' (by assumption) (by assumption) (by k_subL)) (gone' kG' (by assumption) (by k_mem) (by k_all)) (News.get (by assumption) (by k_mem))
end
end Mine
end
section
open PySem PySem.W PySem.Spec PySem.Calls PyProof.Rows
set_option Elab.async false
set_option maxRecDepth 100000
namespace Mine
local macro_rules | `(tactic| k_in) => `(tactic| first | k_in_fast | assumption | exact Frag.In.keeps (by k_asm) (Fr.keep (by k_asm)))
local macro_rules | `(tactic| walk_at "callWith ref") => `(tactic| (k_here; (with_reducible show wpAny _ _ (callWith _ (Value.ref _) _ _ (backToKw _ (keywordEach (_ :: _) _))) _ _ _); k_dflt (refine' callWith_KW ?k1 ?k2 ?k3 ?_; (case k1 => k_asm); (case k2 => k_is); (case k3 => exact rfl); k_whole)))
local macro_rules | `(tactic| k_room) => `(tactic| ktr_room)
local macro_rules | `(tactic| k_units) => `(tactic| ktr_units)
local macro_rules | `(tactic| walk_at "call builtin:_operator.lt") => `(tactic| refine op_lt ?_)
local macro_rules | `(tactic| k_all) => `(tactic| first | exact List.forall_mem_nil _ | (refine' List.forall_mem_cons.mpr ⟨?a, ?b⟩; (case a => (refine neN ?_; (try dsimp only); first | with_reducible assumption | exact Nat.ne_of_lt (by with_reducible assumption) | exact Nat.ne_of_gt (by with_reducible assumption) | exact Ne.symm (by with_reducible assumption) | (law_clear; omega))); (case b => k_all)))
local macro_rules | `(tactic| k_subL) => `(tactic| first | exact List.forall_mem_nil _ | (refine' List.forall_mem_cons.mpr ⟨?a, ?b⟩; (case a => k_mem); (case b => k_subL)))
local macro_rules | `(tactic| k_lt $h) => `(tactic| (have hRaw := $h; replace $h := allLt_of $h; simp only [AllLt, and_true] at $h:ident))
local macro_rules | `(tactic| k_ne) => `(tactic| (refine neN ?_; (try dsimp only); first | with_reducible assumption | exact lt_get (by with_reducible assumption) (by k_mem) | exact lt_get' (by with_reducible assumption) (by k_mem) | exact Ne.symm (by with_reducible assumption) | exact allNe_get (by assumption) (by k_mem) | exact Ne.symm (allNe_get (by assumption) (by k_mem)) | (law_clear; omega) | omega))
local macro_rules | `(tactic| k_all) => `(tactic| first | exact List.forall_mem_nil _ | exact older_ne (by with_reducible assumption) rfl | exact ne_older (by with_reducible assumption) rfl | (refine' List.forall_mem_cons.mpr ⟨?a, ?b⟩; (case a => k_ne); (case b => k_all)))
section
variable {w : World} {mean : ExcName → Option Value} {mg mb : PySem.Str → Option Value} {dp un : Nat} {gd : Option (List Code)} {cn : PySem.Str} {cs : Scope} {a : Addr} {ccd : Value} {cl : List (PySem.Str × Addr)} {outer : List Env} {A₀ : Around} {base h₀ : Heap} {L : Addr} {m : PySem.Str → Option Value} {s : Shared} {Q E : Value → Shared → Prop}

set_option maxHeartbeats 1000000 in
theorem expr_find_s (C : Cx w mean mg mb dp un 20 200 cs A₀ base h₀ outer L m s.heap)
   {e ed th thd d dd : Addr} {p c : Value} {x y : PySem.Str} {h1 h2 h3 h4 h5 h6 : Int} {t1 t2 t3 t4 t5 t6 to tx ty : Tok}
   (N : News h₀ L s.heap [(e, instObj 971 ed), (ed, dictOf [⟨h4, .str "target" t4, .ref th⟩, ⟨h5, .str "op" t5, .str "<" to⟩, ⟨h6, .str "value" t6, .str y ty⟩] 3), (th, instObj 333 thd), (thd, dictOf [] 0), (d, instObj 209 dd), (dd, DatumObj (.str x tx) p c h1 h2 h3 t1 t2 t3)])
   (ret1 : ∀ l h' tk', x.cps.toList < y.cps.toList → Ext s.heap h' → s.heap.get? l = none → h'.get? l = some (W.listOf #[.ref d] 1) → Q (.ref l) { s with heap := h', toks := tk' })
   (ret0 : ∀ l h' tk', ¬ x.cps.toList < y.cps.toList → Ext s.heap h' → s.heap.get? l = none → h'.get? l = some (W.listOf #[] 0) → Q (.ref l) { s with heap := h', toks := tk' }) :
   wpAny (model P0 w) (ktrTop dp un gd cn cs L a ccd cl outer) (call (.ref 949) [.ref e, .ref d] []) Q E s := by
  w_top off
  obtain ⟨B, F, X, T, hk, hd, hu⟩ := C
  refine wpAny_call ?_
  k_dflt (refine' code_defG ?k1 ?k2 ?k3 ?k4 ?k5 ?kA ?kF ?kK ?k6 ?k7 ?k8 ?k9 ?kB ?_ ?c2 ?c3 ?c4 ?c5; (case kA => exact rfl); (case kF => exact rfl); (case kK => assumption); (case k1 => k_asm); (case k2 => k_asm); (case k3 => k_asm); (case k4 => k_asm); (case k5 => k_asm); (case k6 => k_is); (case k7 => k_is); (case k8 => ktr_room); (case k9 => exact BindsTo.of_eq rfl); (case c5 => decide); (case kB => exact locs rfl); (case c2 => exact rfl); (case c3 => exact rfl); (case c4 => exact rfl); k_whole; intro g' L' h' FG' F' N' B' X' T' kG'; (try dsimp only); (try k_fold))
  k_steps
  · exact ret1 _ _ _ (by assumption) (ext_of N kG' (by assumption) (by assumption) (by k_subL)) (gone' kG' (by assumption) (by k_mem) (by k_all)) (News.get (by assumption) (by k_mem))
  · exact ret0 _ _ _ (by assumption) (ext_of N kG' (by assumption) (by assumption) (by k_subL)) (gone' kG' (by assumption) (by k_mem) (by k_all)) (News.get (by assumption) (by k_mem))
end
end Mine
end
section
open PySem PySem.W PySem.Spec PySem.Calls PyProof.Rows
set_option Elab.async false
set_option maxRecDepth 100000
namespace Mine
local macro_rules | `(tactic| k_in) => `(tactic| first | k_in_fast | assumption | exact Frag.In.keeps (by k_asm) (Fr.keep (by k_asm)))
local macro_rules | `(tactic| walk_at "callWith ref") => `(tactic| (k_here; (with_reducible show wpAny _ _ (callWith _ (Value.ref _) _ _ (backToKw _ (keywordEach (_ :: _) _))) _ _ _); k_dflt (refine' callWith_KW ?k1 ?k2 ?k3 ?_; (case k1 => k_asm); (case k2 => k_is); (case k3 => exact rfl); k_whole)))
local macro_rules | `(tactic| k_room) => `(tactic| ktr_room)
local macro_rules | `(tactic| k_units) => `(tactic| ktr_units)
local macro_rules | `(tactic| walk_at "getMethod ref") => `(tactic| (k_here; (with_reducible show wpAny _ _ (getMethod (Value.ref _) (PySem.Str.ofString "get_field_datum") _) _ _ _); k_dflt (refine' kmu_sm ?k1 ?k2 ?k4 ?k5 ?k6 ?k7 ?k8 ?k9 ?k10 ?k11 ?k12 ?k13 ?k14 ?_; (case k1 => k_asm); (case k2 => k_asm); (case k4 => k_inst); (case k5 => k_is); (case k6 => k_is); (case k7 => k_is); (case k8 => k_is); (case k9 => k_is); (case k10 => k_is); (case k11 => decide +kernel); (case k12 => k_get); (case k13 => k_is); (case k14 => k_handed); k_whole)))
local macro_rules | `(tactic| k_all) => `(tactic| first | exact List.forall_mem_nil _ | (refine' List.forall_mem_cons.mpr ⟨?a, ?b⟩; (case a => (refine neN ?_; (try dsimp only); first | with_reducible assumption | exact Nat.ne_of_lt (by with_reducible assumption) | exact Nat.ne_of_gt (by with_reducible assumption) | exact Ne.symm (by with_reducible assumption) | (law_clear; omega))); (case b => k_all)))
local macro_rules | `(tactic| k_subL) => `(tactic| first | exact List.forall_mem_nil _ | (refine' List.forall_mem_cons.mpr ⟨?a, ?b⟩; (case a => k_mem); (case b => k_subL)))
local macro_rules | `(tactic| k_lt $h) => `(tactic| (have hRaw := $h; replace $h := allLt_of $h; simp only [AllLt, and_true] at $h:ident))
local macro_rules | `(tactic| k_ne) => `(tactic| (refine neN ?_; (try dsimp only); first | with_reducible assumption | exact lt_get (by with_reducible assumption) (by k_mem) | exact lt_get' (by with_reducible assumption) (by k_mem) | exact Ne.symm (by with_reducible assumption) | exact allNe_get (by assumption) (by k_mem) | exact Ne.symm (allNe_get (by assumption) (by k_mem)) | (law_clear; omega) | omega))
local macro_rules | `(tactic| k_all) => `(tactic| first | exact List.forall_mem_nil _ | exact older_ne (by with_reducible assumption) rfl | exact ne_older (by with_reducible assumption) rfl | (refine' List.forall_mem_cons.mpr ⟨?a, ?b⟩; (case a => k_ne); (case b => k_all)))
section
variable {w : World} {mean : ExcName → Option Value} {mg mb : PySem.Str → Option Value} {dp un : Nat} {gd : Option (List Code)} {cn : PySem.Str} {cs : Scope} {a : Addr} {ccd : Value} {cl : List (PySem.Str × Addr)} {outer : List Env} {A₀ : Around} {base h₀ : Heap} {L : Addr} {m : PySem.Str → Option Value} {s : Shared} {Q E : Value → Shared → Prop}
local macro_rules | `(tactic| walk_at "eval ListComp") => `(tactic| (k_here; (with_reducible apply comp_J); (case hclos => with_unfolding_all rfl); (case hcell => decide); (case hkind => with_unfolding_all rfl); (case hnames => decide); (case hx => with_unfolding_all rfl); (case hs => intro _; with_unfolding_all rfl)))
local macro_rules | `(tactic| walk_at "exec Assign cons ListComp") => `(tactic| (k_here; (with_reducible apply assign_J); (case hsw => with_unfolding_all rfl); (case hclos => with_unfolding_all rfl); (case hcell => decide); (case hkind => with_unfolding_all rfl); (case hnames => decide); (case hx => with_unfolding_all rfl); (case hy => with_unfolding_all rfl); (case hp => with_unfolding_all rfl); (case hs => intro _; with_unfolding_all rfl)))

set_option maxHeartbeats 8000000 in
theorem fields_find (C : Cx w mean mg mb dp un 20 200 cs A₀ base h₀ outer L m s.heap)
   {f fd ft doc rw bs : Addr} {h1 h2 : Int} {t1 t2 t5 : Tok} {nt : Nat} {es : Array DictEntry} {ep nl : Nat} {its : Array Value}
   (N : News h₀ L s.heap [(f, instObj 697 fd), (fd, dictOf [⟨h1, .str "_deprecated_wildcard_use" t1, .bool false⟩, ⟨h2, .str "fields" t2, .ref ft⟩] 2), (ft, { cls := .type "tuple", data := .seq #[.str "row" t5] nt }), (doc, ({ cls := .type "dict", data := .dict es ep } : Obj)), (rw, ({ cls := .type "list", data := .seq its nl } : Obj))])
   (hdoc : Obj.IsDictOf (PySem.strKind P0 w) ({ cls := .type "dict", data := .dict es ep } : Obj) [(("row" : PySem.Str), Value.ref rw), (("beside" : PySem.Str), Value.ref bs)]) (hlo : (doc == sysModules) = false)
   (ret : ∀ l r dd p c h1 h2 h3 t1 t2 t3 h' tk', Ext s.heap h' → s.heap.get? l = none → s.heap.get? r = none → s.heap.get? dd = none → h'.get? l = some (LCg.lst [.ref r]) → h'.get? r = some (instObj 209 dd) → h'.get? dd = some (DatumObj (.ref rw) p c h1 h2 h3 t1 t2 t3) → Q (.ref l) { s with heap := h', toks := tk' }) :
   wpAny (model P0 w) (ktrTop dp un gd cn cs L a ccd cl outer) (call (.ref 626) [.ref f, .ref doc] []) Q E s := by
  w_top off
  obtain ⟨B, F, X, T, hk, hd, hu⟩ := C
  refine wpAny_call ?_
  k_dflt (refine' code_defG ?k1 ?k2 ?k3 ?k4 ?k5 ?kA ?kF ?kK ?k6 ?k7 ?k8 ?k9 ?kB ?_ ?c2 ?c3 ?c4 ?c5; (case kA => exact rfl); (case kF => exact rfl); (case kK => assumption); (case k1 => k_asm); (case k2 => k_asm); (case k3 => k_asm); (case k4 => k_asm); (case k5 => k_asm); (case k6 => k_is); (case k7 => k_is); (case k8 => ktr_room); (case k9 => exact BindsTo.of_eq rfl); (case c5 => decide); (case kB => exact locs rfl); (case c2 => exact rfl); (case c3 => exact rfl); (case c4 => exact rfl); k_whole; intro g' L' h' FG' F' N' B' X' T' kG'; (try dsimp only); (try k_fold))
  k_steps
  refine src_JA (srcs := [ft]) (n := 1) (P := fun i v => #[Value.str "row" t5][i]? = some v) (fun BB X vs ys hh => ys.length = vs.length ∧ ∀ y ∈ ys, DatB BB X hh y (.ref rw)) ?S (by decide) (Fr.ns (by assumption)) ?hLs ?_ ?_ ?_ ?_
  case hLs => exact fun q => (News.ne_L (by assumption) (by k_mem)) (List.mem_singleton.mp q).symm
  case S => exact isSrc_tuple (l := ft) (items := #[.str "row" t5]) rfl ⟨_, (News.get (by assumption) (by k_mem)), rfl, _, rfl⟩
  · exact fun X vs ys h h' j k => ⟨j.1, fun y hy => (j.2 y hy).ext k⟩
  · exact fun X => ⟨rfl, fun y hy => nomatch hy⟩
  · intro X C oC v vs ys h tk m₃ E' hlt hP hoC hx hk hC gC CX lv lC lX hj
    have e : vs.length = 0 := Nat.lt_one_iff.mp hlt
    rw [e] at hP
    obtain rfl : Value.str "row" t5 = v := by simpa using hP
    refine wpAny_tests_nil ⟨h, tk, rfl, KeepL.rfl', ?_⟩
    simp only [if_true]
    have kF2 := fr_L (by assumption) hk
    have kN2 := news_at (by assumption) kF2 (news_L (by assumption) hk) gC hC
    have kE := InElt.start h

    k_steps

    (rename InElt _ _ => kEE)
    refine Elt.intro (.of_ext kEE) ⟨by simp [hj.1], fun y hy => ?_⟩
    rcases List.mem_append.mp hy with hy | hy
    · exact (hj.2 y hy).ext fun b o _ e => kEE b o e
    · obtain rfl := List.mem_singleton.mp hy
      refine DatB.mk lC lX ?_ ?_ (News.get (by assumption) (by k_mem)) (News.get (by assumption) (by k_mem))
      all_goals omega
  · intro D h' tk ys vs X hD0 hD hlen hP hj DX hns hk
    obtain ⟨y, rfl⟩ : ∃ y, ys = [y] := by
      match ys, hj.1.trans hlen with
      | [y], _ => exact ⟨y, rfl⟩
    obtain ⟨r, dd, p, c, k1, k2, k3, u1, u2, u3, rfl, b1, b2, x1, x2, g1, g2⟩ := hj.2 y (.head _)
    have kF3 := fr_bound (by assumption) hns hk
    have kN3 := news_up (by assumption) (news_up (by assumption) (news_at (by assumption) kF3 (news_bound (by assumption) hk) hD0 hD) b2 g2) b1 g1
    have q1 := lt_news (by assumption) b1
    have q2 := lt_news (by assumption) b2
    have q3 := ne_new (by assumption) hD0
    simp only [AllLt, AllNe, and_true] at q1 q2 q3
    dsimp only
    k_steps
    refine src_J (srcs := [D]) (n := 1) (P := fun i v => #[Value.ref r][i]? = some v) (fun BB X vs ys hh => ys = vs) ?S (by decide) (Fr.ns (by assumption)) ?hLs ?_ ?_ ?_ ?_
    case hLs => exact fun q => (News.ne_L (a := D) (by assumption) (by k_mem)) (List.mem_singleton.mp q).symm
    case S => exact isSrc_list (l := D) (items := #[Value.ref r]) rfl ⟨_, (News.get (by assumption) (by k_mem)), rfl, _, rfl⟩
    · exact fun X vs ys h h' j k => j
    · exact fun X => rfl
    · intro X C oC v vs ys h tk m₃ E' hlt hP hoC hx hk hC gC CX lv lC lX hj
      have e : vs.length = 0 := Nat.lt_one_iff.mp hlt
      rw [e] at hP
      obtain rfl : Value.ref r = v := by simpa using hP
      refine wpAny_tests_one ?_
      have kF2 := fr_L (by assumption) hk
      have kN2 := news_at (by assumption) kF2 (news_L (by assumption) hk) gC hC
      have kE := InElt.start h
      k_steps
      refine ⟨_, _, rfl, KeepL.rfl', ?_⟩
      simp only [if_true, Bool.not_false]
      k_steps
      exact Elt.intro KeepL.rfl' (by rw [hj])
    · intro D2 h2' tk2 ys vs X2 hD20 hD2 hlen2 hP2 hj2 DX2 hk2
      have : ys = [.ref r] := by
        rw [hj2]
        match vs, hlen2 with
        | [v], _ => simpa using (hP2 0 v rfl).symm
      subst this
      have kF4 := fr_L (by assumption) hk2
      have kN4 := news_at (by assumption) kF4 (news_L (by assumption) hk2) hD20 hD2
      have q4 := ne_new (by assumption) hD20
      simp only [AllNe, and_true] at q4
      k_steps
      refine' ret _ _ _ _ _ _ _ _ _ _ _ _ _ ?a1 ?a2 ?a3 ?a4 ?a5 ?a6 ?a7
      case a5 => exact News.get (by assumption) (by k_mem)
      case a6 => exact News.get (by assumption) (by k_mem)
      case a7 => exact News.get (by assumption) (by k_mem)
      case a1 => exact ext_of N kG' (by assumption) (by assumption) (by k_subL)
      case a2 => exact gone' kG' (by assumption) (by k_mem) (by k_all)
      case a3 => exact gone' kG' (by assumption) (by k_mem) (by k_all)
      case a4 => exact gone' kG' (by assumption) (by k_mem) (by k_all)
end
end Mine
end
section
open PySem PySem.W PySem.Spec PySem.Calls PyProof.Rows
set_option Elab.async false
set_option maxRecDepth 100000
namespace Mine
local macro_rules | `(tactic| k_in) => `(tactic| first | k_in_fast | assumption | exact Frag.In.keeps (by k_asm) (Fr.keep (by k_asm)))
local macro_rules | `(tactic| walk_at "callWith ref") => `(tactic| (k_here; (with_reducible show wpAny _ _ (callWith _ (Value.ref _) _ _ (backToKw _ (keywordEach (_ :: _) _))) _ _ _); k_dflt (refine' callWith_KW ?k1 ?k2 ?k3 ?_; (case k1 => k_asm); (case k2 => k_is); (case k3 => exact rfl); k_whole)))
local macro_rules | `(tactic| k_room) => `(tactic| ktr_room)
local macro_rules | `(tactic| k_units) => `(tactic| ktr_units)
local macro_rules | `(tactic| walk_at "call builtin:len") => `(tactic| (k_here; refine len_news (by k_asm) (by k_mem) (by omega) ?_))
local macro_rules | `(tactic| walk_at "subscriptTail") => `(tactic| (k_here; (dsimp only); (fail_if_success (with_reducible show wpAny _ _ (subscriptTail _ _ (Value.ref _) (Value.int _ _)) _ _ _)); k_dflt (refine' range_slice ?ka ?kb ?F ?N ?R ?_; (case R => assumption); (case ka => assumption); (case kb => assumption); (case F => k_asm); (case N => k_asm)); intros))
local macro_rules | `(tactic| walk_at "subscriptTail") => `(tactic| (k_here; (try dsimp only); (with_reducible show wpAny _ _ (subscriptTail _ _ (Value.ref _) (Value.int _ _)) _ _ _); k_dflt (refine' item_news ?N ?M ?X ?h0 ?hf ?_; (case X => assumption); (case N => k_asm); (case M => k_mem); (case h0 => omega); (case hf => omega))))
local macro_rules | `(tactic| walk_at "subscriptTail") => `(tactic| (k_here; (fail_if_success (with_reducible show wpAny _ _ (subscriptTail (PySem.Expr.Name _ _) _ _ _) _ _ _)); k_dflt (refine kba_turn (value' := PySem.Expr.Name (PySem.Str.ofString "_") ⟨0, 0, 0, 0⟩) (fun _ => rfl) ?_)))
local macro_rules | `(tactic| k_all) => `(tactic| first | exact List.forall_mem_nil _ | (refine' List.forall_mem_cons.mpr ⟨?a, ?b⟩; (case a => (refine neN ?_; (try dsimp only); first | with_reducible assumption | exact Nat.ne_of_lt (by with_reducible assumption) | exact Nat.ne_of_gt (by with_reducible assumption) | exact Ne.symm (by with_reducible assumption) | (law_clear; omega))); (case b => k_all)))
local macro_rules | `(tactic| k_subL) => `(tactic| first | exact List.forall_mem_nil _ | (refine' List.forall_mem_cons.mpr ⟨?a, ?b⟩; (case a => k_mem); (case b => k_subL)))
local macro_rules | `(tactic| k_lt $h) => `(tactic| (have hRaw := $h; replace $h := allLt_of $h; simp only [AllLt, and_true] at $h:ident))
local macro_rules | `(tactic| k_ne) => `(tactic| (refine neN ?_; (try dsimp only); first | with_reducible assumption | exact lt_get (by with_reducible assumption) (by k_mem) | exact lt_get' (by with_reducible assumption) (by k_mem) | exact Ne.symm (by with_reducible assumption) | exact allNe_get (by assumption) (by k_mem) | exact Ne.symm (allNe_get (by assumption) (by k_mem)) | (law_clear; omega) | omega))
local macro_rules | `(tactic| k_all) => `(tactic| first | exact List.forall_mem_nil _ | exact older_ne (by with_reducible assumption) rfl | exact ne_older (by with_reducible assumption) rfl | (refine' List.forall_mem_cons.mpr ⟨?a, ?b⟩; (case a => k_ne); (case b => k_all)))
section
variable {w : World} {mean : ExcName → Option Value} {mg mb : PySem.Str → Option Value} {dp un : Nat} {gd : Option (List Code)} {cn : PySem.Str} {cs : Scope} {a : Addr} {ccd : Value} {cl : List (PySem.Str × Addr)} {outer : List Env} {A₀ : Around} {base h₀ : Heap} {L : Addr} {m : PySem.Str → Option Value} {s : Shared} {Q E : Value → Shared → Prop}
local macro_rules | `(tactic| walk_at "eval ListComp") => `(tactic| (k_here; (with_reducible apply comp_J); (case hclos => with_unfolding_all rfl); (case hcell => decide); (case hkind => with_unfolding_all rfl); (case hnames => decide); (case hx => with_unfolding_all rfl); (case hs => intro _; with_unfolding_all rfl)))
local macro_rules | `(tactic| walk_at "exec Assign cons ListComp") => `(tactic| (k_here; (with_reducible apply assign_J); (case hsw => with_unfolding_all rfl); (case hclos => with_unfolding_all rfl); (case hcell => decide); (case hkind => with_unfolding_all rfl); (case hnames => decide); (case hx => with_unfolding_all rfl); (case hy => with_unfolding_all rfl); (case hp => with_unfolding_all rfl); (case hs => intro _; with_unfolding_all rfl)))

set_option maxHeartbeats 8000000 in
theorem slice_find (C : Cx w mean mg mb dp un 20 200 cs A₀ base h₀ outer L m s.heap)
   {f fd d dd rw : Addr} {h1 h2 h3 h4 k1 k2 k3 : Int} {t1 t2 t3 t4 u1 u2 u3 tk : Tok} {p c : Value} {k : Nat} {its : Array Value} {nl : Nat}
   (N : News h₀ L s.heap [(f, instObj 865 fd), (fd, dictOf [⟨h1, .str "_deprecated_wildcard_use" t1, .bool false⟩, ⟨h2, .str "start" t2, .int k tk⟩, ⟨h3, .str "end" t3, .none⟩, ⟨h4, .str "step" t4, .none⟩] 4), (d, instObj 209 dd), (dd, DatumObj (.ref rw) p c k1 k2 k3 u1 u2 u3), (rw, ({ cls := .type "list", data := .seq its nl } : Obj))])
   (hle : k ≤ its.size) (hsz : its.size ≤ 5)
   (ret : ∀ l ys h' tk', Ext s.heap h' → s.heap.get? l = none → h'.get? l = some (LCg.lst ys) → Paired (DatN s.heap h') ys (its.toList.drop k) → Q (.ref l) { s with heap := h', toks := tk' }) :
   wpAny (model P0 w) (ktrTop dp un gd cn cs L a ccd cl outer) (call (.ref 829) [.ref f, .ref d] []) Q E s := by
  w_top off
  obtain ⟨B, F, X, T, hk, hd, hu⟩ := C
  refine wpAny_call ?_
  k_dflt (refine' code_defCG ?k1 ?k2 ?k3 ?k4 ?k5 ?kA ?kF ?kK ?k6 ?k7 ?k8 ?k9 ?kB ?kD ?_ ?c2 ?c3 ?c4; (case kA => exact rfl); (case kF => exact rfl); (case kK => assumption); (case k1 => k_asm); (case k2 => k_asm); (case k3 => k_asm); (case k4 => k_asm); (case k5 => k_asm); (case k6 => k_is); (case k7 => k_is); (case k8 => ktr_room); (case k9 => exact BindsTo.of_eq rfl); (case kB => exact rfl); (case kD => decide +kernel); (case c2 => exact rfl); (case c3 => exact rfl); (case c4 => exact rfl); k_whole; intro g' L' h' tk' cells' FG' F' N' Y' B' X' T' l1 kG'; (try k_lt l1); k_cells Y'; (try simp only [List.cons_append, List.nil_append] at N'); (try dsimp only); (try k_fold))
  k_steps
  have e0 := ext_of N kG' (by assumption) (by assumption) (by k_subL)
  refine src_J (srcs := []) (n := its.size - k) (P := fun i v => ∃ t, v = .int ((k : Int) + (i : Int)) t) (fun BB X vs ys hh => ys.length = vs.length ∧ ∀ j y v, ys[j]? = some y → its[k + j]? = some v → DatB BB X hh y v) ?S ?_ (Fr.ns (by assumption)) (by simp) ?_ ?_ ?_ ?_
  case S => exact isSrc_range rfl (by assumption) (range_small k its.size hsz) (range_size k its.size)
  · exact Nat.le_trans (Nat.le_trans (Nat.sub_le _ _) hsz) (by decide)
  · exact fun X vs ys h h' j k => ⟨j.1, fun a y v e1 e2 => (j.2 a y v e1 e2).ext k⟩
  · exact fun X => ⟨rfl, fun a y v e1 => nomatch e1⟩
  · intro X C oC v vs ys h tk m₃ E' hlt hP hoC hx hk hC gC CX lv lC lX hj
    obtain ⟨ti, rfl⟩ := hP
    obtain ⟨x, hx'⟩ : ∃ x, its[k + vs.length]? = some x := ⟨_, Array.getElem?_eq_getElem (by omega)⟩
    have hx2 : its[((k : Int) + (vs.length : Int)).toNat]? = some x := by
      rw [show ((k : Int) + (vs.length : Int)).toNat = k + vs.length by omega]; exact hx'
    refine wpAny_tests_nil ⟨h, tk, rfl, KeepL.rfl', ?_⟩
    simp only [if_true]
    have kF2 := fr_L (by assumption) hk
    have kN2 := news_at (by assumption) kF2 (news_L (by assumption) hk) gC hC
    refine wpAny_mono (keep_all (P := fun b y h₅ => DatC C h₅ y x) kF2 kN2 (.head _) fun b ob N₂ => ?_) (fun y s₅ hy => ?_) fun _ _ e => e
    · clear kN2
      k_steps
      refine Res.intro (by assumption) (News.get (by assumption) (by k_mem)) (DatC.mk ?_ ?_ (News.get (by assumption) (by k_mem)) (News.get (by assumption) (by k_mem)))
      all_goals (law_clear; omega)
    · obtain ⟨h5, tk5, rfl, kk, hp⟩ := hy
      have hd := hp C oC hC (kN2 _ (.head _)).2.1 (kN2 _ (.head _)).2.2
      refine Elt.intro kk ⟨by simp [hj.1], fun a y' v e1 e2 => ?_⟩
      rcases Nat.lt_or_ge a ys.length with hlt | hge
      · rw [List.getElem?_append_left hlt] at e1
        exact (hj.2 a y' v e1 e2).ext fun b o hb e => kk.1 b o (by simp) (fun q => hb (q ▸ lv)) e
      · have : a = ys.length := by
          rcases Nat.lt_or_ge ys.length a with h1 | h1
          · rw [List.getElem?_eq_none (by simp; omega)] at e1; cases e1
          · omega
        subst this
        rw [hj.1, hx'] at e2
        cases e2
        simp at e1
        subst e1
        exact hd.toB lC lX
  · intro D h' tk ys vs X hD0 hD hlen hP hj DX hk
    have kF3 := fr_L (by assumption) hk
    have kN3 := news_at (by assumption) kF3 (news_L (by assumption) hk) hD0 hD
    have q3 := ne_new (by assumption) hD0
    simp only [AllNe, and_true] at q3
    k_steps
    exact ret D ys h' tk (ext_of N kG' (by assumption) (by assumption) (by k_subL)) (none_of_ext e0 hD0) hD (paired_of (by simp [hj.1, hlen]) fun j y v a1 a2 => (hj.2 j y v a1 (by simpa using a2)).toN e0)
end
end Mine
end
section
open PySem PySem.W PySem.Spec PySem.Calls PyProof.Rows
set_option Elab.async false
set_option maxRecDepth 100000
namespace Mine
local macro_rules | `(tactic| k_in) => `(tactic| first | k_in_fast | assumption | exact Frag.In.keeps (by k_asm) (Fr.keep (by k_asm)))
local macro_rules | `(tactic| walk_at "callWith ref") => `(tactic| (k_here; (with_reducible show wpAny _ _ (callWith _ (Value.ref _) _ _ (backToKw _ (keywordEach (_ :: _) _))) _ _ _); k_dflt (refine' callWith_KW ?k1 ?k2 ?k3 ?_; (case k1 => k_asm); (case k2 => k_is); (case k3 => exact rfl); k_whole)))
local macro_rules | `(tactic| k_room) => `(tactic| ktr_room)
local macro_rules | `(tactic| k_units) => `(tactic| ktr_units)
local macro_rules | `(tactic| walk_at "call builtin:len") => `(tactic| (k_here; refine len_news (by k_asm) (by k_mem) (by omega) ?_))
local macro_rules | `(tactic| walk_at "subscriptTail") => `(tactic| (k_here; (dsimp only); k_dflt (refine' range_slice ?ka ?kb ?F ?N ?R ?_; (case R => assumption); (case ka => assumption); (case kb => assumption); (case F => k_asm); (case N => k_asm)); intros))
local macro_rules | `(tactic| walk_at "subscriptTail") => `(tactic| (k_here; (try dsimp only); k_dflt (refine' item_news ?N ?M ?X ?h0 ?hf ?_; (case X => assumption); (case N => k_asm); (case M => k_mem); (case h0 => omega); (case hf => omega))))
local macro_rules | `(tactic| k_all) => `(tactic| first | exact List.forall_mem_nil _ | (refine' List.forall_mem_cons.mpr ⟨?a, ?b⟩; (case a => (refine neN ?_; (try dsimp only); first | with_reducible assumption | exact Nat.ne_of_lt (by with_reducible assumption) | exact Nat.ne_of_gt (by with_reducible assumption) | exact Ne.symm (by with_reducible assumption) | (law_clear; omega))); (case b => k_all)))
local macro_rules | `(tactic| k_subL) => `(tactic| first | exact List.forall_mem_nil _ | (refine' List.forall_mem_cons.mpr ⟨?a, ?b⟩; (case a => k_mem); (case b => k_subL)))
local macro_rules | `(tactic| k_lt $h) => `(tactic| (have hRaw := $h; replace $h := allLt_of $h; simp only [AllLt, and_true] at $h:ident))
local macro_rules | `(tactic| k_ne) => `(tactic| (refine neN ?_; (try dsimp only); first | with_reducible assumption | exact lt_get (by with_reducible assumption) (by k_mem) | exact lt_get' (by with_reducible assumption) (by k_mem) | exact Ne.symm (by with_reducible assumption) | exact allNe_get (by assumption) (by k_mem) | exact Ne.symm (allNe_get (by assumption) (by k_mem)) | (law_clear; omega) | omega))
local macro_rules | `(tactic| k_all) => `(tactic| first | exact List.forall_mem_nil _ | exact older_ne (by with_reducible assumption) rfl | exact ne_older (by with_reducible assumption) rfl | (refine' List.forall_mem_cons.mpr ⟨?a, ?b⟩; (case a => k_ne); (case b => k_all)))
section
variable {w : World} {mean : ExcName → Option Value} {mg mb : PySem.Str → Option Value} {dp un : Nat} {gd : Option (List Code)} {cn : PySem.Str} {cs : Scope} {a : Addr} {ccd : Value} {cl : List (PySem.Str × Addr)} {outer : List Env} {A₀ : Around} {base h₀ : Heap} {L : Addr} {m : PySem.Str → Option Value} {s : Shared} {Q E : Value → Shared → Prop}
local macro_rules | `(tactic| walk_at "eval ListComp") => `(tactic| (k_here; (with_reducible apply comp_J); (case hclos => with_unfolding_all rfl); (case hcell => decide); (case hkind => with_unfolding_all rfl); (case hnames => decide); (case hx => with_unfolding_all rfl); (case hs => intro _; with_unfolding_all rfl)))
local macro_rules | `(tactic| walk_at "exec Assign cons ListComp") => `(tactic| (k_here; (with_reducible apply assign_J); (case hsw => with_unfolding_all rfl); (case hclos => with_unfolding_all rfl); (case hcell => decide); (case hkind => with_unfolding_all rfl); (case hnames => decide); (case hx => with_unfolding_all rfl); (case hy => with_unfolding_all rfl); (case hp => with_unfolding_all rfl); (case hs => intro _; with_unfolding_all rfl)))

theorem expr_find_v (C : Cx w mean mg mb dp un 20 200 cs A₀ base h₀ outer L m s.heap)
   {e ed th thd d dd : Addr} {p c x y : Value} {b : Bool} {h1 h2 h3 h4 h5 h6 : Int} {t1 t2 t3 t4 t5 t6 to : Tok} (hxy : LtV x y b)
   (N : News h₀ L s.heap [(e, instObj 971 ed), (ed, dictOf [⟨h4, .str "target" t4, .ref th⟩, ⟨h5, .str "op" t5, .str "<" to⟩, ⟨h6, .str "value" t6, y⟩] 3), (th, instObj 333 thd), (thd, dictOf [] 0), (d, instObj 209 dd), (dd, DatumObj x p c h1 h2 h3 t1 t2 t3)])
   (ret1 : b = true → ∀ l h' tk', Ext s.heap h' → s.heap.get? l = none → h'.get? l = some (W.listOf #[.ref d] 1) → Q (.ref l) { s with heap := h', toks := tk' })
   (ret0 : b = false → ∀ l h' tk', Ext s.heap h' → s.heap.get? l = none → h'.get? l = some (W.listOf #[] 0) → Q (.ref l) { s with heap := h', toks := tk' }) :
   wpAny (model P0 w) (ktrTop dp un gd cn cs L a ccd cl outer) (call (.ref 949) [.ref e, .ref d] []) Q E s := by
  rcases hxy with ⟨a, ta, c', tc, rfl, rfl, rfl⟩ | ⟨a, ta, c', tc, rfl, rfl, rfl⟩
  · exact expr_find C N (fun l h' tk' z => ret1 (decide_eq_true z) l h' tk') (fun l h' tk' z => ret0 (decide_eq_false z) l h' tk')
  · exact expr_find_s C N (fun l h' tk' z => ret1 (decide_eq_true z) l h' tk') (fun l h' tk' z => ret0 (decide_eq_false z) l h' tk')

local macro_rules | `(tactic| walk_at "call ref") => `(tactic| (k_here; k_dflt (refine' slice_find ⟨?cB, ?cF, ?cX, ?cT, ?ck, ?cd, ?cu⟩ ?cN ?cle ?csz ?_; (case cB => k_asm); (case cF => k_asm); (case cX => k_asm); (case cT => k_asm); (case ck => rfl); (case cd => ktr_room); (case cu => ktr_units); (case cN => (refine News.sub (by k_asm) ?_; k_subL)); (case cle => assumption); (case csz => assumption)); intro l9 ys9 h9 tk9 e9 n9 g9 dat9; have N9 := news_add (by assumption) (by assumption) e9 n9 g9; have F9 := Fr.keeps (by assumption) e9))

local macro_rules | `(tactic| walk_at "call ref") => `(tactic| (k_here; k_dflt (refine' expr_find_v ⟨?cB, ?cF, ?cX, ?cT, ?ck, ?cd, ?cu⟩ ?cl ?cN ?r1 ?r0; (case cB => k_asm); (case cF => k_asm); (case cX => k_asm); (case cT => k_asm); (case ck => rfl); (case cd => ktr_room); (case cu => ktr_units); (case cl => assumption); (case cN => (refine News.sub (by k_asm) ?_; k_subL)); (case' r1 => intro z9 l9 h9 tk9 e9 n9 g9; have N9 := news_add (by assumption) (by assumption) e9 n9 g9; have F9 := Fr.keeps (by assumption) e9); (case' r0 => intro z9 l9 h9 tk9 e9 n9 g9; have N9 := news_add (by assumption) (by assumption) e9 n9 g9; have F9 := Fr.keeps (by assumption) e9))))
set_option maxHeartbeats 8000000 in
theorem where_find (C : Cx w mean mg mb dp un 60 600 cs A₀ base h₀ outer L m s.heap)
   {wh whd sl sd ex ed th thd d dd rw : Addr} {g1 g2 h1 h2 h3 h4 i1 i2 i3 k1 k2 k3 : Int} {r1 r2 t1 t2 t3 t4 u1 u2 u3 v1 v2 v3 tk to : Tok} {p c yv : Value} {k : Nat} {its : Array Value} {nl : Nat}
   (N : News h₀ L s.heap [(wh, instObj 486 whd), (whd, dictOf [⟨g1, .str "left" r1, .ref sl⟩, ⟨g2, .str "right" r2, .ref ex⟩] 2),
     (sl, instObj 865 sd), (sd, dictOf [⟨h1, .str "_deprecated_wildcard_use" t1, .bool false⟩, ⟨h2, .str "start" t2, .int k tk⟩, ⟨h3, .str "end" t3, .none⟩, ⟨h4, .str "step" t4, .none⟩] 4),
     (ex, instObj 971 ed), (ed, dictOf [⟨i1, .str "target" v1, .ref th⟩, ⟨i2, .str "op" v2, .str "<" to⟩, ⟨i3, .str "value" v3, yv⟩] 3), (th, instObj 333 thd), (thd, dictOf [] 0),
     (d, instObj 209 dd), (dd, DatumObj (.ref rw) p c k1 k2 k3 u1 u2 u3), (rw, ({ cls := .type "list", data := .seq its nl } : Obj))])
   (hle : k ≤ its.size) (hsz : its.size ≤ 5) (lt : Value → Bool) (hlt : ∀ x ∈ its.toList.drop k, LtV x yv (lt x))
   (ret : ∀ l zs h' tk', Ext s.heap h' → s.heap.get? l = none → h'.get? l = some (LCg.lst zs) → Paired (DatN s.heap h') zs ((its.toList.drop k).filter lt) → Q (.ref l) { s with heap := h', toks := tk' }) :
   wpAny (model P0 w) (ktrTop dp un gd cn cs L a ccd cl outer) (call (.ref 448) [.ref wh, .ref d] []) Q E s := by
  w_top off
  obtain ⟨B, F, X, T, hk, hd, hu⟩ := C
  refine wpAny_call ?_
  k_dflt (refine' code_defCG ?k1 ?k2 ?k3 ?k4 ?k5 ?kA ?kF ?kK ?k6 ?k7 ?k8 ?k9 ?kB ?kD ?_ ?c2 ?c3 ?c4; (case kA => exact rfl); (case kF => exact rfl); (case kK => assumption); (case k1 => k_asm); (case k2 => k_asm); (case k3 => k_asm); (case k4 => k_asm); (case k5 => k_asm); (case k6 => k_is); (case k7 => k_is); (case k8 => ktr_room); (case k9 => exact BindsTo.of_eq rfl); (case kB => exact rfl); (case kD => decide +kernel); (case c2 => exact rfl); (case c3 => exact rfl); (case c4 => exact rfl); k_whole; intro g' L' h' tk' cells' FG' F' N' Y' B' X' T' l1 kG'; (try k_lt l1); k_cells Y'; (try simp only [List.cons_append, List.nil_append] at N'); (try dsimp only); (try k_fold))
  k_steps
  rename_i l9 ys h9 tk9 e9 n9 g9 dat N9 F9
  have e0 := ext_of N kG' F9 N9 (by k_subL)
  have e00 : Ext s.heap h' := ext_of N kG' F' N' (by k_subL)
  have hlen9 : ys.length = (its.toList.drop k).length := dat.length
  have hy5 : ys.length ≤ 5 := by rw [hlen9]; simp; omega
  refine src_J (srcs := [l9]) (n := ys.length) (P := fun i v => ys.toArray[i]? = some v) (fun BB X vs zs hh => zs = (((ys.zip (its.toList.drop k)).take vs.length).filter fun p => lt p.2).map (·.1)) ?S ?_ F9.ns ?hLs ?_ ?_ ?_ ?_
  case S => exact isSrc_list (l := l9) (items := ys.toArray) rfl ⟨_, g9, rfl, _, rfl⟩
  case hLs => exact fun q => (News.ne_L N9 (.head _)) (List.mem_singleton.mp q).symm
  · exact Nat.le_trans hy5 (by decide)
  · exact fun X vs ys h h' j k => j
  · exact fun X => by simp
  · intro X C oC v vs zs h tk m₃ E' hlt1 hP hoC hx hk hC gC CX lv lC lX hj
    have hP' : ys[vs.length]? = some v := by simpa using hP
    obtain ⟨x, hxw, r, rd, pp, cc, a1, a2, a3, b1, b2, b3, rfl, f1, f2, q1, q2⟩ := Paired.get dat _ _ hP'
    have hlx := hlt x (List.mem_of_getElem? hxw)
    have f1' : s.heap.get? r = none := none_of_ext e00 f1
    have kF2 := fr_L F9 hk
    have kN2 := news_at F9 kF2 (news_L N9 hk) gC hC
    have old : ∀ {z : Addr} {o : Obj}, h'.get? z = none → h9.get? z = some o → News g' L' h [(z, o)] := fun {z o} hz ho p hp => by
      obtain rfl := List.mem_singleton.mp hp
      have hzL : z ≠ L' := fun q => by
        obtain ⟨oL, _, _, e, _⟩ := F'.ns
        rw [← q, hz] at e; cases e
      refine ⟨hk.1 _ _ (by simp) hzL ho, hzL, ?_⟩
      cases e : g'.get? z with
      | none => rfl
      | some o' => have := F'.keep _ _ e; rw [hz] at this; cases this
    have n1 := old f1 q1
    have n2 := old f2 q2
    have kN3 : News g' L' h ((r, instObj 209 rd) :: (rd, DatumObj x pp cc a1 a2 a3 b1 b2 b3) :: (C, oC) :: _) := News.both n1 (News.both n2 kN2)
    clear kN2 n1 n2
    refine wpAny_mono (keep_all (P := fun b y h₅ => y = lt x) kF2 kN3 (.head _) fun b ob N₂ => ?_) (fun y s₅ hy => ?_) fun _ _ e => e
    · clear kN3
      refine wpAny_tests_one ?_
      k_steps
      all_goals exact Res.intro (by assumption) (News.get (by assumption) (by k_mem)) (by first | exact (by assumption : lt x = true).symm | exact (by assumption : lt x = false).symm)
    · obtain ⟨h5, tk5, rfl, kk, hp⟩ := hy
      have hd := hp C oC hC (kN3 _ (.tail _ (.tail _ (.head _)))).2.1 (kN3 _ (.tail _ (.tail _ (.head _)))).2.2
      subst hd
      refine ⟨h5, tk5, rfl, kk, ?_⟩
      have hz : (ys.zip (its.toList.drop k))[vs.length]? = some (Value.ref r, x) := by
        rw [List.getElem?_zip_eq_some]; exact ⟨hP', hxw⟩
      have hstep := take_succ_filter (fun p : Value × Value => lt p.2) (ys.zip (its.toList.drop k)) vs.length _ hz
      have hl1 : (vs ++ [Value.ref r]).length = vs.length + 1 := by simp
      cases hq : lt x with
      | false =>
        simp only [Bool.false_eq_true, if_false]
        rw [hl1, hstep, hj]
        simp [hq]
      | true =>
        simp only [if_true]
        have F5 := fr_L kF2 kk
        have N5 := news_L kN3 kk
        clear kN3
        k_steps
        refine Elt.intro KeepL.rfl' ?_
        rw [hl1, hstep, hj]
        simp [hq]
  · intro D hD' tkD zs vs X hD0 hD hlen hP hj DX hk
    have kF3 := fr_L F9 hk
    have kN3 := news_at F9 kF3 (news_L N9 hk) hD0 hD
    have hzs : zs = ((ys.zip (its.toList.drop k)).filter fun p => lt p.2).map (·.1) := by
      rw [hj, hlen, List.take_of_length_le (by rw [List.length_zip, hlen9]; simp)]
    have q3 := ne_new N9 hD0
    simp only [AllNe, and_true] at q3
    have up : ∀ {z : Addr} {o : Obj}, h'.get? z = none → h9.get? z = some o → hD'.get? z = some o := fun {z o} hz ho => by
      have hzL : z ≠ L' := fun q => by
        obtain ⟨oL, _, _, e, _⟩ := F'.ns
        rw [← q, hz] at e; cases e
      exact hk.1 _ _ (by simp) hzL ho
    k_steps
    refine ret D zs hD' tkD (ext_of N kG' (by assumption) (by assumption) (by k_subL)) (none_of_ext e0 hD0) hD ?_
    rw [hzs]
    refine Paired.imp (fun y v hyv => ?_) (Paired.filt lt dat)
    obtain ⟨r, rd, pp, cc, a1, a2, a3, b1, b2, b3, rfl, f1, f2, q1, q2⟩ := hyv
    exact ⟨r, rd, pp, cc, a1, a2, a3, b1, b2, b3, rfl, none_of_ext e00 f1, none_of_ext e00 f2, up f1 q1, up f2 q2⟩
end
end Mine
end
section
open PySem PySem.W PySem.Spec PySem.Calls PyProof.Rows
set_option Elab.async false
set_option maxRecDepth 100000
namespace Mine
local macro_rules | `(tactic| k_in) => `(tactic| first | k_in_fast | assumption | exact Frag.In.keeps (by k_asm) (Fr.keep (by k_asm)))
local macro_rules | `(tactic| walk_at "callWith ref") => `(tactic| (k_here; (with_reducible show wpAny _ _ (callWith _ (Value.ref _) _ _ (backToKw _ (keywordEach (_ :: _) _))) _ _ _); k_dflt (refine' callWith_KW ?k1 ?k2 ?k3 ?_; (case k1 => k_asm); (case k2 => k_is); (case k3 => exact rfl); k_whole)))
local macro_rules | `(tactic| k_room) => `(tactic| ktr_room)
local macro_rules | `(tactic| k_units) => `(tactic| ktr_units)
local macro_rules | `(tactic| walk_at "call builtin:len") => `(tactic| (k_here; refine len_news (by k_asm) (by k_mem) (by omega) ?_))
local macro_rules | `(tactic| walk_at "subscriptTail") => `(tactic| (k_here; (dsimp only); k_dflt (refine' range_slice ?ka ?kb ?F ?N ?R ?_; (case R => assumption); (case ka => assumption); (case kb => assumption); (case F => k_asm); (case N => k_asm)); intros))
local macro_rules | `(tactic| walk_at "subscriptTail") => `(tactic| (k_here; (try dsimp only); k_dflt (refine' item_news ?N ?M ?X ?h0 ?hf ?_; (case X => assumption); (case N => k_asm); (case M => k_mem); (case h0 => omega); (case hf => omega))))
local macro_rules | `(tactic| k_all) => `(tactic| first | exact List.forall_mem_nil _ | (refine' List.forall_mem_cons.mpr ⟨?a, ?b⟩; (case a => (refine neN ?_; (try dsimp only); first | with_reducible assumption | exact Nat.ne_of_lt (by with_reducible assumption) | exact Nat.ne_of_gt (by with_reducible assumption) | exact Ne.symm (by with_reducible assumption) | (law_clear; omega))); (case b => k_all)))
local macro_rules | `(tactic| k_subL) => `(tactic| first | exact List.forall_mem_nil _ | (refine' List.forall_mem_cons.mpr ⟨?a, ?b⟩; (case a => k_mem); (case b => k_subL)))
local macro_rules | `(tactic| k_lt $h) => `(tactic| (have hRaw := $h; replace $h := allLt_of $h; simp only [AllLt, and_true] at $h:ident))
local macro_rules | `(tactic| k_ne) => `(tactic| (refine neN ?_; (try dsimp only); first | with_reducible assumption | exact lt_get (by with_reducible assumption) (by k_mem) | exact lt_get' (by with_reducible assumption) (by k_mem) | exact Ne.symm (by with_reducible assumption) | exact allNe_get (by assumption) (by k_mem) | exact Ne.symm (allNe_get (by assumption) (by k_mem)) | (law_clear; omega) | omega))
local macro_rules | `(tactic| k_all) => `(tactic| first | exact List.forall_mem_nil _ | exact older_ne (by with_reducible assumption) rfl | exact ne_older (by with_reducible assumption) rfl | (refine' List.forall_mem_cons.mpr ⟨?a, ?b⟩; (case a => k_ne); (case b => k_all)))
section
variable {w : World} {mean : ExcName → Option Value} {mg mb : PySem.Str → Option Value} {dp un : Nat} {gd : Option (List Code)} {cn : PySem.Str} {cs : Scope} {a : Addr} {ccd : Value} {cl : List (PySem.Str × Addr)} {outer : List Env} {A₀ : Around} {base h₀ : Heap} {L : Addr} {m : PySem.Str → Option Value} {s : Shared} {Q E : Value → Shared → Prop}
local macro_rules | `(tactic| walk_at "eval ListComp") => `(tactic| (k_here; (with_reducible apply comp_J); (case hclos => with_unfolding_all rfl); (case hcell => decide); (case hkind => with_unfolding_all rfl); (case hnames => decide); (case hx => with_unfolding_all rfl); (case hs => intro _; with_unfolding_all rfl)))
local macro_rules | `(tactic| walk_at "exec Assign cons ListComp") => `(tactic| (k_here; (with_reducible apply assign_J); (case hsw => with_unfolding_all rfl); (case hclos => with_unfolding_all rfl); (case hcell => decide); (case hkind => with_unfolding_all rfl); (case hnames => decide); (case hx => with_unfolding_all rfl); (case hy => with_unfolding_all rfl); (case hp => with_unfolding_all rfl); (case hs => intro _; with_unfolding_all rfl)))

local macro_rules | `(tactic| walk_at "call ref") => `(tactic| (k_here; k_dflt (refine' fields_find ⟨?cB, ?cF, ?cX, ?cT, ?ck, ?cd, ?cu⟩ ?cN ?ch ?cl ?_; (case cB => k_asm); (case cF => k_asm); (case cX => k_asm); (case cT => k_asm); (case ck => rfl); (case cd => ktr_room); (case cu => ktr_units); (case cN => (refine News.sub (by k_asm) ?_; k_subL)); (case ch => assumption); (case cl => assumption)); intro l9 r9 dd9 p9 c9 h91 h92 h93 t91 t92 t93 h9 tk9 e9 n9 nr9 nd9 g9 gr9 gd9; have N8 := news_add (by assumption) (by assumption) e9 nd9 gd9; have N7 := News.both (News.one (news_add (by assumption) (by assumption) e9 nr9 gr9)) N8; have N9 := News.both (News.one (news_add (by assumption) (by assumption) e9 n9 g9)) N7; clear N8 N7; have F9 := Fr.keeps (by assumption) e9))
local macro_rules | `(tactic| walk_at "call ref") => `(tactic| (k_here; k_dflt (refine' where_find ⟨?cB, ?cF, ?cX, ?cT, ?ck, ?cd, ?cu⟩ ?cN ?cle ?csz ?lt ?clt ?_; (case cB => k_asm); (case cF => k_asm); (case cX => k_asm); (case cT => k_asm); (case ck => rfl); (case cd => ktr_room); (case cu => ktr_units); (case cN => (refine News.sub (by k_asm) ?_; k_subL)); (case cle => assumption); (case csz => assumption); (case clt => assumption)); intro l9 zs9 h9 tk9 e9 n9 g9 dat9; have N9 := news_add (by assumption) (by assumption) e9 n9 g9; have F9 := Fr.keeps (by assumption) e9))
local macro_rules | `(tactic| walk_at "eval ListComp") => `(tactic| (k_here; (with_reducible apply comp2_J); (case hclos => with_unfolding_all rfl); (case hcell => decide); (case hkind => with_unfolding_all rfl); (case hnames => decide); (case hx => with_unfolding_all rfl); (case hy => with_unfolding_all rfl); (case hyd => decide); (case hh => rfl); (case hs0 => intro _; with_unfolding_all rfl); (case hs1 => intro _ _; with_unfolding_all rfl)))
set_option maxHeartbeats 8000000 in
theorem child_find (C : Cx w mean mg mb dp un 100 1000 cs A₀ base h₀ outer L m s.heap)
   {ch chd f fd ft doc wh whd sl sd ex ed th thd rw bs : Addr} {f1 f2 c1 c2 g1 g2 h1 h2 h3 h4 i1 i2 i3 : Int} {s1 s2 s3 q1 q2 r1 r2 t1 t2 t3 t4 v1 v2 v3 tk to : Tok} {yv : Value} {k : Nat} {its : Array Value} {nl nt ep : Nat} {es : Array DictEntry}
   (N : News h₀ L s.heap [(ch, instObj 427 chd), (chd, dictOf [⟨c1, .str "left" q1, .ref f⟩, ⟨c2, .str "right" q2, .ref wh⟩] 2),
     (f, instObj 697 fd), (fd, dictOf [⟨f1, .str "_deprecated_wildcard_use" s1, .bool false⟩, ⟨f2, .str "fields" s2, .ref ft⟩] 2), (ft, ({ cls := .type "tuple", data := .seq #[.str "row" s3] nt } : Obj)), (doc, ({ cls := .type "dict", data := .dict es ep } : Obj)),
     (wh, instObj 486 whd), (whd, dictOf [⟨g1, .str "left" r1, .ref sl⟩, ⟨g2, .str "right" r2, .ref ex⟩] 2),
     (sl, instObj 865 sd), (sd, dictOf [⟨h1, .str "_deprecated_wildcard_use" t1, .bool false⟩, ⟨h2, .str "start" t2, .int k tk⟩, ⟨h3, .str "end" t3, .none⟩, ⟨h4, .str "step" t4, .none⟩] 4),
     (ex, instObj 971 ed), (ed, dictOf [⟨i1, .str "target" v1, .ref th⟩, ⟨i2, .str "op" v2, .str "<" to⟩, ⟨i3, .str "value" v3, yv⟩] 3), (th, instObj 333 thd), (thd, dictOf [] 0),
     (rw, ({ cls := .type "list", data := .seq its nl } : Obj))])
   (hdoc : Obj.IsDictOf (PySem.strKind P0 w) ({ cls := .type "dict", data := .dict es ep } : Obj) [(("row" : PySem.Str), Value.ref rw), (("beside" : PySem.Str), Value.ref bs)]) (hlo : (doc == sysModules) = false)
   (hle : k ≤ its.size) (hsz : its.size ≤ 5) (lt : Value → Bool) (hlt : ∀ x ∈ its.toList.drop k, LtV x yv (lt x))
   (ret : ∀ l zs h' tk', Ext s.heap h' → s.heap.get? l = none → h'.get? l = some (LCg.lst zs) → Paired (DatN s.heap h') zs ((its.toList.drop k).filter lt) → Q (.ref l) { s with heap := h', toks := tk' }) :
   wpAny (model P0 w) (ktrTop dp un gd cn cs L a ccd cl outer) (call (.ref 354) [.ref ch, .ref doc] []) Q E s := by
  w_top off
  obtain ⟨B, F, X, T, hk, hd, hu⟩ := C
  refine wpAny_call ?_
  k_dflt (refine' code_defCG ?k1 ?k2 ?k3 ?k4 ?k5 ?kA ?kF ?kK ?k6 ?k7 ?k8 ?k9 ?kB ?kD ?_ ?c2 ?c3 ?c4; (case kA => exact rfl); (case kF => exact rfl); (case kK => assumption); (case k1 => k_asm); (case k2 => k_asm); (case k3 => k_asm); (case k4 => k_asm); (case k5 => k_asm); (case k6 => k_is); (case k7 => k_is); (case k8 => ktr_room); (case k9 => exact BindsTo.of_eq rfl); (case kB => exact rfl); (case kD => decide +kernel); (case c2 => exact rfl); (case c3 => exact rfl); (case c4 => exact rfl); k_whole; intro g' L' h' tk' cells' FG' F' N' Y' B' X' T' l1 kG'; (try k_lt l1); k_cells Y'; (try simp only [List.cons_append, List.nil_append] at N'); (try dsimp only); (try k_fold))
  k_steps
  rename_i l r rd p c a1 a2 a3 b1 b2 b3 h9 tk9 e9 n9 nr9 nd9 g9 gr9 gd9 N9 F9
  have e0 : Ext s.heap h9 := ext_of N kG' F9 N9 (by k_subL)
  have hL' : s.heap.get? L' = none := frame_new kG' F9 N9 (by k_subL)
  refine ⟨l, .ref r, _, rfl, ⟨_, g9, rfl, _, rfl⟩, F9.ns, News.ne_L N9 (.head _), fun C D I oC h tk m₃ E' hoC hx hk hC gC gD gI hDl hIl => ?_⟩
  have kF2 := fr_L F9 hk
  have kN2 := news_at F9 kF2 (news_L N9 hk) gC hC
  k_steps
  rename_i l2 zs h2 tk2 e2 n2 g2 dat N3 F3
  have kk : KeepL L' h9 h2 := ⟨fun b o hb hL e => e2 b o (hk.1 b o hb hL e), fun m hm => (hk.2 m hm).keeps e2⟩
  have hzl : zs.length ≤ 5 := by
    rw [dat.length]
    refine Nat.le_trans (List.length_filter_le _ _) ?_
    rw [List.length_drop, Array.length_toList]
    omega
  refine ⟨l2, zs.toArray, h2, _, rfl, .of_ext e2, rfl, ⟨_, g2, rfl, _, rfl⟩, n2, by rw [List.size_toArray]; exact Nat.le_trans hzl (by decide), fun h4 tk4 hD4 keep => ?_⟩
  have liveL : ∃ o, h9.get? L' = some o := by obtain ⟨o, _, _, e, _⟩ := F9.ns; exact ⟨o, e⟩
  have off : ∀ {b : Addr} {o : Obj}, h9.get? b = some o → b ≠ C ∧ b ≠ D ∧ b ≠ I := fun {b o} e =>
    ⟨fun q => by rw [q, gC] at e; (cases e), fun q => by rw [q, gD] at e; (cases e), fun q => by rw [q, gI] at e; (cases e)⟩
  have k4 : KeepL L' h9 h4 := by
    refine ⟨fun b o hb hL e => keep b o (off e).1 (off e).2.1 (off e).2.2 (kk.1 b o hb hL e), fun m hm => (kk.2 m hm).at' fun o e => ?_⟩
    obtain ⟨oL, eL⟩ := liveL
    exact keep _ _ (off eL).1 (off eL).2.1 (off eL).2.2 e
  have F4 := fr_L F9 k4
  have N4 := news_at F9 F4 (news_L N9 k4) gD hD4
  k_steps
  refine ret D zs h4 tk4 (ext_of N kG' (by assumption) (by assumption) (by k_subL)) (none_of_ext e0 gD) hD4 (Paired.imp (fun y v hyv => ?_) dat)
  obtain ⟨r', rd', pp, cc, x1, x2, x3, y1, y2, y3, rfl, f1, f2, q1, q2⟩ := hyv
  have es : Ext s.heap h := ext_KL e0 hL' hk
  have offh : ∀ {b : Addr}, h.get? b = none → b ≠ C ∧ b ≠ D ∧ b ≠ I := fun {b} e =>
    ⟨fun q => by rw [q, hC] at e; (cases e), fun q => by obtain ⟨o, z⟩ := hDl; rw [q, z] at e; (cases e), fun q => by obtain ⟨o, z⟩ := hIl; rw [q, z] at e; (cases e)⟩
  exact ⟨r', rd', pp, cc, x1, x2, x3, y1, y2, y3, rfl, none_of_ext es f1, none_of_ext es f2, keep _ _ (offh f1).1 (offh f1).2.1 (offh f1).2.2 q1, keep _ _ (offh f2).1 (offh f2).2.1 (offh f2).2.2 q2⟩
end
end Mine
end
section
open PySem PySem.W PySem.Spec PySem.Calls PyProof.Rows
set_option Elab.async false
set_option maxRecDepth 100000
namespace Mine
local macro_rules | `(tactic| k_in) => `(tactic| first | k_in_fast | assumption | exact Frag.In.keeps (by k_asm) (Fr.keep (by k_asm)))
local macro_rules | `(tactic| walk_at "callWith ref") => `(tactic| (k_here; (with_reducible show wpAny _ _ (callWith _ (Value.ref _) _ _ (backToKw _ (keywordEach (_ :: _) _))) _ _ _); k_dflt (refine' callWith_KW ?k1 ?k2 ?k3 ?_; (case k1 => k_asm); (case k2 => k_is); (case k3 => exact rfl); k_whole)))
local macro_rules | `(tactic| k_room) => `(tactic| ktr_room)
local macro_rules | `(tactic| k_units) => `(tactic| ktr_units)
local macro_rules | `(tactic| walk_at "call builtin:len") => `(tactic| (k_here; refine len_news (by k_asm) (by k_mem) (by omega) ?_))
local macro_rules | `(tactic| walk_at "subscriptTail") => `(tactic| (k_here; (dsimp only); k_dflt (refine' range_slice ?ka ?kb ?F ?N ?R ?_; (case R => assumption); (case ka => assumption); (case kb => assumption); (case F => k_asm); (case N => k_asm)); intros))
local macro_rules | `(tactic| walk_at "subscriptTail") => `(tactic| (k_here; (try dsimp only); k_dflt (refine' item_news ?N ?M ?X ?h0 ?hf ?_; (case X => assumption); (case N => k_asm); (case M => k_mem); (case h0 => omega); (case hf => omega))))
local macro_rules | `(tactic| k_all) => `(tactic| first | exact List.forall_mem_nil _ | (refine' List.forall_mem_cons.mpr ⟨?a, ?b⟩; (case a => (refine neN ?_; (try dsimp only); first | with_reducible assumption | exact Nat.ne_of_lt (by with_reducible assumption) | exact Nat.ne_of_gt (by with_reducible assumption) | exact Ne.symm (by with_reducible assumption) | (law_clear; omega))); (case b => k_all)))
local macro_rules | `(tactic| k_subL) => `(tactic| first | exact List.forall_mem_nil _ | (refine' List.forall_mem_cons.mpr ⟨?a, ?b⟩; (case a => k_mem); (case b => k_subL)))
local macro_rules | `(tactic| walk_at "call builtin:callable") => `(tactic| (k_here; refine callable_list (by k_asm) (by k_mem) ?_))
local macro_rules | `(tactic| walk_at "exec For Name Attribute cons nil") => `(tactic| (k_here; (refine for_enter ?_ ?_); (case refine_2 => intro _; with_unfolding_all rfl)))
local macro_rules | `(tactic| walk_at "setItem ref int") => `(tactic| (k_here; k_dflt (refine' set_news ?F ?N ?U ?h0 ?h1 ?hs ?_; (case F => k_asm); (case N => k_asm); (case U => k_upd); (case h0 => omega); (case h1 => omega); (case hs => omega)); intro h' F' N'; (try dsimp only at N')))
local macro_rules | `(tactic| walk_at "call builtin:len") => `(tactic| (k_here; refine len_news (by k_asm) (by k_mem) (by omega) ?_))
local macro_rules | `(tactic| k_lt $h) => `(tactic| (have hRaw := $h; replace $h := allLt_of $h; simp only [AllLt, and_true] at $h:ident))
local macro_rules | `(tactic| k_ne) => `(tactic| (refine neN ?_; (try dsimp only); first | with_reducible assumption | exact lt_get (by with_reducible assumption) (by k_mem) | exact lt_get' (by with_reducible assumption) (by k_mem) | exact Ne.symm (by with_reducible assumption) | exact allNe_get (by assumption) (by k_mem) | exact Ne.symm (allNe_get (by assumption) (by k_mem)) | (law_clear; omega) | omega))
local macro_rules | `(tactic| k_all) => `(tactic| first | exact List.forall_mem_nil _ | exact older_ne (by with_reducible assumption) rfl | exact ne_older (by with_reducible assumption) rfl | (refine' List.forall_mem_cons.mpr ⟨?a, ?b⟩; (case a => k_ne); (case b => k_all)))
section
variable {w : World} {mean : ExcName → Option Value} {mg mb : PySem.Str → Option Value} {dp un : Nat} {gd : Option (List Code)} {cn : PySem.Str} {cs : Scope} {a : Addr} {ccd : Value} {cl : List (PySem.Str × Addr)} {outer : List Env} {A₀ : Around} {base h₀ : Heap} {L : Addr} {m : PySem.Str → Option Value} {s : Shared} {Q E : Value → Shared → Prop}
local macro_rules | `(tactic| walk_at "eval ListComp") => `(tactic| (k_here; (with_reducible apply comp_J); (case hclos => with_unfolding_all rfl); (case hcell => decide); (case hkind => with_unfolding_all rfl); (case hnames => decide); (case hx => with_unfolding_all rfl); (case hs => intro _; with_unfolding_all rfl)))
local macro_rules | `(tactic| walk_at "exec Assign cons ListComp") => `(tactic| (k_here; (with_reducible apply assign_J); (case hsw => with_unfolding_all rfl); (case hclos => with_unfolding_all rfl); (case hcell => decide); (case hkind => with_unfolding_all rfl); (case hnames => decide); (case hx => with_unfolding_all rfl); (case hy => with_unfolding_all rfl); (case hp => with_unfolding_all rfl); (case hs => intro _; with_unfolding_all rfl)))

set_option maxHeartbeats 8000000 in
theorem index_update (C : Cx w mean mg mb dp un 40 400 cs A₀ base h₀ outer L m s.heap)
   {ix ixd it rw vl : Addr} {i1 : Int} {q1 k1 k2 : Tok} {x y : Value} {k : Nat} {its : Array Value} {nl nt nv : Nat}
   (N : News h₀ L s.heap [(ix, instObj 796 ixd), (ixd, dictOf [⟨i1, .str "indices" q1, .ref it⟩] 1), (it, ({ cls := .type "tuple", data := .seq #[.int k k1, .int (k + 1 : Nat) k2] nt } : Obj)),
     (rw, ({ cls := .type "list", data := .seq its nl } : Obj)), (vl, ({ cls := .type "list", data := .seq #[x, y] nv } : Obj))])
   (hne : @Ne Nat rw vl) (hle : k + 1 < its.size) (hsz : its.size ≤ 5)
   (ret : ∀ n1 n2 h' tk', Fr h₀ L h' m → ExtO [rw, vl] s.heap h' → h'.get? rw = some ({ cls := .type "list", data := .seq ((its.setIfInBounds k x).setIfInBounds (k + 1) y) n1 } : Obj) → h'.get? vl = some ({ cls := .type "list", data := .seq #[] n2 } : Obj) → Q (.ref rw) { s with heap := h', toks := tk' }) :
   wpAny (model P0 w) (ktrTop dp un gd cn cs L a ccd cl outer) (call (.ref 741) [.ref ix, .ref rw, .ref vl] []) Q E s := by
  have d1 : @Ne Nat ix vl := ne_cls N (by k_mem) (by k_mem) (by k_cls)
  have d2 : @Ne Nat ixd vl := ne_cls N (by k_mem) (by k_mem) (by k_cls)
  have d3 : @Ne Nat it vl := ne_cls N (by k_mem) (by k_mem) (by k_cls)
  have d4 : @Ne Nat ix rw := ne_cls N (by k_mem) (by k_mem) (by k_cls)
  have d5 : @Ne Nat ixd rw := ne_cls N (by k_mem) (by k_mem) (by k_cls)
  have d6 : @Ne Nat it rw := ne_cls N (by k_mem) (by k_mem) (by k_cls)
  have d7 : @Ne Nat rw vl := hne
  w_top off
  obtain ⟨B, F, X, T, hk, hd, hu⟩ := C
  refine wpAny_call ?_
  k_dflt (refine' code_defG ?k1 ?k2 ?k3 ?k4 ?k5 ?kA ?kF ?kK ?k6 ?k7 ?k8 ?k9 ?kB ?_ ?c2 ?c3 ?c4 ?c5; (case kA => exact rfl); (case kF => exact rfl); (case kK => assumption); (case k1 => k_asm); (case k2 => k_asm); (case k3 => k_asm); (case k4 => k_asm); (case k5 => k_asm); (case k6 => k_is); (case k7 => k_is); (case k8 => ktr_room); (case k9 => exact BindsTo.of_eq rfl); (case c5 => decide); (case kB => exact locs rfl); (case c2 => exact rfl); (case c3 => exact rfl); (case c4 => exact rfl); k_whole; intro g' L' h' FG' F' N' B' X' T' kG'; (try dsimp only); (try k_fold))
  k_steps
  refine for_J (srcs := [it]) (n := 2) (P := fun i v => #[Value.int (k : Nat) k1, Value.int (k + 1 : Nat) k2][i]? = some v)
    (fun m0 _ i m' nw => (∃ vi, m' = fun y : PySem.Str => if y = ("index" : PySem.Str) then vi else m0 y) ∧ ∃ n1 n2, (i = 0 ∧ nw = [(ix, instObj 796 ixd), (ixd, dictOf [⟨i1, .str "indices" q1, .ref it⟩] 1), (it, ({ cls := .type "tuple", data := .seq #[.int k k1, .int (k + 1 : Nat) k2] nt } : Obj)), (rw, ({ cls := .type "list", data := .seq its n1 } : Obj)), (vl, ({ cls := .type "list", data := .seq #[x, y] n2 } : Obj))]) ∨ (i = 1 ∧ nw = [(ix, instObj 796 ixd), (ixd, dictOf [⟨i1, .str "indices" q1, .ref it⟩] 1), (it, ({ cls := .type "tuple", data := .seq #[.int k k1, .int (k + 1 : Nat) k2] nt } : Obj)), (rw, ({ cls := .type "list", data := .seq (its.setIfInBounds k x) n1 } : Obj)), (vl, ({ cls := .type "list", data := .seq #[y] n2 } : Obj))]) ∨ (i = 2 ∧ nw = [(ix, instObj 796 ixd), (ixd, dictOf [⟨i1, .str "indices" q1, .ref it⟩] 1), (it, ({ cls := .type "tuple", data := .seq #[.int k k1, .int (k + 1 : Nat) k2] nt } : Obj)), (rw, ({ cls := .type "list", data := .seq ((its.setIfInBounds k x).setIfInBounds (k + 1) y) n1 } : Obj)), (vl, ({ cls := .type "list", data := .seq #[] n2 } : Obj))]))
    ?S (by assumption) (by assumption) [(it, ({ cls := .type "tuple", data := .seq #[.int k k1, .int (k + 1 : Nat) k2] nt } : Obj))] ?hK ?i0 ?hInv ?turn ?fin
  case S => exact isSrc_tuple (l := it) (items := #[Value.int (k : Nat) k1, Value.int (k + 1 : Nat) k2]) rfl ⟨_, (News.get (by assumption) (by k_mem)), rfl, _, rfl⟩
  case hK => rintro a ha; obtain rfl := List.mem_singleton.mp ha; exact ⟨_, .head _⟩
  case i0 => exact ⟨⟨_, by funext y; by_cases h : y = ("index" : PySem.Str); (· rw [if_pos h, h]); (· rw [if_neg h])⟩, _, _, .inl ⟨rfl, rfl⟩⟩
  case hInv =>
    rintro i m' nw ⟨_, n1, n2, ⟨_, rfl⟩ | ⟨_, rfl⟩ | ⟨_, rfl⟩⟩ p hp <;> (rw [List.mem_singleton.mp hp]; exact .tail _ (.tail _ (.head _)))
  case turn =>
    rintro i v I oI h tk m' nw E' hi hP ⟨⟨vi, rfl⟩, n1, n2, ⟨rfl, rfl⟩ | ⟨rfl, rfl⟩ | ⟨rfl, rfl⟩⟩ F5 N5 off
    · have o1 : @Ne Nat vl I := off (vl, _) (by k_mem)
      have o2 : @Ne Nat rw I := off (rw, _) (by k_mem)
      have sz : (its.setIfInBounds k x).size = its.size := by simp
      obtain rfl : Value.int (k : Nat) k1 = v := by simpa using hP
      k_steps
      exact TurnEnd.next (by assumption) (by assumption) [(ix, instObj 796 ixd), (ixd, dictOf [⟨i1, .str "indices" q1, .ref it⟩] 1), (it, ({ cls := .type "tuple", data := .seq #[.int k k1, .int (k + 1 : Nat) k2] nt } : Obj)), (rw, ({ cls := .type "list", data := .seq (its.setIfInBounds k x) n1 } : Obj)), (vl, ({ cls := .type "list", data := .seq #[y] (n2 + 1) } : Obj))] (by k_mem) (by k_subL) (List.forall_mem_cons.mpr ⟨off (ix, _) (by k_mem), List.forall_mem_cons.mpr ⟨off (ixd, _) (by k_mem), List.forall_mem_cons.mpr ⟨off (it, _) (by k_mem), List.forall_mem_cons.mpr ⟨o2, List.forall_mem_cons.mpr ⟨o1, List.forall_mem_nil _⟩⟩⟩⟩⟩) ⟨⟨_, upd_twice⟩, n1, n2 + 1, .inr (.inl ⟨by first | trivial | rfl, rfl⟩)⟩
    · have o1 : @Ne Nat vl I := off (vl, _) (by k_mem)
      have o2 : @Ne Nat rw I := off (rw, _) (by k_mem)
      have sz : (its.setIfInBounds k x).size = its.size := by simp
      obtain rfl : Value.int (k + 1 : Nat) k2 = v := by simpa using hP
      k_steps
      exact TurnEnd.next (by assumption) (by assumption) [(ix, instObj 796 ixd), (ixd, dictOf [⟨i1, .str "indices" q1, .ref it⟩] 1), (it, ({ cls := .type "tuple", data := .seq #[.int k k1, .int (k + 1 : Nat) k2] nt } : Obj)), (rw, ({ cls := .type "list", data := .seq ((its.setIfInBounds k x).setIfInBounds (k + 1) y) n1 } : Obj)), (vl, ({ cls := .type "list", data := .seq #[] (n2 + 1) } : Obj))] (by k_mem) (by k_subL) (List.forall_mem_cons.mpr ⟨off (ix, _) (by k_mem), List.forall_mem_cons.mpr ⟨off (ixd, _) (by k_mem), List.forall_mem_cons.mpr ⟨off (it, _) (by k_mem), List.forall_mem_cons.mpr ⟨o2, List.forall_mem_cons.mpr ⟨o1, List.forall_mem_nil _⟩⟩⟩⟩⟩) ⟨⟨_, upd_twice⟩, n1, n2 + 1, .inr (.inr ⟨by first | trivial | rfl, rfl⟩)⟩
    · exact absurd hi (by decide)
  case fin =>
    rintro h tk m' nw ⟨⟨vi, rfl⟩, n1, n2, ⟨q, _⟩ | ⟨q, _⟩ | ⟨_, rfl⟩⟩ F5 N5
    · cases q
    · cases q
    · dsimp only
      k_steps
      refine ret n1 n2 h tk (by assumption) (ext_but N kG' (by assumption : Fr g' L' h _) (by assumption : News g' L' h _) ?_) (News.get (a := rw) (by assumption : News h₀ L h _) (by k_mem)) (News.get (a := vl) (by assumption : News h₀ L h _) (by k_mem))
      refine List.forall_mem_cons.mpr ⟨.inr (by k_mem), List.forall_mem_cons.mpr ⟨.inr (by k_mem), List.forall_mem_cons.mpr ⟨.inr (by k_mem), List.forall_mem_cons.mpr ⟨.inl (.head _), List.forall_mem_cons.mpr ⟨.inl (.tail _ (.head _)), List.forall_mem_nil _⟩⟩⟩⟩⟩
end
end Mine
end
section
open PySem PySem.W PySem.Spec PySem.Calls PyProof.Rows
set_option Elab.async false
set_option maxRecDepth 100000
namespace Mine
local macro_rules | `(tactic| k_in) => `(tactic| first | k_in_fast | assumption | exact Frag.In.keeps (by k_asm) (Fr.keep (by k_asm)))
local macro_rules | `(tactic| walk_at "callWith ref") => `(tactic| (k_here; (with_reducible show wpAny _ _ (callWith _ (Value.ref _) _ _ (backToKw _ (keywordEach (_ :: _) _))) _ _ _); k_dflt (refine' callWith_KW ?k1 ?k2 ?k3 ?_; (case k1 => k_asm); (case k2 => k_is); (case k3 => exact rfl); k_whole)))
local macro_rules | `(tactic| k_room) => `(tactic| ktr_room)
local macro_rules | `(tactic| k_units) => `(tactic| ktr_units)
local macro_rules | `(tactic| walk_at "call builtin:len") => `(tactic| (k_here; refine len_news (by k_asm) (by k_mem) (by omega) ?_))
local macro_rules | `(tactic| walk_at "subscriptTail") => `(tactic| (k_here; (dsimp only); k_dflt (refine' range_slice ?ka ?kb ?F ?N ?R ?_; (case R => assumption); (case ka => assumption); (case kb => assumption); (case F => k_asm); (case N => k_asm)); intros))
local macro_rules | `(tactic| walk_at "subscriptTail") => `(tactic| (k_here; (try dsimp only); k_dflt (refine' item_news ?N ?M ?X ?h0 ?hf ?_; (case X => assumption); (case N => k_asm); (case M => k_mem); (case h0 => omega); (case hf => omega))))
local macro_rules | `(tactic| k_all) => `(tactic| first | exact List.forall_mem_nil _ | (refine' List.forall_mem_cons.mpr ⟨?a, ?b⟩; (case a => k_ne); (case b => k_all)))
local macro_rules | `(tactic| k_subL) => `(tactic| first | exact List.forall_mem_nil _ | (refine' List.forall_mem_cons.mpr ⟨?a, ?b⟩; (case a => k_mem); (case b => k_subL)))
local macro_rules | `(tactic| walk_at "call builtin:callable") => `(tactic| (k_here; refine callable_list (by k_asm) (by k_mem) ?_))
local macro_rules | `(tactic| walk_at "exec For Name Attribute cons nil") => `(tactic| (k_here; (refine for_enter ?_ ?_); (case refine_2 => intro _; with_unfolding_all rfl)))
local macro_rules | `(tactic| walk_at "setItem ref int") => `(tactic| (k_here; k_dflt (refine' set_news ?F ?N ?U ?h0 ?h1 ?hs ?_; (case F => k_asm); (case N => k_asm); (case U => k_upd); (case h0 => omega); (case h1 => omega); (case hs => omega)); intro h' F' N'; (try dsimp only at N')))
local macro_rules | `(tactic| walk_at "call builtin:len") => `(tactic| (k_here; refine len_news (by k_asm) (by k_mem) (by omega) ?_))
local macro_rules | `(tactic| k_ne) => `(tactic| (refine neN ?_; (try dsimp only); first | with_reducible assumption | exact Nat.ne_of_lt (by with_reducible assumption) | exact Nat.ne_of_gt (by with_reducible assumption) | exact Ne.symm (by with_reducible assumption) | assumption | exact Ne.symm (by assumption) | exact allNe_get (by assumption) (by k_mem) | exact Ne.symm (allNe_get (by assumption) (by k_mem)) | omega))
local macro_rules | `(tactic| k_lt $h) => `(tactic| (have hRaw := $h; replace $h := allLt_of $h; simp only [AllLt, and_true] at $h:ident))
local macro_rules | `(tactic| k_ne) => `(tactic| (refine neN ?_; (try dsimp only); first | with_reducible assumption | exact lt_get (by with_reducible assumption) (by k_mem) | exact lt_get' (by with_reducible assumption) (by k_mem) | exact Ne.symm (by with_reducible assumption) | exact allNe_get (by assumption) (by k_mem) | exact Ne.symm (allNe_get (by assumption) (by k_mem)) | (law_clear; omega) | omega))
local macro_rules | `(tactic| k_all) => `(tactic| first | exact List.forall_mem_nil _ | exact older_ne (by with_reducible assumption) rfl | exact ne_older (by with_reducible assumption) rfl | (refine' List.forall_mem_cons.mpr ⟨?a, ?b⟩; (case a => k_ne); (case b => k_all)))
section
variable {w : World} {mean : ExcName → Option Value} {mg mb : PySem.Str → Option Value} {dp un : Nat} {gd : Option (List Code)} {cn : PySem.Str} {cs : Scope} {a : Addr} {ccd : Value} {cl : List (PySem.Str × Addr)} {outer : List Env} {A₀ : Around} {base h₀ : Heap} {L : Addr} {m : PySem.Str → Option Value} {s : Shared} {Q E : Value → Shared → Prop}
local macro_rules | `(tactic| walk_at "eval ListComp") => `(tactic| (k_here; (with_reducible apply comp_J); (case hclos => with_unfolding_all rfl); (case hcell => decide); (case hkind => with_unfolding_all rfl); (case hnames => decide); (case hx => with_unfolding_all rfl); (case hs => intro _; with_unfolding_all rfl)))
local macro_rules | `(tactic| walk_at "exec Assign cons ListComp") => `(tactic| (k_here; (with_reducible apply assign_J); (case hsw => with_unfolding_all rfl); (case hclos => with_unfolding_all rfl); (case hcell => decide); (case hkind => with_unfolding_all rfl); (case hnames => decide); (case hx => with_unfolding_all rfl); (case hy => with_unfolding_all rfl); (case hp => with_unfolding_all rfl); (case hs => intro _; with_unfolding_all rfl)))

local macro_rules | `(tactic| walk_at "call ref") => `(tactic| (k_here; k_dflt (refine' fields_find ⟨?cB, ?cF, ?cX, ?cT, ?ck, ?cd, ?cu⟩ ?cN ?ch ?cl ?_; (case cB => k_asm); (case cF => k_asm); (case cX => k_asm); (case cT => k_asm); (case ck => rfl); (case cd => ktr_room); (case cu => ktr_units); (case cN => (refine News.sub (by k_asm) ?_; k_subL)); (case ch => assumption); (case cl => assumption)); intro l9 r9 dd9 p9 c9 h91 h92 h93 t91 t92 t93 h9 tk9 e9 n9 nr9 nd9 g9 gr9 gd9; have N8 := news_add (by assumption) (by assumption) e9 nd9 gd9; have N7 := News.both (News.one (news_add (by assumption) (by assumption) e9 nr9 gr9)) N8; have N9 := News.both (News.one (news_add (by assumption) (by assumption) e9 n9 g9)) N7; clear N8 N7; have q91 := ne_new (by assumption) n9; have q92 := ne_new (by assumption) nr9; have q93 := ne_new (by assumption) nd9; have F9 := Fr.keeps (by assumption) e9))
local macro_rules | `(tactic| walk_at "call ref") => `(tactic| (k_here; k_dflt (refine' index_update ⟨?cB, ?cF, ?cX, ?cT, ?ck, ?cd, ?cu⟩ ?cN ?cne ?cle ?csz ?_; (case cB => k_asm); (case cF => k_asm); (case cX => k_asm); (case cT => k_asm); (case ck => rfl); (case cd => ktr_room); (case cu => ktr_units); (case cN => (refine News.sub (by k_asm) ?_; k_subL)); (case cne => assumption); (case cle => assumption); (case csz => assumption)); intro n9 n9' h9 tk9 F9 e9 g9 v9; have N9 := news_two (by assumption) e9 g9 v9 (by k_upd) (by k_upd); clear e9 g9 v9))
def Hold (p : Prop) : Prop := p
theorem hold {p : Prop} (h : Hold p) : p := h
local macro_rules | `(tactic| walk_at "call ref") => `(tactic| ((with_reducible show wpAny _ _ (call (Value.ref 741) _ _) _ _ _); refine (Mine.hold ?_)))
set_option maxHeartbeats 8000000 in
theorem child_update (C : Cx w mean mg mb dp un 100 1000 cs A₀ base h₀ outer L m s.heap)
   {ch chd f fd ft doc ix ixd it rw vl bs : Addr} {f1 f2 c1 c2 i1 : Int} {s1 s2 s3 q1 q2 q3 k1 k2 : Tok} {x y : Value} {k : Nat} {its : Array Value} {nl nt nt2 nv ep : Nat} {es : Array DictEntry}
   (N : News h₀ L s.heap [(ch, instObj 427 chd), (chd, dictOf [⟨c1, .str "left" q1, .ref f⟩, ⟨c2, .str "right" q2, .ref ix⟩] 2),
     (f, instObj 697 fd), (fd, dictOf [⟨f1, .str "_deprecated_wildcard_use" s1, .bool false⟩, ⟨f2, .str "fields" s2, .ref ft⟩] 2), (ft, ({ cls := .type "tuple", data := .seq #[.str "row" s3] nt } : Obj)), (doc, ({ cls := .type "dict", data := .dict es ep } : Obj)),
     (ix, instObj 796 ixd), (ixd, dictOf [⟨i1, .str "indices" q3, .ref it⟩] 1), (it, ({ cls := .type "tuple", data := .seq #[.int k k1, .int (k + 1 : Nat) k2] nt2 } : Obj)),
     (rw, ({ cls := .type "list", data := .seq its nl } : Obj)), (vl, ({ cls := .type "list", data := .seq #[x, y] nv } : Obj))])
   (hdoc : Obj.IsDictOf (PySem.strKind P0 w) ({ cls := .type "dict", data := .dict es ep } : Obj) [(("row" : PySem.Str), Value.ref rw), (("beside" : PySem.Str), Value.ref bs)]) (hlo : (doc == sysModules) = false)
   (hne : @Ne Nat rw vl) (hle : k + 1 < its.size) (hsz : its.size ≤ 5)
   (ret : ∀ n1 n2 h' tk', Fr h₀ L h' m → ExtO [rw, vl] s.heap h' → h'.get? rw = some ({ cls := .type "list", data := .seq ((its.setIfInBounds k x).setIfInBounds (k + 1) y) n1 } : Obj) → h'.get? vl = some ({ cls := .type "list", data := .seq #[] n2 } : Obj) → Q (.ref doc) { s with heap := h', toks := tk' }) :
   wpAny (model P0 w) (ktrTop dp un gd cn cs L a ccd cl outer) (call (.ref 361) [.ref ch, .ref doc, .ref vl] []) Q E s := by
  have d_ch_rw : @Ne Nat ch rw := ne_cls N (by k_mem) (by k_mem) (by k_cls)
  have d_ch_vl : @Ne Nat ch vl := ne_cls N (by k_mem) (by k_mem) (by k_cls)
  have d_chd_rw : @Ne Nat chd rw := ne_cls N (by k_mem) (by k_mem) (by k_cls)
  have d_chd_vl : @Ne Nat chd vl := ne_cls N (by k_mem) (by k_mem) (by k_cls)
  have d_f_rw : @Ne Nat f rw := ne_cls N (by k_mem) (by k_mem) (by k_cls)
  have d_f_vl : @Ne Nat f vl := ne_cls N (by k_mem) (by k_mem) (by k_cls)
  have d_fd_rw : @Ne Nat fd rw := ne_cls N (by k_mem) (by k_mem) (by k_cls)
  have d_fd_vl : @Ne Nat fd vl := ne_cls N (by k_mem) (by k_mem) (by k_cls)
  have d_ft_rw : @Ne Nat ft rw := ne_cls N (by k_mem) (by k_mem) (by k_cls)
  have d_ft_vl : @Ne Nat ft vl := ne_cls N (by k_mem) (by k_mem) (by k_cls)
  have d_doc_rw : @Ne Nat doc rw := ne_cls N (by k_mem) (by k_mem) (by k_cls)
  have d_doc_vl : @Ne Nat doc vl := ne_cls N (by k_mem) (by k_mem) (by k_cls)
  have d_ix_rw : @Ne Nat ix rw := ne_cls N (by k_mem) (by k_mem) (by k_cls)
  have d_ix_vl : @Ne Nat ix vl := ne_cls N (by k_mem) (by k_mem) (by k_cls)
  have d_ixd_rw : @Ne Nat ixd rw := ne_cls N (by k_mem) (by k_mem) (by k_cls)
  have d_ixd_vl : @Ne Nat ixd vl := ne_cls N (by k_mem) (by k_mem) (by k_cls)
  have d_it_rw : @Ne Nat it rw := ne_cls N (by k_mem) (by k_mem) (by k_cls)
  have d_it_vl : @Ne Nat it vl := ne_cls N (by k_mem) (by k_mem) (by k_cls)
  w_top off
  obtain ⟨B, F, X, T, hk, hd, hu⟩ := C
  refine wpAny_call ?_
  k_dflt (refine' code_defG ?k1 ?k2 ?k3 ?k4 ?k5 ?kA ?kF ?kK ?k6 ?k7 ?k8 ?k9 ?kB ?_ ?c2 ?c3 ?c4 ?c5; (case kA => exact rfl); (case kF => exact rfl); (case kK => assumption); (case k1 => k_asm); (case k2 => k_asm); (case k3 => k_asm); (case k4 => k_asm); (case k5 => k_asm); (case k6 => k_is); (case k7 => k_is); (case k8 => ktr_room); (case k9 => exact BindsTo.of_eq rfl); (case c5 => decide); (case kB => exact locs rfl); (case c2 => exact rfl); (case c3 => exact rfl); (case c4 => exact rfl); k_whole; intro g' L' h' FG' F' N' B' X' T' kG'; (try dsimp only); (try k_fold))
  k_steps
  unfold Hold
  (k_here; k_dflt (refine' index_update ⟨?cB, ?cF, ?cX, ?cT, ?ck, ?cd, ?cu⟩ ?cN ?cne ?cle ?csz ?_; (case cB => k_asm); (case cF => k_asm); (case cX => k_asm); (case cT => k_asm); (case ck => rfl); (case cd => ktr_room); (case cu => ktr_units); (case cN => (refine News.sub (by k_asm) ?_; k_subL)); (case cne => assumption); (case cle => assumption); (case csz => assumption)); intro n9 n9' h9 tk9 F9 e9 g9 v9; have N9 := news_two (by assumption) e9 g9 v9 (by k_upd) (by k_upd))
  k_steps
  refine ret n9 n9' _ _ (by assumption) (ext_but N kG' (by assumption) (by assumption) ?_) (News.get (a := rw) (by assumption) (by k_mem)) (News.get (a := vl) (by assumption) (by k_mem))
  exact List.forall_mem_cons.mpr ⟨.inr (by k_mem), List.forall_mem_cons.mpr ⟨.inr (by k_mem), List.forall_mem_cons.mpr ⟨.inr (by k_mem), List.forall_mem_cons.mpr ⟨.inr (by k_mem), List.forall_mem_cons.mpr ⟨.inr (by k_mem), List.forall_mem_cons.mpr ⟨.inr (by k_mem), List.forall_mem_cons.mpr ⟨.inr (by k_mem), List.forall_mem_cons.mpr ⟨.inr (by k_mem), List.forall_mem_cons.mpr ⟨.inr (by k_mem), List.forall_mem_cons.mpr ⟨.inl (.head _), List.forall_mem_cons.mpr ⟨.inl (.tail _ (.head _)), List.forall_mem_nil _⟩⟩⟩⟩⟩⟩⟩⟩⟩⟩⟩
end
end Mine
end
section
open PySem PySem.W PySem.Spec PySem.Calls PyProof.Rows
set_option maxRecDepth 100000
namespace Mine
/-- a code that may be drawn -/
def valid : Nat → List Nat → Bool
  | 0, [] => true
  | n + 1, d :: c => decide (d ≤ n) && valid n c
  | _, _ => false
def codes : Nat → List (List Nat)
  | 0 => [[]]
  | n + 1 => (List.range (n + 1)).flatMap fun d => (codes n).map (d :: ·)
theorem mem_codes : ∀ {n : Nat} {c : List Nat}, valid n c = true → c ∈ codes n
  | 0, [], _ => by simp [codes]
  | n + 1, d :: c, h => by
    simp only [valid, Bool.and_eq_true, decide_eq_true_eq] at h
    simp only [codes, List.mem_flatMap, List.mem_range, List.mem_map]
    exact ⟨d, by omega, c, mem_codes h.2, rfl⟩
  | 0, _ :: _, h => by simp [valid] at h
  | _ + 1, [], h => by simp [valid] at h
theorem valid_length : ∀ {n : Nat} {c : List Nat}, valid n c = true → c.length = n
  | 0, [], _ => rfl
  | n + 1, d :: c, h => by
    simp only [valid, Bool.and_eq_true, decide_eq_true_eq] at h
    simp [valid_length h.2]
  | 0, _ :: _, h => by simp [valid] at h
  | _ + 1, [], h => by simp [valid] at h
theorem valid_lt : ∀ {n : Nat} {c : List Nat}, valid n c = true → ∀ {i x : Nat}, c[i]? = some x → x + i < n
  | 0, [], _, _, _, e => by cases e
  | n + 1, d :: c, h, 0, x, e => by
    simp only [valid, Bool.and_eq_true, decide_eq_true_eq] at h
    cases e; omega
  | n + 1, d :: c, h, i + 1, x, e => by
    simp only [valid, Bool.and_eq_true, decide_eq_true_eq] at h
    have := valid_lt h.2 (i := i) (x := x) e
    omega
  | 0, _ :: _, h, _, _, _ => by simp [valid] at h
  | _ + 1, [], h, _, _, _ => by simp [valid] at h
def stepL (p : List Nat × List Nat) (q : Nat) : List Nat × List Nat := (p.1.take q ++ p.1.drop (q + 1), p.2 ++ [p.1.getD q 0])
def ranksOf (n : Nat) (c : List Nat) : List Nat := (c.foldl stepL (List.range n, [])).2
def swapAt (k : Nat) (r : List Nat) : List Nat := (r.set k (r.getD (k + 1) 0)).set (k + 1) (r.getD k 0)
def exch (k : Nat) (c : List Nat) : List Nat := (c.set k (c.getD (k + 1) 0)).set (k + 1) (c.getD k 0 - 1)
def outOf (n : Nat) (c : List Nat) : List Nat := (List.range (n - 1)).filter fun k => decide (c.getD (k + 1) 0 < c.getD k 0)
def lawAt (n : Nat) (c : List Nat) : Bool :=
  let r := ranksOf n c
  r.length == n && r.all (fun x => decide (x < n)) && decide (c.sum ≤ 10) &&
  (List.range n).all (fun k => ((r.drop (k + 1)).filter fun x => decide (x < r.getD k 0)).length == c.getD k 0) &&
  (outOf n c).all (fun k => valid n (exch k c) && decide (ranksOf n (exch k c) = swapAt k r) && decide ((exch k c).sum + 1 = c.sum)) &&
  (decide (outOf n c ≠ []) || (decide (c.sum = 0))) && (decide (c.sum ≠ 0) || (decide (outOf n c = []) && decide (r = List.range n)))
theorem law_all : ∀ n ∈ [3, 4, 5], ∀ c ∈ codes n, lawAt n c = true := by decide +kernel
theorem law_at {n : Nat} {c : List Nat} (h3 : 3 ≤ n) (h5 : n ≤ 5) (h : valid n c = true) : lawAt n c = true :=
  law_all n (by have : n = 3 ∨ n = 4 ∨ n = 5 := by omega
                rcases this with rfl | rfl | rfl <;> simp) c (mem_codes h)
structure LawAt (n : Nat) (c : List Nat) (r : List Nat) : Prop where
  v : valid n c = true
  hr : r = ranksOf n c
  len : c.length = n
  rlen : r.length = n
  rlt : ∀ x ∈ r, x < n
  sum : c.sum ≤ 10
  later : ∀ k, k < n → ((r.drop (k + 1)).filter fun x => decide (x < r.getD k 0)).length = c.getD k 0
  exch : ∀ k ∈ outOf n c, valid n (exch k c) = true ∧ ranksOf n (exch k c) = swapAt k r ∧ (exch k c).sum + 1 = c.sum
  noOut : outOf n c = [] → c.sum = 0
  last : c.sum = 0 → outOf n c = [] ∧ r = List.range n
theorem lawAt_of {n : Nat} {c : List Nat} (h3 : 3 ≤ n) (h5 : n ≤ 5) (h : valid n c = true) : LawAt n c (ranksOf n c) := by
  have := law_at h3 h5 h
  simp only [lawAt, Bool.and_eq_true, Bool.or_eq_true, decide_eq_true_eq, beq_iff_eq, List.all_eq_true, List.mem_range] at this
  obtain ⟨⟨⟨⟨⟨⟨a, b⟩, c1⟩, d⟩, e⟩, f⟩, g⟩ := this
  exact ⟨h, rfl, valid_length h, a, b, c1, d, fun k hk => ⟨(e k hk).1.1, (e k hk).1.2, (e k hk).2⟩, fun q => f.elim (fun z => absurd q z) id, fun q => g.elim (fun z => absurd q z) id⟩
theorem LawAt.next {n : Nat} {c r : List Nat} (x : LawAt n c r) (h3 : 3 ≤ n) (h5 : n ≤ 5) {k : Nat} (hk : k ∈ outOf n c) : LawAt n (Mine.exch k c) (swapAt k r) := by
  obtain ⟨a, b, _⟩ := x.exch k hk
  exact b ▸ lawAt_of h3 h5 a
theorem out_lt {n : Nat} {c : List Nat} {k : Nat} (h : k ∈ outOf n c) : k + 1 < n ∧ c.getD (k + 1) 0 < c.getD k 0 := by
  simp only [outOf, List.mem_filter, List.mem_range, decide_eq_true_eq] at h
  exact ⟨by omega, h.2⟩
/-- the lists while the ranks are drawn -/
def leftAt (n : Nat) (c : List Nat) (i : Nat) : List Nat := ((c.take i).foldl stepL (List.range n, [])).1
def ranksAt (n : Nat) (c : List Nat) (i : Nat) : List Nat := ((c.take i).foldl stepL (List.range n, [])).2
theorem foldl_take {α β : Type} (f : α → β → α) : ∀ (l : List β) (a : α) (i : Nat) (x : β), l[i]? = some x → (l.take (i + 1)).foldl f a = f ((l.take i).foldl f a) x
  | [], _, _, _, e => by cases e
  | y :: l, a, 0, x, e => by cases e; simp
  | y :: l, a, i + 1, x, e => by
    simp only [List.take_succ_cons, List.foldl_cons]
    exact foldl_take f l (f a y) i x e
theorem leftAt_next {n : Nat} {c : List Nat} {i x : Nat} (e : c[i]? = some x) : leftAt n c (i + 1) = (leftAt n c i).take x ++ (leftAt n c i).drop (x + 1) := by
  unfold leftAt; rw [foldl_take _ _ _ _ _ e]; rfl
theorem ranksAt_next {n : Nat} {c : List Nat} {i x : Nat} (e : c[i]? = some x) : ranksAt n c (i + 1) = ranksAt n c i ++ [(leftAt n c i).getD x 0] := by
  unfold ranksAt leftAt; rw [foldl_take _ _ _ _ _ e]; rfl
theorem leftAt_length {n : Nat} {c : List Nat} (h : valid n c = true) : ∀ {i : Nat}, i ≤ c.length → (leftAt n c i).length + i = n
  | 0, _ => by simp [leftAt]
  | i + 1, hi => by
    obtain ⟨x, hx⟩ : ∃ x, c[i]? = some x := ⟨c[i], List.getElem?_eq_getElem (by omega)⟩
    have ih := leftAt_length h (i := i) (by omega)
    have := valid_lt h hx
    rw [leftAt_next hx, List.length_append, List.length_take, List.length_drop]
    omega
theorem ranksAt_length {n : Nat} {c : List Nat} : ∀ {i : Nat}, i ≤ c.length → (ranksAt n c i).length = i
  | 0, _ => by simp [ranksAt]
  | i + 1, hi => by
    obtain ⟨x, hx⟩ : ∃ x, c[i]? = some x := ⟨c[i], List.getElem?_eq_getElem (by omega)⟩
    rw [ranksAt_next hx, List.length_append, ranksAt_length (by omega)]; rfl
theorem ranksAt_all {n : Nat} {c : List Nat} (h : valid n c = true) : ranksAt n c n = ranksOf n c := by
  unfold ranksAt ranksOf
  rw [List.take_of_length_le (by rw [valid_length h]; exact Nat.le_refl _)]
/-- the values that stand in the row -/
def rowV (ws : List Value) (r : List Nat) : List Value := r.map fun i => ws.getD i .none
/-- the values in their order: numbers or texts, each less than the next -/
def Wd (n : Nat) (ws : List Value) : Prop := ws.length = n ∧ ((∃ ns, IntsAre ws ns) ∨ (∃ ss, StrsAre ws ss ∧ ∀ x ∈ ss, PyData.strOk x = true)) ∧ ∀ i j, i < n → j < n → LtV (ws.getD i .none) (ws.getD j .none) (decide (i < j))
end Mine
end
section
open PySem PySem.W PySem.Spec PySem.Calls PyProof.Rows
set_option maxRecDepth 100000
namespace Mine
theorem three_five {x : Int} (h : 0 ≤ x) (h' : x < 3) : ∃ n : Nat, 3 ≤ n ∧ n ≤ 5 ∧ 3 + x = (n : Int) := ⟨(3 + x).toNat, by omega, by omega, by omega⟩
theorem code_ok {dl : List Int} {ys : List Value} {n : Nat} (I : IntsAre ys (List.map (fun k' => (dl.getD (1 + k').toNat 0).fmod ((n : Int) - k')) (rangeKs 0 ((n : Int) - 0).toNat))) :
    ∃ c : List Nat, valid n c = true ∧ IntsAre ys (c.map Int.ofNat) := by
  have main : ∀ (m : Nat) (f : Nat → Int) (l : List Int), l = (List.range m).map f → (∀ i, i < m → 0 ≤ f i ∧ f i < (m : Int) - i) → ∃ c : List Nat, valid m c = true ∧ l = c.map Int.ofNat := by
    intro m
    induction m with
    | zero => exact fun f l h _ => ⟨[], rfl, by simpa using h⟩
    | succ m ih =>
      intro f l h hf
      rw [List.range_succ_eq_map, List.map_cons, List.map_map] at h
      obtain ⟨c, hc, e⟩ := ih (fun i => f (i + 1)) _ rfl fun i hi => by have := hf (i + 1) (by omega); omega
      have h0 := hf 0 (by omega)
      refine ⟨(f 0).toNat :: c, ?_, ?_⟩
      · simp only [valid, Bool.and_eq_true, decide_eq_true_eq]; exact ⟨by omega, hc⟩
      · rw [h, List.map_cons, ← e]
        congr 1
        show f 0 = ((f 0).toNat : Int)
        omega
  obtain ⟨c, hc, e⟩ := main n (fun i => (dl.getD (1 + (0 + (i : Int))).toNat 0).fmod ((n : Int) - (0 + (i : Int)))) (List.map (fun k' => (dl.getD (1 + k').toNat 0).fmod ((n : Int) - k')) (rangeKs 0 ((n : Int) - 0).toNat)) (by
    unfold rangeKs
    rw [List.map_map, show ((n : Int) - 0).toNat = n by omega]
    rfl) fun i hi => by
      have h1 : (0 : Int) < (n : Int) - (0 + (i : Int)) := by omega
      have a := Int.fmod_nonneg_of_pos (dl.getD (1 + (0 + (i : Int))).toNat 0) h1
      have b := Int.fmod_lt_of_pos (dl.getD (1 + (0 + (i : Int))).toNat 0) h1
      constructor <;> omega
  exact ⟨c, hc, e ▸ I⟩
theorem ints_getD : ∀ {vs : List Value} {ns : List Int}, IntsAre vs ns → ∀ i, i < ns.length → ∃ t, vs.getD i .none = .int (ns.getD i 0) t
  | _, _, .cons n t r, 0, _ => ⟨t, rfl⟩
  | _, _, .cons n t r, i + 1, h => ints_getD r i (by simpa using h)
  | _, _, .nil, _, h => by simp at h
theorem strs_getD : ∀ {vs : List Value} {ns : List PySem.Str}, StrsAre vs ns → ∀ i, i < ns.length → ∃ t, vs.getD i .none = .str (ns.getD i ⟨#[]⟩) t
  | _, _, .cons n t r, 0, _ => ⟨t, rfl⟩
  | _, _, .cons n t r, i + 1, h => strs_getD r i (by simpa using h)
  | _, _, .nil, _, h => by simp at h
theorem wd_ints {ys : List Value} {n : Nat} (I : IntsAre ys (List.map (fun k' => 3 * k' - 5) (rangeKs 0 ((n : Int) - 0).toNat))) : Wd n ys := by
  have hl : (List.map (fun k' => 3 * k' - 5) (rangeKs 0 ((n : Int) - 0).toNat)).length = n := by rw [List.length_map, rangeKs_length]; omega
  refine ⟨by rw [I.length, hl], .inl ⟨_, I⟩, fun i j hi hj => ?_⟩
  obtain ⟨t, e⟩ := ints_getD I i (by rw [hl]; exact hi)
  obtain ⟨u, f⟩ := ints_getD I j (by rw [hl]; exact hj)
  have g : ∀ i, i < n → (List.map (fun k' : Int => 3 * k' - 5) (rangeKs 0 ((n : Int) - 0).toNat)).getD i 0 = 3 * (i : Int) - 5 := fun i hi => by
    unfold rangeKs
    rw [List.map_map, List.getD_eq_getElem?_getD, List.getElem?_map, List.getElem?_range (by omega)]
    simp
  rw [g i hi] at e
  rw [g j hj] at f
  refine .inl ⟨_, _, _, _, e, f, ?_⟩
  by_cases h : i < j
  · rw [decide_eq_true h, decide_eq_true (by omega)]
  · rw [decide_eq_false h, decide_eq_false (by omega)]
def letters (n : Nat) : List PySem.Str := (List.range n).map fun i => ⟨#[97 + i]⟩
theorem letters_eq {n : Nat} (h3 : 3 ≤ n) (h5 : n ≤ 5) : signs (Txt.slice (Str.ofString "abcde") none (some (n : Int))) = letters n := by
  have : n = 3 ∨ n = 4 ∨ n = 5 := by omega
  rcases this with rfl | rfl | rfl <;> decide +kernel
theorem strs_of_carried : ∀ {ys : List Value} {ss : List PySem.Str}, CarriedAll ys (ss.map .str) → StrsAre ys ss
  | [], [], _ => .nil
  | _ :: _, [], h => by cases h
  | [], _ :: _, h => by cases h
  | v :: vs, x :: xs, h => by
    cases h with
    | cons hc hr => cases hc with
      | str => exact .cons _ _ (strs_of_carried hr)
theorem strs_length : ∀ {ys : List Value} {ss : List PySem.Str}, StrsAre ys ss → ys.length = ss.length
  | _, _, .nil => rfl
  | _, _, .cons _ _ r => by simp [strs_length r]
theorem wd_strs {ys : List Value} {n : Nat} (h3 : 3 ≤ n) (h5 : n ≤ 5) (I : CarriedAll ys ((signs (Txt.slice (Str.ofString "abcde") none (some (n : Int)))).map .str)) : Wd n ys := by
  rw [letters_eq h3 h5] at I
  have S := strs_of_carried I
  have hl : (letters n).length = n := by simp [letters]
  refine ⟨by rw [strs_length S, hl], .inr ⟨_, S, fun x hx => ?_⟩, fun i j hi hj => ?_⟩
  · obtain ⟨i, hi, rfl⟩ := List.mem_map.mp hx
    have hi := List.mem_range.mp hi
    have : i = 0 ∨ i = 1 ∨ i = 2 ∨ i = 3 ∨ i = 4 := by omega
    rcases this with rfl | rfl | rfl | rfl | rfl <;> decide +kernel
  obtain ⟨t, e⟩ := strs_getD S i (by rw [hl]; exact hi)
  obtain ⟨u, f⟩ := strs_getD S j (by rw [hl]; exact hj)
  have g : ∀ i, i < n → (letters n).getD i ⟨#[]⟩ = ⟨#[97 + i]⟩ := fun i hi => by
    unfold letters
    rw [List.getD_eq_getElem?_getD, List.getElem?_map, List.getElem?_range (by omega)]
    rfl
  rw [g i hi] at e
  rw [g j hj] at f
  refine .inr ⟨_, _, _, _, e, f, ?_⟩
  have : ((#[97 + i] : Array Nat).toList < (#[97 + j] : Array Nat).toList) ↔ i < j := by
    show ([97 + i] : List Nat) < [97 + j] ↔ _
    rw [List.cons_lt_cons_iff]
    simp
  by_cases h : i < j
  · rw [decide_eq_true h]; exact (decide_eq_true (this.mpr h)).symm
  · rw [decide_eq_false h]; exact (decide_eq_false fun q => h (this.mp q)).symm
/-- the worths stand in their cell -/
def JW (h₀ : Heap) (L : Addr) (m : PySem.Str → Option Value) (s : Shared) (n : Nat) (news : Obj → List (Addr × Obj)) (f : Flow) (s' : Shared) : Prop :=
  f = .next ∧ ∃ h' tk' W ws c oW, s' = { s with heap := h', toks := tk' } ∧ Fr h₀ L h' m ∧ News h₀ L h' ((W, ({ cls := .type "list", data := .seq ws c } : Obj)) :: news oW) ∧ oW.data = .cell (some (.ref W)) ∧ Wd n ws.toList ∧ AllNe W (news oW)
theorem JW.intro {h₀ h' : Heap} {L W : Addr} {m : PySem.Str → Option Value} {s : Shared} {n c : Nat} {tk' : Nat} {news : Obj → List (Addr × Obj)} {ws : Array Value} {oW : Obj}
    (F : Fr h₀ L h' m) (N : News h₀ L h' ((W, ({ cls := .type "list", data := .seq ws c } : Obj)) :: news oW)) (d : oW.data = .cell (some (.ref W))) (wd : Wd n ws.toList) (ne : ∀ p ∈ news oW, p.1 ≠ W) : JW h₀ L m s n news .next { s with heap := h', toks := tk' } :=
  ⟨rfl, h', tk', W, ws, c, oW, rfl, F, N, d, wd, allNe_of ne⟩
theorem cut_worths {M : Model} {A : Around} {t : Sem Flow} {Q : Flow → Shared → Prop} {E : Value → Shared → Prop} {h₀ : Heap} {L b : Addr} {m : PySem.Str → Option Value} {s : Shared} (n : Nat) {p1 p2 p3 : Addr × Obj} {ob : Obj} {rest : List (Addr × Obj)}
    (_F : Fr h₀ L s.heap m) (_N : News h₀ L s.heap (p1 :: p2 :: p3 :: (b, ob) :: rest)) (walk : wpAny M A t (JW h₀ L m s n fun o => p1 :: p2 :: p3 :: (b, o) :: rest) E s)
    (go : ∀ h' tk' W ws c oW, Fr h₀ L h' m → News h₀ L h' ((W, ({ cls := .type "list", data := .seq ws c } : Obj)) :: p1 :: p2 :: p3 :: (b, oW) :: rest) → oW.data = .cell (some (.ref W)) → Wd n ws.toList → AllNe W (p1 :: p2 :: p3 :: (b, oW) :: rest) → Q .next { s with heap := h', toks := tk' }) :
    wpAny M A t Q E s := wpAny_mono walk (fun f s' h => by
      obtain ⟨rfl, h', tk', W, ws, c, oW, rfl, F', N', d, wd, ne⟩ := h
      exact go h' tk' W ws c oW F' N' d wd ne) fun _ _ e => e
section
variable {prog : Program} {w : World} {A : Around} {E : Value → Shared → Prop} {s : Shared} {h₀ : Heap} {L : Addr} {m : PySem.Str → Option Value} {news : List (Addr × Obj)}
theorem list_text {x : PySem.Str} {t : Tok} {Q : Value → Shared → Prop} (hh : A.handled = none) (F : Fr h₀ L s.heap m) (N : News h₀ L s.heap news) (hn : x.length ≤ sizeLine)
    (ret : ∀ D c h' tk (ys : List Value), Fr h₀ L h' m → News h₀ L h' ((D, ({ cls := .type "list", data := .seq ys.toArray c } : Obj)) :: news) → AllNe D news → CarriedAll ys ((signs x).map .str) → Q (.ref D) { s with heap := h', toks := tk }) :
    wpAny (model prog w) A (call (.type "list") [.str x t]) Q E s := by
  refine list_strD hh F N (fun h' tk ys F' N' k hn' _ P C => ?_) hn
  obtain ⟨⟨c, e⟩, ne⟩ := P
  exact ret _ c h' tk ys F' (news_add F N k (Heap.get?_none_of_le (Nat.le_refl _)) e) (allNe_of ne) C
end
end Mine
end
section
open PySem PySem.W PySem.Spec PySem.Calls PyProof.Rows
set_option maxRecDepth 100000
namespace Mine
def HoldL (p : Prop) : Prop := p
theorem holdL {p : Prop} (h : HoldL p) : p := h
abbrev listV (vs : List Value) (c : Nat) : Obj := { cls := .type "list", data := .seq vs.toArray c }
abbrev listA (vs : Array Value) (c : Nat) : Obj := { cls := .type "list", data := .seq vs c }
/-- the state while the ranks are drawn -/
def Inv1 (n : Nat) (c : List Nat) (R : Addr) (base : List (Addr × Obj)) (m₀ : PySem.Str → Option Value) (_m : PySem.Str → Option Value) (_nw : List (Addr × Obj)) (i : Nat) (m' : PySem.Str → Option Value) (news' : List (Addr × Obj)) : Prop :=
  ∃ Lf lv cl rv cr pl, news' = (Lf, listV lv cl) :: (R, listA rv cr) :: base ∧ IntsAre lv ((leftAt n c i).map Int.ofNat) ∧ IntsAre rv.toList ((ranksAt n c i).map Int.ofNat) ∧ AllNe R ((Lf, listV lv cl) :: base) ∧
    m' = fun y => if y = Str.ofString "left" then some (.ref Lf) else if y = Str.ofString "place" then pl else m₀ y
theorem Inv1.intro {n : Nat} {c : List Nat} {R Lf : Addr} {base nw : List (Addr × Obj)} {m₀ m m' : PySem.Str → Option Value} {i : Nat} {lv : List Value} {rv : Array Value} {cl cr : Nat} (pl : Option Value)
    (hl : IntsAre lv ((leftAt n c i).map Int.ofNat)) (hr : IntsAre rv.toList ((ranksAt n c i).map Int.ofNat)) (ne : ∀ p ∈ (Lf, listV lv cl) :: base, p.1 ≠ R)
    (hm : m' = fun y => if y = Str.ofString "left" then some (.ref Lf) else if y = Str.ofString "place" then pl else m₀ y) :
    Inv1 n c R base m₀ m nw i m' ((Lf, listV lv cl) :: (R, listA rv cr) :: base) := ⟨Lf, lv, cl, rv, cr, pl, rfl, hl, hr, allNe_of ne, hm⟩
/-- the turn's end -/
theorem Inv1.next {n : Nat} {c : List Nat} {R Lf Lf' : Addr} {base nw : List (Addr × Obj)} {m₀ m : PySem.Str → Option Value} {i ci ri : Nat} {ws : List Value} {rv : Array Value} {cl cr : Nat} {pl : Option Value} {v : Value} {tr : Tok}
    (hci : c[i]? = some ci) (hri : (leftAt n c i).getD ci 0 = ri) (hl : IntsAre ws (((leftAt n c i).map Int.ofNat).take ((ci : Nat) : Int).toNat ++ ((leftAt n c i).map Int.ofNat).drop (((ci : Nat) : Int) + 1).toNat)) (hr : IntsAre rv.toList ((ranksAt n c i).map Int.ofNat))
    (ne : ∀ p ∈ (Lf', listV ws cl) :: base, p.1 ≠ R) :
    Inv1 n c R base m₀ m nw (i + 1) (fun y => if y = Str.ofString "left" then some (.ref Lf') else if y = Str.ofString "place" then some v else if y = Str.ofString "left" then some (.ref Lf) else if y = Str.ofString "place" then pl else m₀ y)
      ((Lf', listV ws cl) :: (R, listA (rv.push (.int (ri : Int) tr)) cr) :: base) := by
  refine Inv1.intro (some v) ?_ ?_ ne ?_
  · rw [leftAt_next hci, List.map_append, List.map_take, List.map_drop]
    rwa [show (((ci : Nat) : Int) + 1).toNat = ci + 1 by omega, Int.toNat_natCast] at hl
  · rw [ranksAt_next hci, List.map_append, Array.toList_push, hri]
    exact IntsAre.append hr (.cons _ _ .nil)
  · funext y
    by_cases h1 : y = Str.ofString "left"
    · simp only [if_pos h1]
    · by_cases h2 : y = Str.ofString "place"
      · simp only [if_neg h1, if_pos h2]
      · simp only [if_neg h1, if_neg h2]
theorem ints_some {vs : List Value} {ns : List Nat} (I : IntsAre vs (ns.map Int.ofNat)) {i : Nat} {v : Value} (e : vs[i]? = some v) : ∃ x t, ns[i]? = some x ∧ v = .int (x : Int) t := by
  induction ns generalizing vs i with
  | nil => cases I; cases e
  | cons x ns ih =>
    cases I with
    | cons _ t r =>
      cases i with
      | zero => cases e; exact ⟨x, t, rfl, rfl⟩
      | succ i => exact ih r e
theorem ints_at {vs : List Value} {ns : List Nat} (I : IntsAre vs (ns.map Int.ofNat)) {i : Nat} (h : i < ns.length) : ∃ t, vs[i]? = some (.int ((ns.getD i 0 : Nat) : Int) t) := by
  induction ns generalizing vs i with
  | nil => simp at h
  | cons x ns ih =>
    cases I with
    | cons _ t r =>
      cases i with
      | zero => exact ⟨t, rfl⟩
      | succ i => exact ih r (by simpa using h)
theorem ints_len {vs : List Value} {ns : List Nat} (I : IntsAre vs (ns.map Int.ofNat)) : vs.length = ns.length := by rw [I.length, List.length_map]
end Mine
end
section
open PySem PySem.W PySem.Spec PySem.Calls PyProof.Rows
set_option maxRecDepth 100000
namespace Mine
theorem ints_range : ∀ {vs : List Value} {n : Nat}, IntsAre vs (rangeKs 0 ((n : Int) - 0).toNat) → IntsAre vs ((List.range n).map Int.ofNat) := by
  intro vs n h
  have : rangeKs 0 ((n : Int) - 0).toNat = (List.range n).map Int.ofNat := by
    unfold rangeKs
    rw [show ((n : Int) - 0).toNat = n by omega]
    refine List.map_congr_left fun a _ => ?_
    simp
  rwa [this] at h
section
variable {prog : Program} {w : World} {A : Around} {E : Value → Shared → Prop} {s₁ : Shared} {env : Env}
theorem law_loop1 {target : Expr} {body : List Stmt} {Q : Flow → Shared → Prop} {g : Heap} {L C R Lf : Addr} {m₀ : PySem.Str → Option Value} {vs ysc : List Value} {cl cc n : Nat} {base : List (Addr × Obj)} {c : List Nat}
    (hh : A.handled = none) (F : Fr g L s₁.heap fun y => if y = Str.ofString "left" then some (.ref Lf) else m₀ y) (N : News g L s₁.heap ((R, listV [] 0) :: (Lf, listV vs cl) :: base)) (hC : (C, listV ysc cc) ∈ base) (h5 : n ≤ 5) (hv : valid n c = true)
    (Ic : IntsAre ysc (c.map Int.ofNat)) (Il : IntsAre vs (rangeKs 0 ((n : Int) - 0).toNat)) (ne : ∀ p ∈ (Lf, listV vs cl) :: base, p.1 ≠ R)
    (turn : ∀ i ci t ri tr I oI h tk Lf lv cl rv cr pl (E' : Value → Shared → Prop), c[i]? = some ci → i < n → ci < lv.length → lv.toArray[((ci : Nat) : Int).toNat]? = some (.int ((ri : Nat) : Int) tr) → (leftAt n c i).getD ci 0 = ri →
      Fr g L h (fun y => if y = Str.ofString "left" then some (.ref Lf) else if y = Str.ofString "place" then pl else m₀ y) → News g L h ((I, oI) :: (Lf, listV lv cl) :: (R, listA rv cr) :: base) → AllNe I ((Lf, listV lv cl) :: (R, listA rv cr) :: base) →
      IntsAre lv ((leftAt n c i).map Int.ofNat) → IntsAre rv.toList ((ranksAt n c i).map Int.ofNat) → AllNe R ((Lf, listV lv cl) :: base) → lv.length ≤ 5 → rv.size ≤ 5 → (leftAt n c i).length ≤ 5 →
      wpAny (model prog w) A (assign target env (.int ((ci : Nat) : Int) t)) (fun _ s₂ => wpAny (model prog w) A (execs body env) (TurnEnd s₁ g L (Inv1 n c R base m₀ (fun y => if y = Str.ofString "left" then some (.ref Lf) else m₀ y) [] (i + 1)) Q I oI) E' s₂) E' { s₁ with heap := h, toks := tk })
    (fin : ∀ h tk Lf lv cl rv cr pl, Fr g L h (fun y => if y = Str.ofString "left" then some (.ref Lf) else if y = Str.ofString "place" then pl else m₀ y) → News g L h ((Lf, listV lv cl) :: (R, listV rv cr) :: base) → IntsAre rv ((ranksOf n c).map Int.ofNat) → AllNe R ((Lf, listV lv cl) :: base) → Q .next { s₁ with heap := h, toks := tk })
    (ht : ∀ it v, letOwnedTupleGo target it v = pure () := by intro _ _; rfl) :
    wpAny (model prog w) A (pyIter (.ref C)) (ForSrc prog w A env target body Q E) E s₁ := by
  have clen := valid_length hv
  have yn : ysc.length = n := by rw [ints_len Ic, clen]
  have hC' : (C, listV ysc cc) ∈ (R, listV [] 0) :: (Lf, listV vs cl) :: base := .tail _ (.tail _ hC)
  have N1 : News g L s₁.heap ((Lf, listV vs cl) :: (R, listV [] 0) :: base) := fun p hp => by
    rcases List.mem_cons.mp hp with rfl | hp
    · exact N _ (.tail _ (.head _))
    · rcases List.mem_cons.mp hp with rfl | hp
      · exact N _ (.head _)
      · exact N _ (.tail _ (.tail _ hp))
  refine for_J (Inv1 n c R base m₀) (isSrc_list (l := C) (items := ysc.toArray) hh ⟨_, (N _ hC').1, rfl, cc, rfl⟩) F N1 [(C, listV ysc cc)] (fun a ha => ⟨listV ysc cc, by have e := List.mem_singleton.mp ha; subst e; exact .head _⟩) ?_ (fun i m' news' h p hp => ?_) ?_ ?_ ht
  · refine Inv1.intro (rv := #[]) (m₀ (Str.ofString "place")) (ints_range Il) .nil ne ?_
    funext y
    by_cases h1 : y = Str.ofString "left"
    · rw [if_pos h1, if_pos h1]
    · rw [if_neg h1, if_neg h1]
      by_cases h2 : y = Str.ofString "place"
      · rw [if_pos h2, h2]
      · rw [if_neg h2]
  · obtain ⟨_, _, _, _, _, _, rfl, _⟩ := h
    rw [List.mem_singleton.mp hp]
    exact .tail _ (.tail _ hC)
  · intro i v I oI h tk m' news' E' hi hP inv F' N' off
    obtain ⟨Lf', lv, cl', rv, cr, pl, rfl, hl, hr, neR, rfl⟩ := inv
    rw [List.size_toArray, yn] at hi
    obtain ⟨ci, t, hci, rfl⟩ := ints_some Ic (by simpa using hP)
    have hlt := valid_lt hv hci
    have llen := leftAt_length hv (i := i) (by omega)
    have lvl := ints_len hl
    have rvl : rv.size = (ranksAt n c i).length := by rw [← ints_len hr, Array.length_toList]
    rw [ranksAt_length (by omega)] at rvl
    obtain ⟨tr, e⟩ := ints_at hl (i := ci) (by omega)
    have off' : AllNe I ((Lf', listV lv cl') :: (R, listA rv cr) :: base) := allNe_of off
    exact wpAny_mono (turn i ci t _ tr I oI h tk Lf' lv cl' rv cr pl E' hci hi (by omega) (by simpa using e) rfl F' N' off' hl hr neR (by omega) (by omega) (by omega)) (fun _ s₂ q => wpAny_mono q (fun f s₃ z => by
      cases f with
      | next => obtain ⟨h', tk', m', news', a, b, c, d, e⟩ := z; exact ⟨h', tk', m', news', a, b, c, d, e⟩
      | cont => obtain ⟨h', tk', m', news', a, b, c, d, e⟩ := z; exact ⟨h', tk', m', news', a, b, c, d, e⟩
      | brk => exact z
      | ret v => exact z) fun _ _ e => e) fun _ _ e => e
  · intro h tk m' news' inv F' N'
    obtain ⟨Lf', lv, cl', rv, cr, pl, rfl, hl, hr, neR, rfl⟩ := inv
    rw [List.size_toArray, yn, ranksAt_all hv] at hr
    exact fin h tk Lf' lv cl' rv.toList cr pl F' N' hr neR
end
end Mine
end
section
open PySem PySem.W PySem.Spec PySem.Calls PyProof.Rows
set_option maxRecDepth 100000
namespace Mine
theorem Tst.imp {L : Addr} {prog : Program} {w : World} {A : Around} {elt : Expr} {cenv : Env} {E' : Value → Shared → Prop} {s₁ : Shared} {h : Heap} {R R' : Value → Heap → Prop} {R₀ R₀' : Heap → Prop} {ok : Bool} {s₄ : Shared}
    (h1 : ∀ y h', R y h' → R' y h') (h2 : ∀ h', R₀ h' → R₀' h') (t : Tst L prog w A elt cenv E' s₁ h R R₀ ok s₄) : Tst L prog w A elt cenv E' s₁ h R' R₀' ok s₄ := by
  obtain ⟨h₄, tk₄, rfl, k, z⟩ := t
  refine ⟨h₄, tk₄, rfl, k, ?_⟩
  cases ok with
  | false => simpa using h2 _ (by simpa using z)
  | true =>
    simp only [if_true] at z ⊢
    exact wpAny_mono z (fun y s₅ q => by obtain ⟨a, b, rfl, c, d⟩ := q; exact ⟨a, b, rfl, c, h1 _ _ d⟩) fun _ _ e => e
theorem range_pick {α : Type} {f : Nat → Option α} (i : Nat) : (List.range (i + 1)).filterMap f = (List.range i).filterMap f ++ (f i).toList := by
  rw [List.range_succ, List.filterMap_append]
  congr 1
section
variable {prog : Program} {w : World} {A : Around} {E : Value → Shared → Prop} {env : Env}
theorem src_pick {scope : Scope} {cl : List (PySem.Str × Addr)} {x : PySem.Str} {ifs : List Expr} {elt : Expr} {srcs : List Addr} {n : Nat} {P : Nat → Value → Prop} {s₁ : Shared} {xv : Value} {Q : Value → Shared → Prop} {m : PySem.Str → Option Value} {g : Heap} {L : Addr} {news : List (Addr × Obj)} (f : Nat → Option Value) (hL : env.locals = L)
    (S : IsSrc prog w A s₁ xv srcs n P) (hn : n ≤ 100) (F : Fr g L s₁.heap m) (N : News g L s₁.heap news) (hLs : ∀ b ∈ srcs, b ≠ L)
    (turn : ∀ i v C oC h tk m₃ (E' : Value → Shared → Prop), i < n → P i v → LCg.NsObj oC m₃ → m₃ x = some v → KeepL L s₁.heap h → Fr g L h m → News g L h ((C, oC) :: news) → AllNe C news →
      wpAny (model prog w) A (forIn ifs true fun c r => if r = true then do let ok ← isTrue c (compEnvC scope cl C env) (eval c (compEnvC scope cl C env)); pure (ForInStep.yield ok) else pure (ForInStep.yield r))
        (Tst L prog w A elt (compEnvC scope cl C env) E' s₁ h (fun y _ => f i = some y) (fun _ => f i = none)) E' { s₁ with heap := h, toks := tk })
    (fin : ∀ D h' tk, Fr g L h' m → News g L h' ((D, LCg.lst ((List.range n).filterMap f)) :: news) → AllNe D news → s₁.heap.get? D = none → KeepL L s₁.heap h' → Q (.ref D) { s₁ with heap := h', toks := tk }) :
    wpAny (model prog w) A (pyIter xv) (SrcJ prog w A env scope cl x ifs elt Q) E s₁ := by
  subst hL
  refine src_J (fun _ _ vs ys _ => ys = (List.range vs.length).filterMap f) S (Nat.le_trans hn (by decide)) F.ns (fun hm => hLs _ hm rfl) (fun _ _ _ _ _ j _ => j) (fun _ => rfl) ?_ ?_
  · intro X C oC v vs ys h tk m₃ E' hlt hP hoC hx hk hC gC _ _ _ _ hj
    have F' := fr_L F hk
    have N' := news_at F F' (news_L N hk) gC hC
    refine wpAny_mono (turn vs.length v C oC h tk m₃ E' hlt hP hoC hx hk F' N' (ne_new N gC)) (fun ok s₄ t => Tst.imp (fun y h' e => ?_) (fun h' e => ?_) t) fun _ _ e => e
    · show _ = List.filterMap f (List.range (vs ++ [v]).length)
      rw [List.length_append, List.length_singleton, range_pick, e, hj]; rfl
    · show _ = List.filterMap f (List.range (vs ++ [v]).length)
      rw [List.length_append, List.length_singleton, range_pick, e, hj]; simp
  · intro D h' tk ys vs X gD hD hlen _ hj _ hk
    have F' := fr_L F hk
    subst hj
    rw [hlen] at hD
    exact fin D h' tk F' (news_at F F' (news_L N hk) gD hD) (ne_new N gD) gD hk
theorem src_pickA {scope : Scope} {cl : List (PySem.Str × Addr)} {x y : PySem.Str} {ifs : List Expr} {elt : Expr} {srcs : List Addr} {n : Nat} {P : Nat → Value → Prop} {s₁ : Shared} {xv : Value} {Q : Flow → Shared → Prop} {m : PySem.Str → Option Value} {g : Heap} {L : Addr} {news : List (Addr × Obj)} (f : Nat → Option Value) (hL : env.locals = L)
    (S : IsSrc prog w A s₁ xv srcs n P) (hn : n ≤ 100) (F : Fr g L s₁.heap m) (N : News g L s₁.heap news) (hLs : ∀ b ∈ srcs, b ≠ L)
    (turn : ∀ i v C oC h tk m₃ (E' : Value → Shared → Prop), i < n → P i v → LCg.NsObj oC m₃ → m₃ x = some v → KeepL L s₁.heap h → Fr g L h m → News g L h ((C, oC) :: news) → AllNe C news →
      wpAny (model prog w) A (forIn ifs true fun c r => if r = true then do let ok ← isTrue c (compEnvC scope cl C env) (eval c (compEnvC scope cl C env)); pure (ForInStep.yield ok) else pure (ForInStep.yield r))
        (Tst L prog w A elt (compEnvC scope cl C env) E' s₁ h (fun y _ => f i = some y) (fun _ => f i = none)) E' { s₁ with heap := h, toks := tk })
    (fin : ∀ D h' tk, Fr g L h' (fun z => if z = y then some (.ref D) else m z) → News g L h' ((D, LCg.lst ((List.range n).filterMap f)) :: news) → AllNe D news → s₁.heap.get? D = none → ExtO [L] s₁.heap h' → Q .next { s₁ with heap := h', toks := tk }) :
    wpAny (model prog w) A (pyIter xv) (SrcJA prog w A env scope cl x y ifs elt Q) E s₁ := by
  subst hL
  refine src_JA (fun _ _ vs ys _ => ys = (List.range vs.length).filterMap f) S (Nat.le_trans hn (by decide)) F.ns (fun hm => hLs _ hm rfl) (fun _ _ _ _ _ j _ => j) (fun _ => rfl) ?_ ?_
  · intro X C oC v vs ys h tk m₃ E' hlt hP hoC hx hk hC gC _ _ _ _ hj
    have F' := fr_L F hk
    have N' := news_at F F' (news_L N hk) gC hC
    refine wpAny_mono (turn vs.length v C oC h tk m₃ E' hlt hP hoC hx hk F' N' (ne_new N gC)) (fun ok s₄ t => Tst.imp (fun y h' e => ?_) (fun h' e => ?_) t) fun _ _ e => e
    · show _ = List.filterMap f (List.range (vs ++ [v]).length)
      rw [List.length_append, List.length_singleton, range_pick, e, hj]; rfl
    · show _ = List.filterMap f (List.range (vs ++ [v]).length)
      rw [List.length_append, List.length_singleton, range_pick, e, hj]; simp
  · intro D h' tk ys vs X gD hD hlen _ hj _ hn' hk
    have F' := fr_bound F hn' hk
    subst hj
    rw [hlen] at hD
    refine fin D h' tk F' (fun p hp => ?_) (ne_new N gD) gD hk
    rcases List.mem_cons.mp hp with rfl | hp
    · refine ⟨hD, fun q => ?_, ?_⟩
      · obtain ⟨_, _, _, e, _⟩ := F.ns
        have q' : D = env.locals := q
        rw [← q', gD] at e; cases e
      · cases e : g.get? D with
        | none => rfl
        | some o => have := F.keep _ _ e; rw [gD] at this; cases this
    · exact news_bound N hk p hp
end
theorem isSrc_listN {prog : Program} {w : World} {A : Around} {s₁ : Shared} {l : Addr} {vs : List Value} {c n : Nat} (hh : A.handled = none) (hl : s₁.heap.get? l = some (listV vs c)) (e : vs.length = n) : IsSrc prog w A s₁ (.ref l) [l] n (fun i v => vs[i]? = some v) := by
  have := isSrc_list (prog := prog) (w := w) (A := A) (s₁ := s₁) (l := l) (items := vs.toArray) hh ⟨_, hl, rfl, c, rfl⟩
  rw [List.size_toArray, e] at this
  simpa using this
theorem rowV_next {ws : List Value} {r : List Nat} {i ri : Nat} (e : r[i]? = some ri) : rowV ws (r.take (i + 1)) = rowV ws (r.take i) ++ [ws.getD ri .none] := by
  unfold rowV
  rw [List.take_add_one, e, List.map_append]; rfl
theorem rowV_pick {ws : List Value} {r : List Nat} : (List.range r.length).filterMap (fun i => (r[i]?).map fun j => ws.getD j .none) = rowV ws r := by
  have : ∀ k, k ≤ r.length → (List.range k).filterMap (fun i => (r[i]?).map fun j => ws.getD j .none) = rowV ws (r.take k) := by
    intro k
    induction k with
    | zero => intro _; simp [rowV]
    | succ k ih =>
      intro hk
      rw [range_pick, ih (by omega), List.getElem?_eq_getElem (by omega : k < r.length), rowV_next (List.getElem?_eq_getElem (by omega))]
      rfl
  rw [this _ (Nat.le_refl _), List.take_length]
theorem ws_at {ws : Array Value} {n ri : Nat} (wd : Wd n ws.toList) (h : ri < n) : ws[((ri : Nat) : Int).toNat]? = some (ws.toList.getD ri .none) := by
  have : ri < ws.size := by rw [← Array.length_toList, wd.1]; exact h
  rw [Int.toNat_natCast, Array.getElem?_eq_getElem this, List.getD_eq_getElem?_getD, Array.getElem?_toList, Array.getElem?_eq_getElem this]; rfl
end Mine
end
section
open PySem PySem.W PySem.Spec PySem.Calls PyProof.Rows
set_option maxRecDepth 100000
namespace Mine
theorem dict_form {prog : Program} {w : World} {o : Obj} {kvs : List (PySem.Str × Value)} (h : Obj.IsDictOf (PySem.strKind prog w) o kvs) : ∃ es ep, o = ({ cls := .type "dict", data := .dict es ep } : Obj) := by
  obtain ⟨es, ep, ⟨a, b, c⟩, d, _⟩ := h
  obtain ⟨_, _, _, _⟩ := o
  simp only at a b c d
  subst a b c d
  exact ⟨es, ep, rfl⟩
/-- all addresses of a ledger are unlike -/
def Apart : List (Addr × Obj) → Prop
  | [] => True
  | p :: r => AllNe p.1 r ∧ Apart r
abbrev NF (doc : Addr) (tv qv dv ov : Option Value) (m₀ : PySem.Str → Option Value) : PySem.Str → Option Value := fun y =>
  if y = Str.ofString "document" then some (.ref doc) else if y = Str.ofString "turn" then tv else if y = Str.ofString "question" then qv else if y = Str.ofString "told" then dv else if y = Str.ofString "out" then ov else m₀ y
theorem nf_of {doc : Addr} {m' m₀ : PySem.Str → Option Value} (hd : m' (Str.ofString "document") = some (.ref doc))
    (h : ∀ y, y ≠ Str.ofString "document" → y ≠ Str.ofString "turn" → y ≠ Str.ofString "question" → y ≠ Str.ofString "told" → y ≠ Str.ofString "out" → m' y = m₀ y) :
    m' = NF doc (m' (Str.ofString "turn")) (m' (Str.ofString "question")) (m' (Str.ofString "told")) (m' (Str.ofString "out")) m₀ := by
  funext y
  unfold NF
  by_cases h1 : y = Str.ofString "document"
  · rw [if_pos h1, h1, hd]
  rw [if_neg h1]
  by_cases h2 : y = Str.ofString "turn"
  · rw [if_pos h2, h2]
  rw [if_neg h2]
  by_cases h3 : y = Str.ofString "question"
  · rw [if_pos h3, h3]
  rw [if_neg h3]
  by_cases h4 : y = Str.ofString "told"
  · rw [if_pos h4, h4]
  rw [if_neg h4]
  by_cases h5 : y = Str.ofString "out"
  · rw [if_pos h5, h5]
  rw [if_neg h5]
  exact h y h1 h2 h3 h4 h5
/-- the ledger of the main loop -/
abbrev L2 (L B Rw doc Ri W Ci Dr : Addr) (bo dob : Obj) (rows : Array Value) (nr : Nat) (yr : List Value) (cr : Nat) (ws : Array Value) (cw : Nat) (yc : List Value) (cc : Nat) (yd : List Value) (cd : Nat) (oR oW oC oM oD oK oS : Obj) : List (Addr × Obj) :=
  [(B, bo), (Rw, listA rows nr), (doc, dob), (Ri, listV yr cr), (W, listA ws cw), (Ci, listV yc cc), (Dr, listV yd cd), ((L + 1 + 1 + 1 + 1 + 1 + 1 + 1 : Nat), oR), ((L + 1 + 1 + 1 + 1 + 1 + 1 : Nat), oW), ((L + 1 + 1 + 1 + 1 + 1 : Nat), oC), ((L + 1 + 1 + 1 + 1 : Nat), oM), ((L + 1 + 1 + 1 : Nat), oD), ((L + 1 + 1 : Nat), oK), ((L + 1 : Nat), oS)]
/-- the pure side of the main loop -/
structure Sit (n S0 : Nat) (ws : Array Value) (i : Nat) (c r : List Nat) (yc yr : List Value) (rows : Array Value) (oC oR : Obj) (Ci Ri : Addr) : Prop where
  la : LawAt n c r
  sum : c.sum = S0 - i
  Ic : IntsAre yc (c.map Int.ofNat)
  Ir : IntsAre yr (r.map Int.ofNat)
  row : rows.toList = rowV ws.toList r
  dC : oC.data = .cell (some (.ref Ci))
  dR : oR.data = .cell (some (.ref Ri))
def Inv2 (n S0 : Nat) (L B Rw doc W Dr : Addr) (bo dob : Obj) (ws : Array Value) (cw : Nat) (yd : List Value) (cd : Nat) (oW oM oD oS : Obj) (m₀ _m : PySem.Str → Option Value) (_nw : List (Addr × Obj)) (i : Nat) (m' : PySem.Str → Option Value) (news' : List (Addr × Obj)) : Prop :=
  ∃ c r yc cc yr cr rows nr oC oR oK Ci Ri tv qv dv ov ok, news' = L2 L B Rw doc Ri W Ci Dr bo dob rows nr yr cr ws cw yc cc yd cd oR oW oC oM oD oK oS ∧ Sit n S0 ws i c r yc yr rows oC oR Ci Ri ∧ Apart news' ∧ oK.data = .cell ok ∧ m' = NF doc tv qv dv ov m₀
theorem Inv2.intro {n S0 : Nat} {L B Rw doc W Dr Ci Ri : Addr} {bo dob oC oR oK : Obj} {ws rows : Array Value} {cw nr cr cc : Nat} {yd yr yc : List Value} {cd : Nat} {oW oM oD oS : Obj} {m₀ m : PySem.Str → Option Value} {nw : List (Addr × Obj)} {i : Nat} {m' : PySem.Str → Option Value} {c r : List Nat} {ok : Option Value}
    (s : Sit n S0 ws i c r yc yr rows oC oR Ci Ri) (ap : Apart (L2 L B Rw doc Ri W Ci Dr bo dob rows nr yr cr ws cw yc cc yd cd oR oW oC oM oD oK oS)) (dK : oK.data = .cell ok) (hd : m' (Str.ofString "document") = some (.ref doc))
    (h : ∀ y, y ≠ Str.ofString "document" → y ≠ Str.ofString "turn" → y ≠ Str.ofString "question" → y ≠ Str.ofString "told" → y ≠ Str.ofString "out" → m' y = m₀ y) :
    Inv2 n S0 L B Rw doc W Dr bo dob ws cw yd cd oW oM oD oS m₀ m nw i m' (L2 L B Rw doc Ri W Ci Dr bo dob rows nr yr cr ws cw yc cc yd cd oR oW oC oM oD oK oS) :=
  ⟨c, r, yc, cc, yr, cr, rows, nr, oC, oR, oK, Ci, Ri, _, _, _, _, ok, rfl, s, ap, dK, nf_of hd h⟩
def Inv3 (L B Rw doc Ri W Ci Dr : Addr) (bo dob : Obj) (rows : Array Value) (nr : Nat) (yr : List Value) (cr : Nat) (ws : Array Value) (cw : Nat) (yc : List Value) (cc : Nat) (yd : List Value) (cd : Nat) (oR oW oC oM oD oS : Obj) (tv : Option Value) (m₀ _m : PySem.Str → Option Value) (_nw : List (Addr × Obj)) (_i : Nat) (m' : PySem.Str → Option Value) (news' : List (Addr × Obj)) : Prop :=
  ∃ oK qv dv ov ok, news' = L2 L B Rw doc Ri W Ci Dr bo dob rows nr yr cr ws cw yc cc yd cd oR oW oC oM oD oK oS ∧ oK.data = .cell ok ∧ m' = NF doc tv qv dv ov m₀
theorem Inv3.intro {L B Rw doc W Dr Ci Ri : Addr} {bo dob oC oR oK : Obj} {ws rows : Array Value} {cw nr cr cc : Nat} {yd yr yc : List Value} {cd : Nat} {oW oM oD oS : Obj} {m₀ m : PySem.Str → Option Value} {nw : List (Addr × Obj)} {i : Nat} {m' : PySem.Str → Option Value} {ok tv : Option Value}
    (dK : oK.data = .cell ok) (ht : m' (Str.ofString "turn") = tv) (hd : m' (Str.ofString "document") = some (.ref doc))
    (h : ∀ y, y ≠ Str.ofString "document" → y ≠ Str.ofString "turn" → y ≠ Str.ofString "question" → y ≠ Str.ofString "told" → y ≠ Str.ofString "out" → m' y = m₀ y) :
    Inv3 L B Rw doc Ri W Ci Dr bo dob rows nr yr cr ws cw yc cc yd cd oR oW oC oM oD oS tv m₀ m nw i m' (L2 L B Rw doc Ri W Ci Dr bo dob rows nr yr cr ws cw yc cc yd cd oR oW oC oM oD oK oS) := ⟨oK, _, _, _, ok, rfl, dK, ht ▸ nf_of hd h⟩
theorem TurnEnd.imp {s : Shared} {g : Heap} {L : Addr} {J J' : (PySem.Str → Option Value) → List (Addr × Obj) → Prop} {Q : Flow → Shared → Prop} {I : Addr} {oI : Obj} {f : Flow} {s₃ : Shared} (hj : ∀ m n, J m n → J' m n) (t : TurnEnd s g L J Q I oI f s₃) : TurnEnd s g L J' Q I oI f s₃ := by
  cases f with
  | next => obtain ⟨h', tk', m', news', a, b, c, d, e⟩ := t; exact ⟨h', tk', m', news', a, b, c, d, hj _ _ e⟩
  | cont => obtain ⟨h', tk', m', news', a, b, c, d, e⟩ := t; exact ⟨h', tk', m', news', a, b, c, d, hj _ _ e⟩
  | brk => exact t
  | ret v => exact t
section
variable {prog : Program} {w : World} {A : Around} {E : Value → Shared → Prop} {s₁ : Shared} {env : Env}
theorem law_loop2 {target : Expr} {body : List Stmt} {Q : Flow → Shared → Prop} {g : Heap} {n S0 : Nat} {L B Rw doc W Dr Ci Ri rg : Addr} {bo dob oC oR oK : Obj} {ws rows : Array Value} {cw nr cr cc : Nat} {yd yr yc : List Value} {cd : Nat} {oW oM oD oS : Obj} {m₀ : PySem.Str → Option Value} {c r : List Nat} {nb : Int} {t u v : Tok} {ok : Option Value}
    (hh : A.handled = none) (hnb : nb = ((S0 + 1 : Nat) : Int)) (hS : S0 ≤ 10) (hr : IsRange s₁.heap rg 0 nb 1 t u v)
    (F : Fr g L s₁.heap fun y => if y = Str.ofString "document" then some (.ref doc) else m₀ y) (N : News g L s₁.heap (L2 L B Rw doc Ri W Ci Dr bo dob rows nr yr cr ws cw yc cc yd cd oR oW oC oM oD oK oS))
    (ap : Apart (L2 L B Rw doc Ri W Ci Dr bo dob rows nr yr cr ws cw yc cc yd cd oR oW oC oM oD oK oS)) (dK : oK.data = .cell ok) (sit : Sit n S0 ws 0 c r yc yr rows oC oR Ci Ri)
    (turn : ∀ i tt c r yc cc yr cr rows nr oC oR oK Ci Ri tv qv dv ov ok I oI h tk (E' : Value → Shared → Prop), i ≤ S0 → oK.data = .cell ok → Sit n S0 ws i c r yc yr rows oC oR Ci Ri → Fr g L h (NF doc tv qv dv ov m₀) →
      News g L h ((I, oI) :: L2 L B Rw doc Ri W Ci Dr bo dob rows nr yr cr ws cw yc cc yd cd oR oW oC oM oD oK oS) → AllNe I (L2 L B Rw doc Ri W Ci Dr bo dob rows nr yr cr ws cw yc cc yd cd oR oW oC oM oD oK oS) → Apart (L2 L B Rw doc Ri W Ci Dr bo dob rows nr yr cr ws cw yc cc yd cd oR oW oC oM oD oK oS) →
      wpAny (model prog w) A (assign target env (.int ((i : Nat) : Int) tt)) (fun _ s₂ => wpAny (model prog w) A (execs body env) (TurnEnd s₁ g L (Inv2 n S0 L B Rw doc W Dr bo dob ws cw yd cd oW oM oD oS m₀ m₀ [] (i + 1)) Q I oI) E' s₂) E' { s₁ with heap := h, toks := tk })
    (fin : ∀ c r yc cc yr cr rows nr oC oR oK Ci Ri tv qv dv ov h tk, Sit n S0 ws (S0 + 1) c r yc yr rows oC oR Ci Ri → Fr g L h (NF doc tv qv dv ov m₀) → News g L h (L2 L B Rw doc Ri W Ci Dr bo dob rows nr yr cr ws cw yc cc yd cd oR oW oC oM oD oK oS) →
      Apart (L2 L B Rw doc Ri W Ci Dr bo dob rows nr yr cr ws cw yc cc yd cd oR oW oC oM oD oK oS) → Q .next { s₁ with heap := h, toks := tk })
    (ht : ∀ it v, letOwnedTupleGo target it v = pure () := by intro _ _; rfl) :
    wpAny (model prog w) A (pyIter (.ref rg)) (ForSrc prog w A env target body Q E) E s₁ := by
  subst hnb
  refine for_J (Inv2 n S0 L B Rw doc W Dr bo dob ws cw yd cd oW oM oD oS m₀) (isSrc_range (n := S0 + 1) hh hr (small_one (by omega) (by omega) (by omega) (by omega)) ((rangeSize_nat _ _).trans (by omega))) F N [] (fun a ha => by cases ha) ?_ (fun _ _ _ _ p hp => by cases hp) ?_ ?_ ht
  · refine ⟨c, r, yc, cc, yr, cr, rows, nr, oC, oR, oK, Ci, Ri, m₀ (Str.ofString "turn"), m₀ (Str.ofString "question"), m₀ (Str.ofString "told"), m₀ (Str.ofString "out"), ok, rfl, sit, ap, dK, ?_⟩
    exact nf_of (m' := fun y => if y = Str.ofString "document" then some (.ref doc) else m₀ y) (if_pos rfl) fun y h _ _ _ _ => if_neg h
  · intro i v I oI h tk m' news' E' hi hP inv F' N' off
    obtain ⟨t', rfl⟩ := hP
    obtain ⟨c, r, yc, cc, yr, cr, rows, nr, oC, oR, oK, Ci, Ri, tv, qv, dv, ov, ok, rfl, s, ap, dK, rfl⟩ := inv
    rw [Int.zero_add]
    exact wpAny_mono (turn i t' c r yc cc yr cr rows nr oC oR oK Ci Ri tv qv dv ov ok I oI h tk E' (by omega) dK s F' N' (allNe_of off) ap) (fun _ s₂ q => wpAny_mono q (fun f s₃ z => TurnEnd.imp (fun _ _ j => j) z) fun _ _ e => e) fun _ _ e => e
  · intro h tk m' news' inv F' N'
    obtain ⟨c, r, yc, cc, yr, cr, rows, nr, oC, oR, oK, Ci, Ri, tv, qv, dv, ov, ok, rfl, s, ap, dK, rfl⟩ := inv
    exact fin c r yc cc yr cr rows nr oC oR oK Ci Ri tv qv dv ov h tk s F' N' ap
theorem law_loop3 {target : Expr} {body : List Stmt} {Q : Flow → Shared → Prop} {g : Heap} {n : Nat} {L B Rw doc W Dr Ci Ri rg I2 : Addr} {bo dob oC oR oK oI2 : Obj} {ws rows : Array Value} {cw nr cr cc : Nat} {yd yr yc : List Value} {cd : Nat} {oW oM oD oS : Obj} {m₀ : PySem.Str → Option Value} {tv₀ tv qv dv ov : Option Value} {nb : Int} {t u v : Tok} {ok : Option Value}
    (hh : A.handled = none) (hnb : nb = ((n : Nat) : Int)) (hn : n ≤ 5) (dK : oK.data = .cell ok) (hr : IsRange s₁.heap rg 0 nb 1 t u v)
    (F : Fr g L s₁.heap fun y => if y = Str.ofString "turn" then tv₀ else NF doc tv qv dv ov m₀ y) (N : News g L s₁.heap ((I2, oI2) :: L2 L B Rw doc Ri W Ci Dr bo dob rows nr yr cr ws cw yc cc yd cd oR oW oC oM oD oK oS))
    (turn : ∀ i tt oK qv dv ov ok I oI h tk (E' : Value → Shared → Prop), i < n → oK.data = .cell ok → Fr g L h (NF doc tv₀ qv dv ov m₀) →
      News g L h ((I, oI) :: (I2, oI2) :: L2 L B Rw doc Ri W Ci Dr bo dob rows nr yr cr ws cw yc cc yd cd oR oW oC oM oD oK oS) → AllNe I ((I2, oI2) :: L2 L B Rw doc Ri W Ci Dr bo dob rows nr yr cr ws cw yc cc yd cd oR oW oC oM oD oK oS) →
      wpAny (model prog w) A (assign target env (.int ((i : Nat) : Int) tt)) (fun _ s₂ => wpAny (model prog w) A (execs body env) (TurnEnd s₁ g L (fun m' news' => ∃ nw, news' = (I2, oI2) :: nw ∧ Inv3 L B Rw doc Ri W Ci Dr bo dob rows nr yr cr ws cw yc cc yd cd oR oW oC oM oD oS tv₀ m₀ m₀ [] (i + 1) m' nw) Q I oI) E' s₂) E' { s₁ with heap := h, toks := tk })
    (fin : ∀ oK qv dv ov ok h tk, oK.data = .cell ok → Fr g L h (NF doc tv₀ qv dv ov m₀) → News g L h ((I2, oI2) :: L2 L B Rw doc Ri W Ci Dr bo dob rows nr yr cr ws cw yc cc yd cd oR oW oC oM oD oK oS) → Q .next { s₁ with heap := h, toks := tk })
    (ht : ∀ it v, letOwnedTupleGo target it v = pure () := by intro _ _; rfl) :
    wpAny (model prog w) A (pyIter (.ref rg)) (ForSrc prog w A env target body Q E) E s₁ := by
  subst hnb
  refine for_J (fun m₁ nw₁ i m' news' => ∃ nw, news' = (I2, oI2) :: nw ∧ Inv3 L B Rw doc Ri W Ci Dr bo dob rows nr yr cr ws cw yc cc yd cd oR oW oC oM oD oS tv₀ m₀ m₀ [] i m' nw) (isSrc_range (n := n) hh hr (small_one (by omega) (by omega) (by omega) (by omega)) ((rangeSize_nat _ _).trans (by omega))) F N [] (fun a ha => by cases ha) ?_ (fun _ _ _ _ p hp => by cases hp) ?_ ?_ ht
  · refine ⟨_, rfl, Inv3.intro dK (m' := fun y => if y = Str.ofString "turn" then tv₀ else NF doc tv qv dv ov m₀ y) (if_pos rfl) ?_ fun y h1 h2 h3 h4 h5 => ?_⟩
    · rw [if_neg (by decide)]; exact if_pos rfl
    · show (if y = Str.ofString "turn" then tv₀ else NF doc tv qv dv ov m₀ y) = _
      rw [if_neg h2]
      show (if y = Str.ofString "document" then _ else if y = Str.ofString "turn" then _ else if y = Str.ofString "question" then _ else if y = Str.ofString "told" then _ else if y = Str.ofString "out" then _ else _) = _
      rw [if_neg h1, if_neg h2, if_neg h3, if_neg h4, if_neg h5]
  · intro i v I oI h tk m' news' E' hi hP inv F' N' off
    obtain ⟨t', rfl⟩ := hP
    obtain ⟨nw, rfl, oK, qv, dv, ov, ok, rfl, dK, rfl⟩ := inv
    rw [Int.zero_add]
    exact wpAny_mono (turn i t' oK qv dv ov ok I oI h tk E' hi dK F' N' (allNe_of off)) (fun _ s₂ q => wpAny_mono q (fun f s₃ z => TurnEnd.imp (fun _ _ j => j) z) fun _ _ e => e) fun _ _ e => e
  · intro h tk m' news' inv F' N'
    obtain ⟨nw, rfl, oK, qv, dv, ov, ok, rfl, dK, rfl⟩ := inv
    exact fin oK qv dv ov ok h tk dK F' N'
end
end Mine
namespace Mine
theorem sum_cast : ∀ c : List Nat, (List.map Int.ofNat c).sum = ((c.sum : Nat) : Int)
  | [] => rfl
  | x :: c => by rw [List.map_cons, List.sum_cons, List.sum_cons, sum_cast c]; simp
theorem sum_cast1 (c : List Nat) : (List.map Int.ofNat c).sum + 1 = ((c.sum + 1 : Nat) : Int) := by rw [sum_cast]; omega
end Mine
namespace Mine
theorem News.drop4 {g h : Heap} {L : Addr} {a b c d : Addr × Obj} {r : List (Addr × Obj)} (N : News g L h (a :: b :: c :: d :: r)) : News g L h (a :: b :: c :: r) := fun p hp => N p (by
  rcases List.mem_cons.mp hp with rfl | hp
  · exact .head _
  · rcases List.mem_cons.mp hp with rfl | hp
    · exact .tail _ (.head _)
    · rcases List.mem_cons.mp hp with rfl | hp
      · exact .tail _ (.tail _ (.head _))
      · exact .tail _ (.tail _ (.tail _ (.tail _ hp))))
end Mine
end
section
open PySem PySem.W PySem.Spec PySem.Calls PyProof.Rows
set_option maxRecDepth 100000
namespace Mine
theorem LtV.fn {x y : Value} {b b' : Bool} (h : LtV x y b) (h' : LtV x y b') : b = b' := by
  rcases h with ⟨a, ta, c, tc, rfl, rfl, rfl⟩ | ⟨a, ta, c, tc, rfl, rfl, rfl⟩ <;> rcases h' with ⟨a', ta', c', tc', e1, e2, rfl⟩ | ⟨a', ta', c', tc', e1, e2, rfl⟩ <;> cases e1 <;> cases e2 <;> rfl
noncomputable def ltOf (y x : Value) : Bool := @decide (LtV x y true) (Classical.propDecidable _)
theorem ltOf_eq {x y : Value} {b : Bool} (h : LtV x y b) : ltOf y x = b := by
  unfold ltOf
  cases b with
  | true => exact @decide_eq_true _ (Classical.propDecidable _) h
  | false => exact @decide_eq_false _ (Classical.propDecidable _) fun q => by cases LtV.fn q h
theorem ltOf_is {x y : Value} {b : Bool} (h : LtV x y b) : LtV x y (ltOf y x) := by rw [ltOf_eq h]; exact h
theorem filter_row {n rk : Nat} {ws : List Value} (wd : Wd n ws) (hk : rk < n) : ∀ {r : List Nat}, (∀ x ∈ r, x < n) → (rowV ws r).filter (ltOf (ws.getD rk .none)) = rowV ws (r.filter fun x => decide (x < rk))
  | [], _ => rfl
  | a :: r, h => by
    have ih := filter_row wd hk (r := r) fun x hx => h x (.tail _ hx)
    have e := ltOf_eq (wd.2.2 a rk (h a (.head _)) hk)
    unfold rowV at ih ⊢
    rw [List.map_cons, List.filter_cons, List.filter_cons, e, ih]
    by_cases q : a < rk <;> simp [q]
theorem rowV_drop {ws : List Value} {r : List Nat} {k : Nat} : (rowV ws r).drop k = rowV ws (r.drop k) := by unfold rowV; rw [List.map_drop]
theorem rowV_at {ws : List Value} {r : List Nat} {k rk : Nat} (h : r[k]? = some rk) : (rowV ws r)[k]? = some (ws.getD rk .none) := by unfold rowV; rw [List.getElem?_map, h]; rfl
theorem rowV_mem {ws : List Value} {r : List Nat} {v : Value} (h : v ∈ rowV ws r) : ∃ j ∈ r, v = ws.getD j .none := by
  obtain ⟨j, hj, rfl⟩ := List.mem_map.mp h
  exact ⟨j, hj, rfl⟩
/-- what stands at k -/
structure AtK (n : Nat) (ws : Array Value) (c r : List Nat) (yc yr : List Value) (rows : Array Value) (k rk ck : Nat) : Prop where
  here : r[k]? = some rk
  rlt : rk < n
  row : rows[((k : Nat) : Int).toNat]? = some (ws.toList.getD rk .none)
  rank : ∃ t, yr.toArray[((k : Nat) : Int).toNat]? = some (.int ((rk : Nat) : Int) t)
  code : ∃ t, yc.toArray[((k : Nat) : Int).toNat]? = some (.int ((ck : Nat) : Int) t)
  later : ((rows.toList.drop (k + 1)).filter (ltOf (ws.toList.getD rk .none))) = rowV ws.toList ((r.drop (k + 1)).filter fun x => decide (x < rk))
  len : ((r.drop (k + 1)).filter fun x => decide (x < rk)).length = ck
  lt : ∀ x ∈ rows.toList.drop (k + 1), LtV x (ws.toList.getD rk .none) (ltOf (ws.toList.getD rk .none) x)
  size : rows.size = n
  ylen : yr.length = n
  clen : yc.length = n
theorem atK {n S0 i k : Nat} {ws rows : Array Value} {c r : List Nat} {yc yr : List Value} {oC oR : Obj} {Ci Ri : Addr} (wd : Wd n ws.toList) (s : Sit n S0 ws i c r yc yr rows oC oR Ci Ri) (hk : k < n) : ∃ rk ck, AtK n ws c r yc yr rows k rk ck := by
  have la := s.la
  have h1 : r[k]? = some (r.getD k 0) := by rw [List.getD_eq_getElem?_getD, List.getElem?_eq_getElem (by rw [la.rlen]; exact hk)]; rfl
  have rlt : r.getD k 0 < n := la.rlt _ (List.mem_of_getElem? h1)
  have sz : rows.size = n := by rw [← Array.length_toList, s.row, rowV, List.length_map, la.rlen]
  refine ⟨r.getD k 0, c.getD k 0, h1, rlt, ?_, ?_, ?_, ?_, la.later k hk, ?_, sz, by rw [ints_len s.Ir, la.rlen], by rw [ints_len s.Ic, la.len]⟩
  · rw [Int.toNat_natCast, ← Array.getElem?_toList, s.row, rowV_at h1]
  · obtain ⟨t, e⟩ := ints_at s.Ir (i := k) (by rw [la.rlen]; exact hk)
    exact ⟨t, by simpa using e⟩
  · obtain ⟨t, e⟩ := ints_at s.Ic (i := k) (by rw [la.len]; exact hk)
    exact ⟨t, by simpa using e⟩
  · rw [s.row, rowV_drop, filter_row wd rlt fun x hx => la.rlt x (List.mem_of_mem_drop hx)]
  · intro x hx
    rw [s.row, rowV_drop] at hx
    obtain ⟨j, hj, rfl⟩ := rowV_mem hx
    exact ltOf_is (wd.2.2 j _ (la.rlt j (List.mem_of_mem_drop hj)) rlt)
end Mine
namespace Mine
theorem news_dat {h₀ hs h9 h : Heap} {L z : Addr} {m : PySem.Str → Option Value} {o : Obj} (F : Fr h₀ L hs m) (f : hs.get? z = none) (q : h9.get? z = some o) (k : KeepL L h9 h) : News h₀ L h [(z, o)] := fun p hp => by
  obtain rfl := List.mem_singleton.mp hp
  have hzL : z ≠ L := fun e => by
    obtain ⟨oL, _, _, g, _⟩ := F.ns
    rw [← e, f] at g; cases g
  refine ⟨k.1 _ _ (by simp) hzL q, hzL, ?_⟩
  cases e : h₀.get? z with
  | none => rfl
  | some o' => have := F.keep _ _ e; rw [f] at this; cases this
theorem pick_vals {vs : List Value} : (List.range vs.length).filterMap (fun i => vs[i]?) = vs := by
  have : ∀ k, k ≤ vs.length → (List.range k).filterMap (fun i => vs[i]?) = vs.take k := by
    intro k
    induction k with
    | zero => intro _; simp
    | succ k ih =>
      intro hk
      rw [range_pick, ih (by omega), List.take_add_one]
  rw [this _ (Nat.le_refl _), List.take_length]
end Mine
namespace Mine
theorem row_form {n : Nat} {ws : List Value} (wd : Wd n ws) {r : List Nat} (h : ∀ x ∈ r, x < n) {v : Value} (hv : v ∈ rowV ws r) : (∃ a t, v = .int a t) ∨ ∃ a t, v = .str a t := by
  obtain ⟨j, hj, rfl⟩ := rowV_mem hv
  rcases wd.2.2 j j (h j hj) (h j hj) with ⟨a, ta, _, _, e, _⟩ | ⟨a, ta, _, _, e, _⟩
  · exact .inl ⟨a, ta, e⟩
  · exact .inr ⟨a, ta, e⟩
end Mine
namespace Mine
theorem pick_filter {ws : List Value} {r : List Nat} {rk : Nat} : (List.range r.length).filterMap (fun i => (r[i]?).bind fun j => if j < rk then some (ws.getD j .none) else none) = rowV ws (r.filter fun x => decide (x < rk)) := by
  have : ∀ k, k ≤ r.length → (List.range k).filterMap (fun i => (r[i]?).bind fun j => if j < rk then some (ws.getD j .none) else none) = rowV ws ((r.take k).filter fun x => decide (x < rk)) := by
    intro k
    induction k with
    | zero => intro _; simp [rowV]
    | succ k ih =>
      intro hk
      rw [range_pick, ih (by omega), List.getElem?_eq_getElem (by omega : k < r.length), List.take_add_one, List.getElem?_eq_getElem (by omega : k < r.length), List.filter_append]
      unfold rowV
      rw [List.map_append]
      congr 1
      by_cases q : r[k] < rk
      · simp [q]
      · simp [q]
  rw [this _ (Nat.le_refl _), List.take_length]
theorem ints_row {ws : List Value} {ns : List Int} (I : IntsAre ws ns) : ∀ {r : List Nat}, (∀ x ∈ r, x < ws.length) → IntsAre (rowV ws r) (r.map fun i => ns.getD i 0)
  | [], _ => .nil
  | a :: r, h => by
    obtain ⟨t, e⟩ := ints_getD I a (by rw [← I.length]; exact h a (.head _))
    have ih := ints_row I (r := r) fun x hx => h x (.tail _ hx)
    unfold rowV at ih ⊢
    rw [List.map_cons, List.map_cons, e]
    exact .cons _ _ ih
theorem strs_row {ws : List Value} {ns : List PySem.Str} (I : StrsAre ws ns) : ∀ {r : List Nat}, (∀ x ∈ r, x < ws.length) → StrsAre (rowV ws r) (r.map fun i => ns.getD i ⟨#[]⟩)
  | [], _ => .nil
  | a :: r, h => by
    obtain ⟨t, e⟩ := strs_getD I a (by rw [← strs_length I]; exact h a (.head _))
    have ih := strs_row I (r := r) fun x hx => h x (.tail _ hx)
    unfold rowV at ih ⊢
    rw [List.map_cons, List.map_cons, e]
    exact .cons _ _ ih
end Mine
end
section
open PySem PySem.W PySem.Spec PySem.Calls PyProof.Rows
set_option maxRecDepth 100000
namespace Mine
/-- a new list, bound to a cell -/
def JL (h₀ : Heap) (L : Addr) (m : PySem.Str → Option Value) (s : Shared) (P : List Value → Prop) (g : Obj → List (Addr × Obj)) (f : Flow) (s' : Shared) : Prop :=
  f = .next ∧ ∃ h' tk' W ws c oW, s' = { s with heap := h', toks := tk' } ∧ Fr h₀ L h' m ∧ News h₀ L h' ((W, listV ws c) :: g oW) ∧ oW.data = .cell (some (.ref W)) ∧ P ws ∧ AllNe W (g oW)
theorem JL.intro {h₀ h' : Heap} {L W : Addr} {m : PySem.Str → Option Value} {s : Shared} {c : Nat} {tk' : Nat} {g : Obj → List (Addr × Obj)} {ws : List Value} {oW : Obj} {P : List Value → Prop}
    (F : Fr h₀ L h' m) (N : News h₀ L h' ((W, listV ws c) :: g oW)) (d : oW.data = .cell (some (.ref W))) (p : P ws) (ne : ∀ p ∈ g oW, p.1 ≠ W) : JL h₀ L m s P g .next { s with heap := h', toks := tk' } :=
  ⟨rfl, h', tk', W, ws, c, oW, rfl, F, N, d, p, allNe_of ne⟩
/-- a value, bound to a cell -/
def JV (h₀ : Heap) (L : Addr) (m : PySem.Str → Option Value) (s : Shared) (P : Value → Prop) (g : Obj → List (Addr × Obj)) (f : Flow) (s' : Shared) : Prop :=
  f = .next ∧ ∃ h' tk' v o, s' = { s with heap := h', toks := tk' } ∧ Fr h₀ L h' m ∧ News h₀ L h' (g o) ∧ o.data = .cell (some v) ∧ P v
theorem JV.intro {h₀ h' : Heap} {L : Addr} {m : PySem.Str → Option Value} {s : Shared} {tk' : Nat} {g : Obj → List (Addr × Obj)} {v : Value} {o : Obj} {P : Value → Prop}
    (F : Fr h₀ L h' m) (N : News h₀ L h' (g o)) (d : o.data = .cell (some v)) (p : P v) : JV h₀ L m s P g .next { s with heap := h', toks := tk' } :=
  ⟨rfl, h', tk', v, o, rfl, F, N, d, p⟩
section
variable {M : Model} {A : Around} {t : Sem Flow} {Q : Flow → Shared → Prop} {E : Value → Shared → Prop} {h₀ : Heap} {L b : Addr} {m : PySem.Str → Option Value} {s : Shared} {p1 p2 p3 p4 p5 p6 : Addr × Obj} {ob : Obj} {rest : List (Addr × Obj)}
theorem cutL (P : List Value → Prop) (g : Obj → List (Addr × Obj)) (walk : wpAny M A t (JL h₀ L m s P g) E s)
    (go : ∀ h' tk' W ws c oW, Fr h₀ L h' m → News h₀ L h' ((W, listV ws c) :: g oW) → oW.data = .cell (some (.ref W)) → P ws → AllNe W (g oW) → Q .next { s with heap := h', toks := tk' }) : wpAny M A t Q E s :=
  wpAny_mono walk (fun f s' h => by
    obtain ⟨rfl, h', tk', W, ws, c, oW, rfl, F', N', d, wd, ne⟩ := h
    exact go h' tk' W ws c oW F' N' d wd ne) fun _ _ e => e
theorem cutV (P : Value → Prop) (g : Obj → List (Addr × Obj)) (walk : wpAny M A t (JV h₀ L m s P g) E s)
    (go : ∀ h' tk' v o, Fr h₀ L h' m → News h₀ L h' (g o) → o.data = .cell (some v) → P v → Q .next { s with heap := h', toks := tk' }) : wpAny M A t Q E s :=
  wpAny_mono walk (fun f s' h => by
    obtain ⟨rfl, h', tk', v, o, rfl, F', N', d, p⟩ := h
    exact go h' tk' v o F' N' d p) fun _ _ e => e
/-- the draw -/
theorem cut_draw (P : List Value → Prop) (_F : Fr h₀ L s.heap m) (_N : News h₀ L s.heap (p1 :: p2 :: p3 :: p4 :: (b, ob) :: rest)) (walk : wpAny M A t (JL h₀ L m s P fun o => p1 :: p2 :: p3 :: p4 :: (b, o) :: rest) E s)
    (go : ∀ h' tk' W ws c oW, Fr h₀ L h' m → News h₀ L h' ((W, listV ws c) :: p1 :: p2 :: p3 :: p4 :: (b, oW) :: rest) → oW.data = .cell (some (.ref W)) → P ws → AllNe W (p1 :: p2 :: p3 :: p4 :: (b, oW) :: rest) → Q .next { s with heap := h', toks := tk' }) : wpAny M A t Q E s :=
  cutL P _ walk go
/-- many -/
theorem cut_many (P : Value → Prop) (_F : Fr h₀ L s.heap m) (_N : News h₀ L s.heap (p1 :: p2 :: p3 :: p4 :: (b, ob) :: rest)) (walk : wpAny M A t (JV h₀ L m s P fun o => p1 :: p2 :: p3 :: p4 :: (b, o) :: rest) E s)
    (go : ∀ h' tk' v o, Fr h₀ L h' m → News h₀ L h' (p1 :: p2 :: p3 :: p4 :: (b, o) :: rest) → o.data = .cell (some v) → P v → Q .next { s with heap := h', toks := tk' }) : wpAny M A t Q E s :=
  cutV P _ walk go
/-- the code, then the worths: the cell stands fourth -/
theorem cut_code (P : List Value → Prop) (_F : Fr h₀ L s.heap m) (_N : News h₀ L s.heap (p1 :: p2 :: p3 :: (b, ob) :: rest)) (walk : wpAny M A t (JL h₀ L m s P fun o => p1 :: p2 :: p3 :: (b, o) :: rest) E s)
    (go : ∀ h' tk' W ws c oW, Fr h₀ L h' m → News h₀ L h' ((W, listV ws c) :: p1 :: p2 :: p3 :: (b, oW) :: rest) → oW.data = .cell (some (.ref W)) → P ws → AllNe W (p1 :: p2 :: p3 :: (b, oW) :: rest) → Q .next { s with heap := h', toks := tk' }) : wpAny M A t Q E s :=
  cutL P _ walk go
/-- left, ranks -/
def JLR (h₀ : Heap) (L : Addr) (m : PySem.Str → Option Value) (s : Shared) (n : Nat) (g : Obj → List (Addr × Obj)) (f : Flow) (s' : Shared) : Prop :=
  f = .next ∧ ∃ h' tk' Lf vs cl R oR, s' = { s with heap := h', toks := tk' } ∧ Fr h₀ L h' (fun y => if y = Str.ofString "left" then some (.ref Lf) else m y) ∧ News h₀ L h' ((R, listV [] 0) :: (Lf, listV vs cl) :: g oR) ∧ oR.data = .cell (some (.ref R)) ∧ IntsAre vs (rangeKs 0 ((n : Int) - 0).toNat) ∧ AllNe R ((Lf, listV vs cl) :: g oR)
theorem JLR.intro {s : Shared} {n : Nat} {h' : Heap} {tk' : Nat} {Lf R : Addr} {vs : List Value} {cl : Nat} {oR : Obj} {T : Addr × Obj} {g : Obj → List (Addr × Obj)} (F : Fr h₀ L h' (fun y => if y = Str.ofString "left" then some (.ref Lf) else m y)) (N : News h₀ L h' (T :: (R, listV [] 0) :: (Lf, listV vs cl) :: g oR)) (d : oR.data = .cell (some (.ref R))) (i : IntsAre vs (rangeKs 0 ((n : Int) - 0).toNat))
    (ne : ∀ p ∈ (Lf, listV vs cl) :: g oR, p.1 ≠ R) : JLR h₀ L m s n g .next { s with heap := h', toks := tk' } := ⟨rfl, h', tk', Lf, vs, cl, R, oR, rfl, F, fun p hp => N p (.tail _ hp), d, i, allNe_of ne⟩
theorem cut_lr (n : Nat) (_F : Fr h₀ L s.heap m) (_N : News h₀ L s.heap (p1 :: p2 :: p3 :: (b, ob) :: rest)) (walk : wpAny M A t (JLR h₀ L m s n fun o => p1 :: p2 :: p3 :: (b, o) :: rest) E s)
    (go : ∀ h' tk' Lf vs cl R oR, Fr h₀ L h' (fun y => if y = Str.ofString "left" then some (.ref Lf) else m y) → News h₀ L h' ((R, listV [] 0) :: (Lf, listV vs cl) :: p1 :: p2 :: p3 :: (b, oR) :: rest) → oR.data = .cell (some (.ref R)) → IntsAre vs (rangeKs 0 ((n : Int) - 0).toNat) →
      AllNe R ((Lf, listV vs cl) :: p1 :: p2 :: p3 :: (b, oR) :: rest) → Q .next { s with heap := h', toks := tk' }) : wpAny M A t Q E s :=
  wpAny_mono walk (fun f s' h => by
    obtain ⟨rfl, h', tk', Lf, vs, cl, R, oR, rfl, F', N', d, i, ne⟩ := h
    exact go h' tk' Lf vs cl R oR F' N' d i ne) fun _ _ e => e
end
end Mine
namespace Mine
theorem many_ok (x : Int) (t : Tok) : ∃ n t', 3 ≤ n ∧ n ≤ 5 ∧ Value.int (3 + x.fmod 3) t = .int ((n : Nat) : Int) t' := by
  obtain ⟨n, h3, h5, e⟩ := three_five (Int.fmod_nonneg_of_pos x (by decide : (0 : Int) < 3)) (Int.fmod_lt_of_pos x (by decide))
  exact ⟨n, t, h3, h5, by rw [e]⟩
end Mine
namespace Mine
abbrev dictO (es : Array DictEntry) (ep : Nat) : Obj := { cls := .type "dict", data := .dict es ep }
/-- the document is built -/
def JD (w : World) (h₀ : Heap) (L : Addr) (m : PySem.Str → Option Value) (s : Shared) (n : Nat) (Ri W Ci Dr : Addr) (rows : Array Value) (yr : List Value) (cr : Nat) (ws : Array Value) (cw : Nat) (yc : List Value) (cc : Nat) (yd : List Value) (cd : Nat) (oR oW oC oM oD oK oS : Obj) (f : Flow) (s' : Shared) : Prop :=
  f = .next ∧ ∃ h' tk' B tb cb Rw nr doc es ep, s' = { s with heap := h', toks := tk' } ∧ Fr h₀ L h' (fun y => if y = Str.ofString "document" then some (.ref doc) else m y) ∧ News h₀ L h' (L2 L B Rw doc Ri W Ci Dr (listV [.int ((n : Nat) : Int) tb] cb) (dictO es ep) rows nr yr cr ws cw yc cc yd cd oR oW oC oM oD oK oS) ∧
    Obj.IsDictOf (PySem.strKind P0 w) (dictO es ep) [(("row" : PySem.Str), Value.ref Rw), (("beside" : PySem.Str), Value.ref B)] ∧ (doc == sysModules) = false ∧ Apart (L2 L B Rw doc Ri W Ci Dr (listV [.int ((n : Nat) : Int) tb] cb) (dictO es ep) rows nr yr cr ws cw yc cc yd cd oR oW oC oM oD oK oS)
theorem JD.intro {w : World} {h₀ h' : Heap} {L : Addr} {m : PySem.Str → Option Value} {s : Shared} {n : Nat} {Ri W Ci Dr B Rw doc : Addr} {rows : Array Value} {yr : List Value} {cr : Nat} {ws : Array Value} {cw : Nat} {yc : List Value} {cc : Nat} {yd : List Value} {cd : Nat} {oR oW oC oM oD oK oS o : Obj} {tk' : Nat} {tb : Tok} {cb nr : Nat} {T : Addr × Obj}
    (F : Fr h₀ L h' (fun y => if y = Str.ofString "document" then some (.ref doc) else m y)) (D : Obj.IsDictOf (PySem.strKind P0 w) o [(("row" : PySem.Str), Value.ref Rw), (("beside" : PySem.Str), Value.ref B)])
    (N : News h₀ L h' ((B, listV [.int ((n : Nat) : Int) tb] cb) :: (Rw, listA rows nr) :: (doc, o) :: T :: (Ri, listV yr cr) :: (W, listA ws cw) :: (Ci, listV yc cc) :: (Dr, listV yd cd) :: ((L + 1 + 1 + 1 + 1 + 1 + 1 + 1 : Nat), oR) :: ((L + 1 + 1 + 1 + 1 + 1 + 1 : Nat), oW) :: ((L + 1 + 1 + 1 + 1 + 1 : Nat), oC) :: ((L + 1 + 1 + 1 + 1 : Nat), oM) :: ((L + 1 + 1 + 1 : Nat), oD) :: ((L + 1 + 1 : Nat), oK) :: ((L + 1 : Nat), oS) :: []))
    (lo : (doc == sysModules) = false) (ap : Apart (L2 L B Rw doc Ri W Ci Dr (listV [.int ((n : Nat) : Int) tb] cb) o rows nr yr cr ws cw yc cc yd cd oR oW oC oM oD oK oS)) :
    JD w h₀ L m s n Ri W Ci Dr rows yr cr ws cw yc cc yd cd oR oW oC oM oD oK oS .next { s with heap := h', toks := tk' } := by
  obtain ⟨es, ep, rfl⟩ := dict_form D
  exact ⟨rfl, h', tk', B, tb, cb, Rw, nr, doc, es, ep, rfl, F, News.drop4 N, D, lo, ap⟩
theorem cut_doc {w : World} {A : Around} {t : Sem Flow} {Q : Flow → Shared → Prop} {E : Value → Shared → Prop} {h₀ : Heap} {L : Addr} {m : PySem.Str → Option Value} {s : Shared} (n : Nat) (rows : Array Value) {T : Addr × Obj} {Ri W Ci Dr : Addr} {yr : List Value} {cr : Nat} {ws : Array Value} {cw : Nat} {yc : List Value} {cc : Nat} {yd : List Value} {cd : Nat} {oR oW oC oM oD oK oS : Obj}
    (_F : Fr h₀ L s.heap m) (_N : News h₀ L s.heap (T :: (Ri, listV yr cr) :: (W, listA ws cw) :: (Ci, listV yc cc) :: (Dr, listV yd cd) :: ((L + 1 + 1 + 1 + 1 + 1 + 1 + 1 : Nat), oR) :: ((L + 1 + 1 + 1 + 1 + 1 + 1 : Nat), oW) :: ((L + 1 + 1 + 1 + 1 + 1 : Nat), oC) :: ((L + 1 + 1 + 1 + 1 : Nat), oM) :: ((L + 1 + 1 + 1 : Nat), oD) :: ((L + 1 + 1 : Nat), oK) :: ((L + 1 : Nat), oS) :: []))
    (walk : wpAny (model P0 w) A t (JD w h₀ L m s n Ri W Ci Dr rows yr cr ws cw yc cc yd cd oR oW oC oM oD oK oS) E s)
    (go : ∀ h' tk' B tb cb Rw nr doc es ep, Fr h₀ L h' (fun y => if y = Str.ofString "document" then some (.ref doc) else m y) → News h₀ L h' (L2 L B Rw doc Ri W Ci Dr (listV [.int ((n : Nat) : Int) tb] cb) (dictO es ep) rows nr yr cr ws cw yc cc yd cd oR oW oC oM oD oK oS) →
      Obj.IsDictOf (PySem.strKind P0 w) (dictO es ep) [(("row" : PySem.Str), Value.ref Rw), (("beside" : PySem.Str), Value.ref B)] → (doc == sysModules) = false → Apart (L2 L B Rw doc Ri W Ci Dr (listV [.int ((n : Nat) : Int) tb] cb) (dictO es ep) rows nr yr cr ws cw yc cc yd cd oR oW oC oM oD oK oS) →
      Q .next { s with heap := h', toks := tk' }) : wpAny (model P0 w) A t Q E s :=
  wpAny_mono walk (fun f s' h => by
    obtain ⟨rfl, h', tk', B, tb, cb, Rw, nr, doc, es, ep, rfl, F', N', d, lo, ap⟩ := h
    exact go h' tk' B tb cb Rw nr doc es ep F' N' d lo ap) fun _ _ e => e
end Mine
end
section
open PySem PySem.W PySem.Spec PySem.Calls PyProof.Rows
set_option maxRecDepth 100000
namespace Mine
/-- the question stands -/
abbrev QL (ch chd wh whd ex ed th thd sl sd ft f fd : Addr) (k : Nat) (yv : Value) (f1 f2 c1 c2 g1 g2 h1 h2 h3 h4 i1 i2 i3 : Int) (s1 s2 s3 q1 q2 r1 r2 t1 t2 t3 t4 v1 v2 v3 tk to : Tok) (nt : Nat) (led : List (Addr × Obj)) : List (Addr × Obj) :=
  (ch, instObj 427 chd) :: (chd, dictOf [⟨c1, .str "left" q1, .ref f⟩, ⟨c2, .str "right" q2, .ref wh⟩] 2) ::
  (wh, instObj 486 whd) :: (whd, dictOf [⟨g1, .str "left" r1, .ref sl⟩, ⟨g2, .str "right" r2, .ref ex⟩] 2) ::
  (ex, instObj 971 ed) :: (ed, dictOf [⟨i1, .str "target" v1, .ref th⟩, ⟨i2, .str "op" v2, .str "<" to⟩, ⟨i3, .str "value" v3, yv⟩] 3) :: (th, instObj 333 thd) :: (thd, dictOf [] 0) ::
  (sl, instObj 865 sd) :: (sd, dictOf [⟨h1, .str "_deprecated_wildcard_use" t1, .bool false⟩, ⟨h2, .str "start" t2, .int ((k : Nat) : Int) tk⟩, ⟨h3, .str "end" t3, .none⟩, ⟨h4, .str "step" t4, .none⟩] 4) ::
  (ft, ({ cls := .type "tuple", data := .seq #[.str "row" s3] nt } : Obj)) :: (f, instObj 697 fd) :: (fd, dictOf [⟨f1, .str "_deprecated_wildcard_use" s1, .bool false⟩, ⟨f2, .str "fields" s2, .ref ft⟩] 2) :: led
def JQ (h₀ : Heap) (L : Addr) (m : PySem.Str → Option Value) (s : Shared) (k : Nat) (yv : Value) (led : List (Addr × Obj)) (f' : Flow) (s' : Shared) : Prop :=
  f' = .next ∧ ∃ h' tk' ch chd wh whd ex ed th thd sl sd ft f fd f1 f2 c1 c2 g1 g2 h1 h2 h3 h4 i1 i2 i3 s1 s2 s3 q1 q2 r1 r2 t1 t2 t3 t4 v1 v2 v3 tk to nt,
    s' = { s with heap := h', toks := tk' } ∧ Fr h₀ L h' (fun y => if y = Str.ofString "question" then some (.ref ch) else m y) ∧ News h₀ L h' (QL ch chd wh whd ex ed th thd sl sd ft f fd k yv f1 f2 c1 c2 g1 g2 h1 h2 h3 h4 i1 i2 i3 s1 s2 s3 q1 q2 r1 r2 t1 t2 t3 t4 v1 v2 v3 tk to nt led)
theorem JQ.intro {h₀ h' : Heap} {L : Addr} {m : PySem.Str → Option Value} {s : Shared} {k : Nat} {yv : Value} {led : List (Addr × Obj)} {tk' : Nat} {ch chd wh whd ex ed th thd sl sd ft f fd : Addr} {f1 f2 c1 c2 g1 g2 h1 h2 h3 h4 i1 i2 i3 : Int} {s1 s2 s3 q1 q2 r1 r2 t1 t2 t3 t4 v1 v2 v3 tk to : Tok} {nt : Nat}
    (F : Fr h₀ L h' (fun y => if y = Str.ofString "question" then some (.ref ch) else m y)) (N : News h₀ L h' (QL ch chd wh whd ex ed th thd sl sd ft f fd k yv f1 f2 c1 c2 g1 g2 h1 h2 h3 h4 i1 i2 i3 s1 s2 s3 q1 q2 r1 r2 t1 t2 t3 t4 v1 v2 v3 tk to nt led)) :
    JQ h₀ L m s k yv led .next { s with heap := h', toks := tk' } :=
  ⟨rfl, h', tk', ch, chd, wh, whd, ex, ed, th, thd, sl, sd, ft, f, fd, f1, f2, c1, c2, g1, g2, h1, h2, h3, h4, i1, i2, i3, s1, s2, s3, q1, q2, r1, r2, t1, t2, t3, t4, v1, v2, v3, tk, to, nt, rfl, F, N⟩
/-- told stands -/
def JT (h₀ : Heap) (L : Addr) (m : PySem.Str → Option Value) (s : Shared) (x : PySem.Str) (vals : List Value) (led : List (Addr × Obj)) (f' : Flow) (s' : Shared) : Prop :=
  f' = .next ∧ ∃ h' tk' D, s' = { s with heap := h', toks := tk' } ∧ Fr h₀ L h' (fun y => if y = x then some (.ref D) else m y) ∧ News h₀ L h' ((D, LCg.lst vals) :: led) ∧ AllNe D led
theorem JT.intro {h₀ h' : Heap} {L D : Addr} {m : PySem.Str → Option Value} {s : Shared} {x : PySem.Str} {vals : List Value} {led : List (Addr × Obj)} {tk' : Nat}
    (F : Fr h₀ L h' (fun y => if y = x then some (.ref D) else m y)) (N : News h₀ L h' ((D, LCg.lst vals) :: led)) (ne : AllNe D led) : JT h₀ L m s x vals led .next { s with heap := h', toks := tk' } := ⟨rfl, h', tk', D, rfl, F, N, ne⟩
section
variable {M : Model} {A : Around} {t : Sem Flow} {Q : Flow → Shared → Prop} {E : Value → Shared → Prop} {h₀ : Heap} {L : Addr} {m : PySem.Str → Option Value} {s : Shared} {led : List (Addr × Obj)}
theorem cut_question (k : Nat) (yv : Value) (_F : Fr h₀ L s.heap m) (_N : News h₀ L s.heap led) (walk : wpAny M A t (JQ h₀ L m s k yv led) E s)
    (go : ∀ h' tk' ch chd wh whd ex ed th thd sl sd ft f fd f1 f2 c1 c2 g1 g2 h1 h2 h3 h4 i1 i2 i3 s1 s2 s3 q1 q2 r1 r2 t1 t2 t3 t4 v1 v2 v3 tk to nt,
      Fr h₀ L h' (fun y => if y = Str.ofString "question" then some (.ref ch) else m y) → News h₀ L h' (QL ch chd wh whd ex ed th thd sl sd ft f fd k yv f1 f2 c1 c2 g1 g2 h1 h2 h3 h4 i1 i2 i3 s1 s2 s3 q1 q2 r1 r2 t1 t2 t3 t4 v1 v2 v3 tk to nt led) → Q .next { s with heap := h', toks := tk' }) : wpAny M A t Q E s :=
  wpAny_mono walk (fun f s' h => by
    obtain ⟨rfl, h', tk', ch, chd, wh, whd, ex, ed, th, thd, sl, sd, ft, f, fd, f1, f2, c1, c2, g1, g2, h1, h2, h3, h4, i1, i2, i3, s1, s2, s3, q1, q2, r1, r2, t1, t2, t3, t4, v1, v2, v3, tk, to, nt, rfl, F, N⟩ := h
    exact go h' tk' ch chd wh whd ex ed th thd sl sd ft f fd f1 f2 c1 c2 g1 g2 h1 h2 h3 h4 i1 i2 i3 s1 s2 s3 q1 q2 r1 r2 t1 t2 t3 t4 v1 v2 v3 tk to nt F N) fun _ _ e => e
theorem cut_list (x : PySem.Str) (vals : List Value) (led : List (Addr × Obj)) (_F : Fr h₀ L s.heap m) (walk : wpAny M A t (JT h₀ L m s x vals led) E s)
    (go : ∀ h' tk' D, Fr h₀ L h' (fun y => if y = x then some (.ref D) else m y) → News h₀ L h' ((D, LCg.lst vals) :: led) → AllNe D led → Q .next { s with heap := h', toks := tk' }) : wpAny M A t Q E s :=
  wpAny_mono walk (fun f s' h => by
    obtain ⟨rfl, h', tk', D, rfl, F, N, ne⟩ := h
    exact go h' tk' D F N ne) fun _ _ e => e
end
theorem allNe_sub {d : Addr} : ∀ {l l' : List (Addr × Obj)}, AllNe d l → (∀ p ∈ l', p ∈ l) → AllNe d l' := fun h k => allNe_of fun p hp => allNe_get h (k p hp)
end Mine
namespace Mine
theorem cut_told {M : Model} {A : Around} {t : Sem Flow} {Q : Flow → Shared → Prop} {E : Value → Shared → Prop} {h₀ : Heap} {L : Addr} {m : PySem.Str → Option Value} {s : Shared} {a1 a2 a3 a4 a5 a6 a7 a8 a9 b1 b2 b3 b4 : Addr × Obj} {led : List (Addr × Obj)} (x : PySem.Str) (vals : List Value) (_F : Fr h₀ L s.heap m)
    (_N : News h₀ L s.heap (a1 :: a2 :: a3 :: a4 :: a5 :: a6 :: a7 :: a8 :: a9 :: b1 :: b2 :: b3 :: b4 :: led)) (walk : wpAny M A t (JT h₀ L m s x vals led) E s)
    (go : ∀ h' tk' D, Fr h₀ L h' (fun y => if y = x then some (.ref D) else m y) → News h₀ L h' ((D, LCg.lst vals) :: led) → AllNe D led → Q .next { s with heap := h', toks := tk' }) : wpAny M A t Q E s :=
  cut_list x vals led _F walk go
end Mine
end
section
open PySem PySem.W PySem.Spec PySem.Calls PyProof.Rows
set_option maxRecDepth 100000
namespace Mine
theorem ks_canLayAll0 : ∀ ns : List PySem.Str, (∀ x ∈ ns, PyData.strOk x = true) → PyData.canLayAll0 (ns.map PyData.str) = true
  | [], _ => rfl
  | a :: r, h => by simp [PyData.canLayAll0, PyData.canLay0, ks_canLayAll0 r (fun x hx => h x (.tail _ hx)), h a (.head _)]
theorem ks_depthAll : ∀ ns : List PySem.Str, PyData.depthAll (ns.map PyData.str) = 0
  | [] => rfl
  | _ :: r => by simp [PyData.depthAll, PyData.depth, ks_depthAll r]
theorem ks_shaped (ns : List PySem.Str) (ok : ∀ x ∈ ns, PyData.strOk x = true) : SeqAt.shaped (.list (ns.map PyData.str)) = true := by
  simp [SeqAt.shaped, PyData.canLay0, PyData.depth, ks_canLayAll0 ns ok, ks_depthAll]
theorem ks_sameAll : ∀ ns : List PySem.Str, PySem.Spec.sameAll (ns.map PyData.str) (ns.map PyData.str) = true
  | [] => by simp [PySem.Spec.sameAll]
  | a :: r => by simp only [List.map_cons, PySem.Spec.sameAll, PySem.Spec.same, ks_sameAll r]; simp
theorem ks_same (ns : List PySem.Str) : PySem.Spec.same (.list (ns.map PyData.str)) (.list (ns.map PyData.str)) = true := by
  simp only [PySem.Spec.same]; exact ks_sameAll ns
theorem ks_carried : ∀ {vs : List Value} {ns : List PySem.Str}, StrsAre vs ns → CarriedAll vs (ns.map PyData.str)
  | _, _, .nil => .nil
  | _, _, .cons _ t r => .cons (.str _ t) (ks_carried r)
/-- values of one kind: numbers, or texts -/
def Kin (vs : List Value) : Prop := (∃ ns, IntsAre vs ns) ∨ ∃ ss, StrsAre vs ss ∧ ∀ x ∈ ss, PyData.strOk x = true
theorem kin_row {n : Nat} {ws : List Value} (wd : Wd n ws) {r : List Nat} (h : ∀ x ∈ r, x < n) : Kin (rowV ws r) := by
  rcases wd.2.1 with ⟨ns, I⟩ | ⟨ss, S, ok⟩
  · exact .inl ⟨_, ints_row I fun x hx => by rw [wd.1]; exact h x hx⟩
  · refine .inr ⟨_, strs_row S fun x hx => by rw [wd.1]; exact h x hx, fun x hx => ?_⟩
    obtain ⟨i, hi, rfl⟩ := List.mem_map.mp hx
    refine ok _ ?_
    have hl : i < ss.length := by rw [← strs_length S, wd.1]; exact h i hi
    rw [List.getD_eq_getElem?_getD, List.getElem?_eq_getElem hl]
    exact List.getElem_mem hl
section
variable {prog : Program} {w : World} {A : Around} {E : Value → Shared → Prop} {s : Shared} {h₀ : Heap} {L a b : Addr} {news : List (Addr × Obj)} {vs : List Value} {c c' : Nat} {Q : Value → Shared → Prop}
theorem ne_vals (N : News h₀ L s.heap news) (ha : (a, listV vs c) ∈ news) (hb : (b, listV vs c') ∈ news) (kin : Kin vs) (hu : A.units + 64 < cLine) (h : Q (.bool false) s) :
    wpAny (model prog w) A (compareOp .NotEq (.ref a) (.ref b)) Q E s := by
  have la : s.heap.IsList a vs.toArray := ⟨_, (N _ ha).1, rfl, c, rfl⟩
  have lb : s.heap.IsList b vs.toArray := ⟨_, (N _ hb).1, rfl, c', rfl⟩
  rcases kin with ⟨ns, I⟩ | ⟨ss, S, ok⟩
  · exact ke_ne_ints la lb I I hu (by simpa using h)
  · exact ne_dataH_same (reads_newData la (ks_carried S)) (reads_newData lb (ks_carried S)) (ks_shaped _ ok) (ks_shaped _ ok) hu (SeqAt.noMix_of_shape (.list .str) rfl _ _ (list_map_has fun _ => rfl) (list_map_has fun _ => rfl)) (by rw [ks_same]; exact h)
end
end Mine
end
section
open PySem PySem.W PySem.Spec PySem.Calls PyProof.Rows
set_option maxRecDepth 100000
namespace Mine
section
variable {prog : Program} {w : World} {A : Around} {E : Value → Shared → Prop} {env : Env}
theorem src_outA {scope : Scope} {cl : List (PySem.Str × Addr)} {x y : PySem.Str} {ifs : List Expr} {elt : Expr} {n : Nat} {s₁ : Shared} {rg : Addr} {nb : Int} {t u v : Tok} {Q : Flow → Shared → Prop} {m : PySem.Str → Option Value} {g : Heap} {L : Addr} {news : List (Addr × Obj)} (keep : Nat → Bool) (hL : env.locals = L)
    (hh : A.handled = none) (hr : IsRange s₁.heap rg 0 nb 1 t u v) (hnb : nb = ((n : Nat) : Int)) (hn : n ≤ 100) (F : Fr g L s₁.heap m) (N : News g L s₁.heap news)
    (turn : ∀ i tt C oC h tk m₃ (E' : Value → Shared → Prop), i < n → LCg.NsObj oC m₃ → m₃ x = some (.int ((i : Nat) : Int) tt) → KeepL L s₁.heap h → Fr g L h m → News g L h ((C, oC) :: news) → AllNe C news →
      wpAny (model prog w) A (forIn ifs true fun c r => if r = true then do let ok ← isTrue c (compEnvC scope cl C env) (eval c (compEnvC scope cl C env)); pure (ForInStep.yield ok) else pure (ForInStep.yield r))
        (Tst L prog w A elt (compEnvC scope cl C env) E' s₁ h (fun y _ => keep i = true ∧ ∃ t', y = .int ((i : Nat) : Int) t') (fun _ => keep i = false)) E' { s₁ with heap := h, toks := tk })
    (fin : ∀ D vals h' tk, Fr g L h' (fun z => if z = y then some (.ref D) else m z) → News g L h' ((D, LCg.lst vals) :: news) → IntsAre vals (((List.range n).filter keep).map Int.ofNat) → AllNe D news → Q .next { s₁ with heap := h', toks := tk }) :
    wpAny (model prog w) A (pyIter (.ref rg)) (SrcJA prog w A env scope cl x y ifs elt Q) E s₁ := by
  subst hL
  subst hnb
  refine src_JA (fun _ _ vs ys _ => IntsAre ys (((List.range vs.length).filter keep).map Int.ofNat)) (isSrc_range (n := n) hh hr (small_one (by omega) (by omega) (by omega) (by omega)) ((rangeSize_nat _ _).trans (by omega))) (Nat.le_trans hn (by decide)) F.ns (fun hm => by cases hm) (fun _ _ _ _ _ j _ => j) (fun _ => .nil) ?_ ?_
  · intro X C oC v vs ys h tk m₃ E' hlt hP hoC hx hk hC gC _ _ _ _ hj
    obtain ⟨tt, rfl⟩ := hP
    rw [Int.zero_add] at hx
    have F' := fr_L F hk
    have N' := news_at F F' (news_L N hk) gC hC
    have step : (List.range (vs ++ [Value.int (0 + ((vs.length : Nat) : Int)) tt]).length).filter keep = (List.range vs.length).filter keep ++ if keep vs.length then [vs.length] else [] := by
      rw [List.length_append, List.length_singleton, List.range_succ, List.filter_append]
      congr 1
      cases e : keep vs.length <;> simp [e]
    refine wpAny_mono (turn vs.length tt C oC h tk m₃ E' hlt hoC hx hk F' N' (ne_new N gC)) (fun ok s₄ t => Tst.imp (fun y h' e => ?_) (fun h' e => ?_) t) fun _ _ e => e
    · obtain ⟨e, t', rfl⟩ := e
      show IntsAre _ _
      rw [step, if_pos e, List.map_append]
      exact IntsAre.append hj (.cons _ _ .nil)
    · show IntsAre _ _
      rw [step, e]
      simpa using hj
  · intro D h' tk ys vs X gD hD hlen _ hj _ hn' hk
    have F' := fr_bound F hn' hk
    have hj : IntsAre ys (((List.range vs.length).filter keep).map Int.ofNat) := hj
    rw [hlen] at hj
    refine fin D ys h' tk F' (fun p hp => ?_) hj (ne_new N gD)
    rcases List.mem_cons.mp hp with rfl | hp
    · refine ⟨hD, fun q => ?_, ?_⟩
      · obtain ⟨_, _, _, e, _⟩ := F.ns
        have q' : D = env.locals := q
        rw [← q', gD] at e; cases e
      · cases e : g.get? D with
        | none => rfl
        | some o => have := F.keep _ _ e; rw [gD] at this; cases this
    · exact news_bound N hk p hp
end
/-- a list of ints, bound to a local name -/
def JO (h₀ : Heap) (L : Addr) (m : PySem.Str → Option Value) (s : Shared) (x : PySem.Str) (ns : List Nat) (led : List (Addr × Obj)) (f' : Flow) (s' : Shared) : Prop :=
  f' = .next ∧ ∃ h' tk' D vals cv, s' = { s with heap := h', toks := tk' } ∧ Fr h₀ L h' (fun y => if y = x then some (.ref D) else m y) ∧ News h₀ L h' ((D, listV vals cv) :: led) ∧ IntsAre vals (ns.map Int.ofNat) ∧ AllNe D led
theorem JO.intro {h₀ h' : Heap} {L D : Addr} {m : PySem.Str → Option Value} {s : Shared} {x : PySem.Str} {ns : List Nat} {vals : List Value} {cv : Nat} {led : List (Addr × Obj)} {tk' : Nat}
    (F : Fr h₀ L h' (fun y => if y = x then some (.ref D) else m y)) (N : News h₀ L h' ((D, listV vals cv) :: led)) (I : IntsAre vals (ns.map Int.ofNat)) (ne : AllNe D led) : JO h₀ L m s x ns led .next { s with heap := h', toks := tk' } := ⟨rfl, h', tk', D, vals, cv, rfl, F, N, I, ne⟩
theorem cut_out {M : Model} {A : Around} {t : Sem Flow} {Q : Flow → Shared → Prop} {E : Value → Shared → Prop} {h₀ : Heap} {L : Addr} {m : PySem.Str → Option Value} {s : Shared} {led : List (Addr × Obj)} (x : PySem.Str) (ns : List Nat) (_F : Fr h₀ L s.heap m) (_N : News h₀ L s.heap led) (walk : wpAny M A t (JO h₀ L m s x ns led) E s)
    (go : ∀ h' tk' D vals cv, Fr h₀ L h' (fun y => if y = x then some (.ref D) else m y) → News h₀ L h' ((D, listV vals cv) :: led) → IntsAre vals (ns.map Int.ofNat) → AllNe D led → Q .next { s with heap := h', toks := tk' }) : wpAny M A t Q E s :=
  wpAny_mono walk (fun f s' h => by
    obtain ⟨rfl, h', tk', D, vals, cv, rfl, F, N, I, ne⟩ := h
    exact go h' tk' D vals cv F N I ne) fun _ _ e => e
theorem code_two {n : Nat} {c : List Nat} {yc : List Value} (Ic : IntsAre yc (c.map Int.ofNat)) (hl : c.length = n) {i : Nat} (hi : i + 1 < n) :
    (∃ t, yc.toArray[((i : Nat) : Int).toNat]? = some (.int ((c.getD i 0 : Nat) : Int) t)) ∧ ∃ t, yc.toArray[(((i : Nat) : Int) + 1).toNat]? = some (.int ((c.getD (i + 1) 0 : Nat) : Int) t) := by
  obtain ⟨t, e⟩ := ints_at Ic (i := i) (by omega)
  obtain ⟨u, f⟩ := ints_at Ic (i := i + 1) (by omega)
  refine ⟨⟨t, by simpa using e⟩, u, ?_⟩
  have : (((i : Nat) : Int) + 1).toNat = i + 1 := by omega
  rw [this]; simpa using f
end Mine
namespace Mine
theorem Tst.of_bool {L : Addr} {prog : Program} {w : World} {A : Around} {elt : Expr} {cenv : Env} {E' : Value → Shared → Prop} {s₁ : Shared} {h : Heap} {R : Value → Heap → Prop} {R₀ : Heap → Prop} {ok : Bool} {s₄ : Shared} (b : Bool) (e : ok = b)
    (h1 : b = true → Tst L prog w A elt cenv E' s₁ h R R₀ true s₄) (h2 : b = false → Tst L prog w A elt cenv E' s₁ h R R₀ false s₄) : Tst L prog w A elt cenv E' s₁ h R R₀ ok s₄ := by
  subst e
  cases ok with
  | true => exact h1 rfl
  | false => exact h2 rfl
end Mine
namespace Mine
theorem getD_cast (c : List Nat) (j : Nat) : (List.map Int.ofNat c).getD j 0 = ((c.getD j 0 : Nat) : Int) := by
  rw [List.getD_eq_getElem?_getD, List.getElem?_map, List.getD_eq_getElem?_getD]
  cases c[j]? <;> rfl
theorem keep_eq (c : List Nat) (i : Nat) : decide ((List.map Int.ofNat c).getD (((i : Nat) : Int) + 1).toNat 0 < (List.map Int.ofNat c).getD ((i : Nat) : Int).toNat 0) = decide (c.getD (i + 1) 0 < c.getD i 0) := by
  rw [getD_cast, getD_cast]
  refine decide_eq_decide.mpr ?_
  rw [show (((i : Nat) : Int) + 1).toNat = i + 1 by omega, Int.toNat_natCast]
  omega
end Mine
end
section
open PySem PySem.W PySem.Spec PySem.Calls PyProof.Rows
set_option maxRecDepth 100000
namespace Mine
theorem cut_k {M : Model} {A : Around} {t : Sem Flow} {Q : Flow → Shared → Prop} {E : Value → Shared → Prop} {h₀ : Heap} {L b : Addr} {m : PySem.Str → Option Value} {s : Shared} {ob : Obj} {rest : List (Addr × Obj)} {p0 p1 p2 p3 p4 p5 p6 p7 p8 p9 p10 p11 p12 p13 : Addr × Obj} (P : Value → Prop) (_F : Fr h₀ L s.heap m) (_N : News h₀ L s.heap (p0 :: p1 :: p2 :: p3 :: p4 :: p5 :: p6 :: p7 :: p8 :: p9 :: p10 :: p11 :: p12 :: p13 :: (b, ob) :: rest))
    (walk : wpAny M A t (JV h₀ L m s P fun o => p1 :: p2 :: p3 :: p4 :: p5 :: p6 :: p7 :: p8 :: p9 :: p10 :: p11 :: p12 :: p13 :: (b, o) :: rest) E s)
    (go : ∀ h' tk' v o, Fr h₀ L h' m → News h₀ L h' (p1 :: p2 :: p3 :: p4 :: p5 :: p6 :: p7 :: p8 :: p9 :: p10 :: p11 :: p12 :: p13 :: (b, o) :: rest) → o.data = .cell (some v) → P v → Q .next { s with heap := h', toks := tk' }) : wpAny M A t Q E s := cutV P _ walk go
theorem cut_ranks {M : Model} {A : Around} {t : Sem Flow} {Q : Flow → Shared → Prop} {E : Value → Shared → Prop} {h₀ : Heap} {L b : Addr} {m : PySem.Str → Option Value} {s : Shared} {ob : Obj} {rest : List (Addr × Obj)} {p0 p1 p2 p3 p4 p5 p6 p7 : Addr × Obj} (P : List Value → Prop) (_F : Fr h₀ L s.heap m) (_N : News h₀ L s.heap (p0 :: p1 :: p2 :: p3 :: p4 :: p5 :: p6 :: p7 :: (b, ob) :: rest))
    (walk : wpAny M A t (JL h₀ L m s P fun o => p0 :: p1 :: p2 :: p3 :: p4 :: p5 :: p6 :: p7 :: (b, o) :: rest) E s)
    (go : ∀ h' tk' W ws c oW, Fr h₀ L h' m → News h₀ L h' ((W, listV ws c) :: p0 :: p1 :: p2 :: p3 :: p4 :: p5 :: p6 :: p7 :: (b, oW) :: rest) → oW.data = .cell (some (.ref W)) → P ws → AllNe W (p0 :: p1 :: p2 :: p3 :: p4 :: p5 :: p6 :: p7 :: (b, oW) :: rest) → Q .next { s with heap := h', toks := tk' }) : wpAny M A t Q E s := cutL P _ walk go
theorem cut_code2 {M : Model} {A : Around} {t : Sem Flow} {Q : Flow → Shared → Prop} {E : Value → Shared → Prop} {h₀ : Heap} {L b : Addr} {m : PySem.Str → Option Value} {s : Shared} {ob : Obj} {rest : List (Addr × Obj)} {p0 p1 p2 p3 p4 p5 p6 p7 p8 p9 p10 : Addr × Obj} (P : List Value → Prop) (_F : Fr h₀ L s.heap m) (_N : News h₀ L s.heap (p0 :: p1 :: p2 :: p3 :: p4 :: p5 :: p6 :: p7 :: p8 :: p9 :: p10 :: (b, ob) :: rest))
    (walk : wpAny M A t (JL h₀ L m s P fun o => p0 :: p1 :: p2 :: p3 :: p4 :: p5 :: p6 :: p7 :: p8 :: p9 :: p10 :: (b, o) :: rest) E s)
    (go : ∀ h' tk' W ws c oW, Fr h₀ L h' m → News h₀ L h' ((W, listV ws c) :: p0 :: p1 :: p2 :: p3 :: p4 :: p5 :: p6 :: p7 :: p8 :: p9 :: p10 :: (b, oW) :: rest) → oW.data = .cell (some (.ref W)) → P ws → AllNe W (p0 :: p1 :: p2 :: p3 :: p4 :: p5 :: p6 :: p7 :: p8 :: p9 :: p10 :: (b, oW) :: rest) → Q .next { s with heap := h', toks := tk' }) : wpAny M A t Q E s := cutL P _ walk go
/-- the row is updated -/
def JU (h₀ : Heap) (L : Addr) (m : PySem.Str → Option Value) (s : Shared) (rows : Array Value) (g : Obj → List (Addr × Obj)) (f : Flow) (s' : Shared) : Prop :=
  f = .next ∧ ∃ h' tk' n, s' = { s with heap := h', toks := tk' } ∧ Fr h₀ L h' m ∧ News h₀ L h' (g (listA rows n))
theorem JU.intro {h₀ h' : Heap} {L : Addr} {m : PySem.Str → Option Value} {s : Shared} {tk' n : Nat} {g : Obj → List (Addr × Obj)} {rows : Array Value} (F : Fr h₀ L h' m) (N : News h₀ L h' (g (listA rows n))) : JU h₀ L m s rows g .next { s with heap := h', toks := tk' } := ⟨rfl, h', tk', n, rfl, F, N⟩
theorem cut_upd {M : Model} {A : Around} {t : Sem Flow} {Q : Flow → Shared → Prop} {E : Value → Shared → Prop} {h₀ : Heap} {L b : Addr} {m : PySem.Str → Option Value} {s : Shared} {ob : Obj} {rest : List (Addr × Obj)} {p0 p1 : Addr × Obj} (rows : Array Value) (_F : Fr h₀ L s.heap m) (_N : News h₀ L s.heap (p0 :: p1 :: (b, ob) :: rest))
    (walk : wpAny M A t (JU h₀ L m s rows fun o => p0 :: p1 :: (b, o) :: rest) E s)
    (go : ∀ h' tk' n, Fr h₀ L h' m → News h₀ L h' (p0 :: p1 :: (b, listA rows n) :: rest) → Q .next { s with heap := h', toks := tk' }) : wpAny M A t Q E s :=
  wpAny_mono walk (fun f s' h => by
    obtain ⟨rfl, h', tk', n, rfl, F, N⟩ := h
    exact go h' tk' n F N) fun _ _ e => e
theorem out_pick {n : Nat} {c : List Nat} {j : Nat} (h : j < (outOf n c).length) (t : Tok) : ∃ kk t', kk ∈ outOf n c ∧ Value.int (((outOf n c).map Int.ofNat).getD j 0) t = .int ((kk : Nat) : Int) t' := by
  refine ⟨(outOf n c).getD j 0, t, ?_, by rw [getD_cast]⟩
  rw [List.getD_eq_getElem?_getD, List.getElem?_eq_getElem h]
  exact List.getElem_mem h
end Mine
namespace Mine
section
variable {prog : Program} {w : World} {A : Around} {E : Value → Shared → Prop} {s : Shared} {h₀ : Heap} {L : Addr} {news : List (Addr × Obj)}
theorem truthy_cons {l : Addr} {v : Value} {vs : List Value} {c : Nat} {Q : Bool → Shared → Prop} (N : News h₀ L s.heap news) (hm : (l, listV (v :: vs) c) ∈ news) (hf : (v :: vs).length ≤ 5) (h : Q true { s with toks := s.toks + 1 + 1 }) : wpAny (model prog w) A (truthy (.ref l)) Q E s :=
  wpAny_truthy_list ⟨_, N.get hm, rfl, c, rfl⟩ (by rw [List.size_toArray]; omega) h
end
theorem out_len (n : Nat) (c : List Nat) : (outOf n c).length ≤ n - 1 := by
  unfold outOf
  exact Nat.le_trans (List.length_filter_le _ _) (by rw [List.length_range]; exact Nat.le_refl _)
end Mine
end
section
open PySem PySem.W PySem.Spec PySem.Calls PyProof.Rows
set_option maxRecDepth 100000
namespace Mine
theorem rowV_range {ws : List Value} : rowV ws (List.range ws.length) = ws := by
  unfold rowV
  refine List.ext_getElem (by simp) fun i h1 h2 => ?_
  rw [List.getElem_map, List.getElem_range, List.getD_eq_getElem?_getD, List.getElem?_eq_getElem h2]
  rfl
section
variable {w : World} {A : Around} {E : Value → Shared → Prop} {s : Shared} {h₀ : Heap} {L : Addr} {news : List (Addr × Obj)}
theorem eq_kin {a b : Addr} {vs : List Value} {c c' : Nat} (N : News h₀ L s.heap news) (ha : (a, listV vs c) ∈ news) (hb : (b, listV vs c') ∈ news) (kin : Kin vs) (hu : A.in1.units + 64 < cLine) : SeqAt.EqAt A.in1 s (.ref a) (.ref b) true := by
  have la : s.heap.IsList a vs.toArray := ⟨_, (N _ ha).1, rfl, c, rfl⟩
  have lb : s.heap.IsList b vs.toArray := ⟨_, (N _ hb).1, rfl, c', rfl⟩
  rcases kin with ⟨ns, I⟩ | ⟨ss, S, ok⟩
  · have := keq_ints (A := A) la I lb I hu
    simpa using this
  · have x := keq_at (A := A) (reads_newData la (ks_carried S)) (reads_newData lb (ks_carried S)) (ks_shaped _ ok) (ks_shaped _ ok) hu
    have e : PyData.eqv (.list (ss.map PyData.str)) (.list (ss.map PyData.str)) = true := by
      rw [← SeqAt.same_eq_eqv _ _ (SeqAt.noMix_of_shape (.list .str) rfl _ _ (list_map_has fun _ => rfl) (list_map_has fun _ => rfl))]
      exact ks_same ss
    rwa [e] at x
theorem eq_doc {doc d2 Rw W B B2 : Addr} {es : Array DictEntry} {ep : Nat} {ob : Obj} {ws : List Value} {c1 c2 c3 c4 n : Nat} {t1 t2 : Tok} {Q : Value → Shared → Prop} (N : News h₀ L s.heap news) (pa : (doc, dictO es ep) ∈ news) (pb : (d2, ob) ∈ news)
    (da : Obj.IsDictOf (PySem.strKind P0 w) (dictO es ep) [(("row" : PySem.Str), Value.ref Rw), (("beside" : PySem.Str), Value.ref B)]) (db : Obj.IsDictOf (PySem.strKind P0 w) ob [(("row" : PySem.Str), Value.ref W), (("beside" : PySem.Str), Value.ref B2)])
    (la : (doc == sysModules) = false) (lb : (d2 == sysModules) = false) (m1 : (Rw, listV ws c1) ∈ news) (m2 : (W, listV ws c2) ∈ news) (m3 : (B, listV [.int ((n : Nat) : Int) t1] c3) ∈ news) (m4 : (B2, listV [.int ((n : Nat) : Int) t2] c4) ∈ news) (kin : Kin ws)
    (hu : A.in1.units + 64 < cLine) (hu' : A.units < cLine) (h : Q (.bool true) s) : wpAny (model P0 w) A (compareOp .Eq (.ref doc) (.ref d2)) Q E s := by
  have l3 : s.heap.IsList B [Value.int ((n : Nat) : Int) t1].toArray := ⟨_, (N _ m3).1, rfl, c3, rfl⟩
  have l4 : s.heap.IsList B2 [Value.int ((n : Nat) : Int) t2].toArray := ⟨_, (N _ m4).1, rfl, c4, rfl⟩
  have e2 := keq_ints (A := A) l3 (.cons ((n : Nat) : Int) t1 .nil) l4 (.cons ((n : Nat) : Int) t2 .nil) hu
  rw [decide_eq_true rfl] at e2
  exact keq_pairs (r := true && (true && true)) N pa pb da db la lb rfl hu' (.hit (by rfl) (eq_kin N m1 m2 kin hu) (.hit (by rfl) e2 .nil)) h
end
end Mine
namespace Mine
theorem draw_at {vs : List Value} {ns : List Int} (I : IntsAre vs ns) {i : Nat} (h : 6 + i < ns.length) : ∃ t, vs.toArray[((6 : Int) + ((i : Nat) : Int)).toNat]? = some (.int (ns.getD (6 + i) 0) t) := by
  obtain ⟨t, e⟩ := I.get (6 + i) (ns.getD (6 + i) 0) (by rw [List.getD_eq_getElem?_getD, List.getElem?_eq_getElem h]; rfl)
  refine ⟨t, ?_⟩
  rw [show ((6 : Int) + ((i : Nat) : Int)).toNat = 6 + i by omega]
  simpa using e
/-- the place that is taken -/
theorem take_at {n : Nat} {c : List Nat} {vs : List Value} (I : IntsAre vs ((outOf n c).map Int.ofNat)) (h0 : 0 < vs.length) (h5 : vs.length ≤ 5) (x : Int) :
    0 ≤ x.fmod (((List.map Int.ofNat (outOf n c)).length : Nat) : Int) ∧ x.fmod (((List.map Int.ofNat (outOf n c)).length : Nat) : Int) < 100 ∧ ∃ kk t, kk ∈ outOf n c ∧ vs.toArray[(x.fmod (((List.map Int.ofNat (outOf n c)).length : Nat) : Int)).toNat]? = some (.int ((kk : Nat) : Int) t) := by
  have l := ints_len I
  have e : (List.map Int.ofNat (outOf n c)).length = vs.length := by rw [List.length_map, l]
  rw [e]
  have a := Int.fmod_nonneg_of_pos x (show (0 : Int) < ((vs.length : Nat) : Int) by omega)
  have b := Int.fmod_lt_of_pos x (show (0 : Int) < ((vs.length : Nat) : Int) by omega)
  refine ⟨a, by omega, ?_⟩
  obtain ⟨t, q⟩ := ints_at I (i := (x.fmod ((vs.length : Nat) : Int)).toNat) (by omega)
  refine ⟨(outOf n c).getD (x.fmod ((vs.length : Nat) : Int)).toNat 0, t, ?_, by simpa using q⟩
  rw [List.getD_eq_getElem?_getD, List.getElem?_eq_getElem (by omega)]
  exact List.getElem_mem _
end Mine
namespace Mine
theorem pick_ok {n : Nat} {c : List Nat} (h0 : 0 < (outOf n c).length) (x : Int) (t : Tok) : ∃ kk t', kk ∈ outOf n c ∧ Value.int ((List.map Int.ofNat (outOf n c)).getD (x.fmod (((List.map Int.ofNat (outOf n c)).length : Nat) : Int)).toNat 0) t = .int ((kk : Nat) : Int) t' := by
  have e : (List.map Int.ofNat (outOf n c)).length = (outOf n c).length := List.length_map ..
  rw [e]
  have a := Int.fmod_nonneg_of_pos x (show (0 : Int) < (((outOf n c).length : Nat) : Int) by omega)
  have b := Int.fmod_lt_of_pos x (show (0 : Int) < (((outOf n c).length : Nat) : Int) by omega)
  exact out_pick (by omega) t
end Mine
namespace Mine
theorem News.drop2 {g h : Heap} {L : Addr} {a b : Addr × Obj} {r : List (Addr × Obj)} (N : News g L h (a :: b :: r)) : News g L h (a :: r) := fun p hp => N p (by
  rcases List.mem_cons.mp hp with rfl | hp
  · exact .head _
  · exact .tail _ (.tail _ hp))
end Mine
namespace Mine
theorem set_two {α : Type} (a b : α) : ∀ (k : Nat) (l : List α), k + 1 < l.length → (l.set k a).set (k + 1) b = l.take k ++ [a, b] ++ l.drop (k + 2)
  | 0, [], h => by simp at h
  | 0, [_], h => by simp at h
  | 0, _ :: _ :: t, _ => rfl
  | k + 1, [], h => by simp at h
  | k + 1, x :: t, h => by
    have := set_two a b k t (by simpa using h)
    simp only [List.set_cons_succ, List.take_succ_cons, List.drop_succ_cons, List.cons_append]
    rw [this]
theorem swap_ints {k : Nat} {r : List Nat} {vs : List Value} (hk : k + 1 < r.length)
    (h : IntsAre vs (List.take ((k : Nat) : Int).toNat (List.map Int.ofNat r) ++ [(List.map Int.ofNat r).getD (((k : Nat) : Int) + 1).toNat 0, (List.map Int.ofNat r).getD ((k : Nat) : Int).toNat 0] ++ List.drop (((k : Nat) : Int) + 2).toNat (List.map Int.ofNat r))) :
    IntsAre vs ((swapAt k r).map Int.ofNat) := by
  rw [getD_cast, getD_cast, show (((k : Nat) : Int) + 1).toNat = k + 1 by omega, show (((k : Nat) : Int) + 2).toNat = k + 2 by omega, Int.toNat_natCast, ← List.map_take, ← List.map_drop] at h
  unfold swapAt
  rw [set_two _ _ k r hk, List.map_append, List.map_append]
  exact h
theorem exch_ints {k : Nat} {c : List Nat} {vs : List Value} (hk : k + 1 < c.length) (hd : c.getD (k + 1) 0 < c.getD k 0)
    (h : IntsAre vs (List.take ((k : Nat) : Int).toNat (List.map Int.ofNat c) ++ [(List.map Int.ofNat c).getD (((k : Nat) : Int) + 1).toNat 0, (List.map Int.ofNat c).getD ((k : Nat) : Int).toNat 0 - 1] ++ List.drop (((k : Nat) : Int) + 2).toNat (List.map Int.ofNat c))) :
    IntsAre vs ((exch k c).map Int.ofNat) := by
  rw [getD_cast, getD_cast, show (((k : Nat) : Int) + 1).toNat = k + 1 by omega, show (((k : Nat) : Int) + 2).toNat = k + 2 by omega, Int.toNat_natCast, ← List.map_take, ← List.map_drop] at h
  unfold exch
  rw [set_two _ _ k c hk, List.map_append, List.map_append]
  have e : ((c.getD k 0 : Nat) : Int) - 1 = ((c.getD k 0 - 1 : Nat) : Int) := by omega
  rw [e] at h
  exact h
/-- the row behind the exchange -/
theorem row_exch {ws : List Value} {r : List Nat} {k rk0 rk1 : Nat} {rows : Array Value} (h : rows.toList = rowV ws r) (h0 : r[k]? = some rk0) (h1 : r[k + 1]? = some rk1) :
    ((rows.setIfInBounds k (ws.getD rk1 .none)).setIfInBounds (k + 1) (ws.getD rk0 .none)).toList = rowV ws (swapAt k r) := by
  rw [Array.toList_setIfInBounds, Array.toList_setIfInBounds, h]
  have e0 : r.getD k 0 = rk0 := by rw [List.getD_eq_getElem?_getD, h0]; rfl
  have e1 : r.getD (k + 1) 0 = rk1 := by rw [List.getD_eq_getElem?_getD, h1]; rfl
  unfold rowV swapAt
  rw [e0, e1, List.map_set, List.map_set]
end Mine
namespace Mine
theorem ints_drop1 {k : Nat} {r : List Nat} {vs : List Value} (h : IntsAre vs (List.drop (((k : Nat) : Int) + 1).toNat (List.map Int.ofNat r))) : IntsAre vs ((r.drop (k + 1)).map Int.ofNat) := by
  rw [List.map_drop]
  exact h
end Mine
end
section
open PySem PySem.W PySem.Spec PySem.Calls PyProof.Rows
namespace Mine
local macro_rules | `(tactic| k_all) => `(tactic| first | exact List.forall_mem_nil _ | (refine' List.forall_mem_cons.mpr ⟨?a, ?b⟩; (case a => k_ne); (case b => k_all)))
local macro_rules | `(tactic| k_subL) => `(tactic| first | exact List.forall_mem_nil _ | (refine' List.forall_mem_cons.mpr ⟨?a, ?b⟩; (case a => k_mem); (case b => k_subL)))
local macro_rules | `(tactic| k_ne) => `(tactic| (refine neN ?_; (try dsimp only); first | with_reducible assumption | exact Nat.ne_of_lt (by with_reducible assumption) | exact Nat.ne_of_gt (by with_reducible assumption) | exact Ne.symm (by with_reducible assumption) | assumption | exact Ne.symm (by assumption) | exact allNe_get (by assumption) (by k_mem) | exact Ne.symm (allNe_get (by assumption) (by k_mem)) | omega))
local macro_rules | `(tactic| walk_at "exec Assign cons ListComp") => `(tactic| ((fail_if_success (with_reducible show wpAny _ _ _ (JL _ _ _ _ _ _) _ _)); (with_reducible show wpAny _ _ (exec (Stmt.Assign _ (Expr.ListComp _ _ _ _) _) _) _ _ _); refine Mine.holdL ?_))
local macro_rules | `(tactic| walk_at "exec Assign cons IfExp") => `(tactic| ((fail_if_success (with_reducible show wpAny _ _ _ (JL _ _ _ _ _ _) _ _)); (with_reducible show wpAny _ _ (exec (Stmt.Assign _ _ _) _) _ _ _); refine Mine.holdL ?_))
local macro_rules | `(tactic| walk_at "exec Assign cons BinOp") => `(tactic| ((fail_if_success (with_reducible show wpAny _ _ _ (JV _ _ _ _ _ _) _ _)); (with_reducible show wpAny _ _ (exec (Stmt.Assign _ _ _) _) _ _ _); refine Mine.holdL ?_))
local macro_rules | `(tactic| walk_at "exec Assign cons Tuple") => `(tactic| ((fail_if_success (with_reducible show wpAny _ _ _ (JLR _ _ _ _ _ _) _ _)); (with_reducible show wpAny _ _ (exec (Stmt.Assign _ _ _) _) _ _ _); refine Mine.holdL ?_))
local macro_rules | `(tactic| walk_at "call type:list") => `(tactic| (k_here; (with_reducible show wpAny _ _ (call (Value.type _) [Value.str _ _]) _ _ _); k_dflt (refine' list_text ?hh ?F ?N ?hn ?_; (case hh => rfl); (case F => k_asm); (case N => k_asm); (case hn => size_fits)); intros))
local macro_rules | `(tactic| walk_at "exec For Name Name cons nil") => `(tactic| (k_here; (refine for_enter ?_ ?_); (case refine_2 => intro _; with_unfolding_all rfl)))
local macro_rules | `(tactic| walk_at "pyIter ref") => `(tactic| ((with_reducible show wpAny _ _ (pyIter _) (ForSrc _ _ _ _ _ _ _ _) _ _); refine Mine.holdL ?_))
local macro_rules | `(tactic| k_lt $h) => `(tactic| (have hRaw := $h; replace $h := allLt_of $h; simp only [AllLt, and_true] at $h:ident))
local macro_rules | `(tactic| k_ne) => `(tactic| (refine neN ?_; (try dsimp only); first | with_reducible assumption | exact lt_get (by with_reducible assumption) (by k_mem) | exact lt_get' (by with_reducible assumption) (by k_mem) | exact Ne.symm (by with_reducible assumption) | exact allNe_get (by assumption) (by k_mem) | exact Ne.symm (allNe_get (by assumption) (by k_mem)) | omega))
local macro_rules | `(tactic| k_all) => `(tactic| first | exact List.forall_mem_nil _ | exact older_ne (by with_reducible assumption) rfl | exact ne_older (by with_reducible assumption) rfl | (refine' List.forall_mem_cons.mpr ⟨?a, ?b⟩; (case a => k_ne); (case b => k_all)))
local macro_rules | `(tactic| k_go0) => `(tactic| (
  k_fill
  intro w s₀ s₁ mg mb G Y fa o pm cd doc dV kV ho hd hcd hD hmg hg args vals as hpre hlay hrd hwl hlo
  have KX := pIn_of Y
  k_behind G ho hd hcd hD hmg hpre hlay hrd hwl hlo cd))
set_option tactic.hygienic false in
set_option maxHeartbeats 80000000 in
noncomputable def sMa : PSigma fun PgA : Prop => Hid PgA → PySem.Challenge.rw_ae5015_01.Holds := by
  refine' ⟨_, ?sbody⟩
  case sbody =>
  intro h_gA
  refine Mine.hd ?_
  k_go0
  all_goals (try k_fold)
  k_steps
  unfold HoldL
  rename Fr _ _ _ _ => F0
  rename News _ _ _ _ => N0
  refine cut_draw (fun ws => ∃ dl : List Int, dl.length = 16 ∧ IntsAre ws dl) F0 N0 ?_ ?_
  · k_steps
    all_goals (try k_data)
    rename IntsAre _ (List.map _ (rangeKs _ _)) => I8
    refine JL.intro (by assumption) (by assumption) (by assumption) ⟨_, ?_, I8⟩ ?_
    · simp [rangeKs_length]
    · k_all
  intro hA tkA D yd cd oD FA NA dD ⟨dl, hdl, Id⟩ neD
  clear F0 N0
  k_steps
  rename_i uu1 uu2 uu3 uu4 uu5 uu6 uu7 uu8 uu9 uu10 uu11 uu12 uu13 uu14 uu15 uu16 uu17 uu18 uu19 uu20 uu21 uu24 uu27 uu29 uu30 uu31 uu32 uu33 uu39 uu40 uu41 uu42 uu43 uu44 uu45 uu46 uu47 uu48 uu49 uu50 uu65
  revert uu1 uu2 uu3 uu4 uu5 uu6 uu7 uu8 uu9 uu10 uu11 uu12 uu13 uu14 uu15 uu16 uu17 uu18 uu19 uu20 uu21 w w_1 uu24 w_2 w_3 uu27 w_4 uu29 uu30 uu31 uu32 uu33 w_7 w_8 w_9 w_10 w_11 uu39 uu40 uu41 uu42 uu43 uu44 uu45 uu46 uu47 uu48 uu49 uu50 w_5 w_6 w_12 w_13 w_14 w_15 w_16 left left_1 left_2 left_3 left_4 left_5 right uu65 qk ek hA tkA D yd cd oD FA NA dD dl hdl Id neD
  exact h_gA.get
end Mine
end
section
open PySem PySem.W PySem.Spec PySem.Calls PyProof.Rows
namespace Mine
local macro_rules | `(tactic| k_all) => `(tactic| first | exact List.forall_mem_nil _ | (refine' List.forall_mem_cons.mpr ⟨?a, ?b⟩; (case a => k_ne); (case b => k_all)))
local macro_rules | `(tactic| k_subL) => `(tactic| first | exact List.forall_mem_nil _ | (refine' List.forall_mem_cons.mpr ⟨?a, ?b⟩; (case a => k_mem); (case b => k_subL)))
local macro_rules | `(tactic| k_ne) => `(tactic| (refine neN ?_; (try dsimp only); first | with_reducible assumption | exact Nat.ne_of_lt (by with_reducible assumption) | exact Nat.ne_of_gt (by with_reducible assumption) | exact Ne.symm (by with_reducible assumption) | assumption | exact Ne.symm (by assumption) | exact allNe_get (by assumption) (by k_mem) | exact Ne.symm (allNe_get (by assumption) (by k_mem)) | omega))
local macro_rules | `(tactic| walk_at "exec Assign cons ListComp") => `(tactic| ((fail_if_success (with_reducible show wpAny _ _ _ (JL _ _ _ _ _ _) _ _)); (with_reducible show wpAny _ _ (exec (Stmt.Assign _ (Expr.ListComp _ _ _ _) _) _) _ _ _); refine Mine.holdL ?_))
local macro_rules | `(tactic| walk_at "exec Assign cons IfExp") => `(tactic| ((fail_if_success (with_reducible show wpAny _ _ _ (JL _ _ _ _ _ _) _ _)); (with_reducible show wpAny _ _ (exec (Stmt.Assign _ _ _) _) _ _ _); refine Mine.holdL ?_))
local macro_rules | `(tactic| walk_at "exec Assign cons BinOp") => `(tactic| ((fail_if_success (with_reducible show wpAny _ _ _ (JV _ _ _ _ _ _) _ _)); (with_reducible show wpAny _ _ (exec (Stmt.Assign _ _ _) _) _ _ _); refine Mine.holdL ?_))
local macro_rules | `(tactic| walk_at "exec Assign cons Tuple") => `(tactic| ((fail_if_success (with_reducible show wpAny _ _ _ (JLR _ _ _ _ _ _) _ _)); (with_reducible show wpAny _ _ (exec (Stmt.Assign _ _ _) _) _ _ _); refine Mine.holdL ?_))
local macro_rules | `(tactic| walk_at "call type:list") => `(tactic| (k_here; (with_reducible show wpAny _ _ (call (Value.type _) [Value.str _ _]) _ _ _); k_dflt (refine' list_text ?hh ?F ?N ?hn ?_; (case hh => rfl); (case F => k_asm); (case N => k_asm); (case hn => size_fits)); intros))
local macro_rules | `(tactic| walk_at "exec For Name Name cons nil") => `(tactic| (k_here; (refine for_enter ?_ ?_); (case refine_2 => intro _; with_unfolding_all rfl)))
local macro_rules | `(tactic| walk_at "pyIter ref") => `(tactic| ((with_reducible show wpAny _ _ (pyIter _) (ForSrc _ _ _ _ _ _ _ _) _ _); refine Mine.holdL ?_))
local macro_rules | `(tactic| k_lt $h) => `(tactic| (have hRaw := $h; replace $h := allLt_of $h; simp only [AllLt, and_true] at $h:ident))
local macro_rules | `(tactic| k_ne) => `(tactic| (refine neN ?_; (try dsimp only); first | with_reducible assumption | exact lt_get (by with_reducible assumption) (by k_mem) | exact lt_get' (by with_reducible assumption) (by k_mem) | exact Ne.symm (by with_reducible assumption) | exact allNe_get (by assumption) (by k_mem) | exact Ne.symm (allNe_get (by assumption) (by k_mem)) | omega))
local macro_rules | `(tactic| k_all) => `(tactic| first | exact List.forall_mem_nil _ | exact older_ne (by with_reducible assumption) rfl | exact ne_older (by with_reducible assumption) rfl | (refine' List.forall_mem_cons.mpr ⟨?a, ?b⟩; (case a => k_ne); (case b => k_all)))
set_option tactic.hygienic false in
set_option maxHeartbeats 80000000 in
noncomputable def sMb : PSigma fun PgC : Prop => Hid PgC → sMa.1 := by
  refine' ⟨_, ?sbody⟩
  case sbody =>
  intro h_gC
  intro w s₀ s₁ mg mb G Y fa o pm doc ho hg KX X V GL T B TE TW w_1 w_1_1 M w_2 w_3 hcd w_4 hs hlay0 hL hr hl2 w_7 w_8 w_9 w_10 w_11 hL_1 ra w1 r0 hI hr_1 hcond' hcond'_1 K0 hD h₁ tk₁ w_5 w_6 w_12 w_13 w_14 w_15 w_16 left left_1 left_2 left_3 left_4 left_5 right X0 qk ek hA tkA D yd cd oD FA NA dD dl hdl Id neD
  w_top off
  unfold HoldL
  refine cut_many (fun v => ∃ n t, 3 ≤ n ∧ n ≤ 5 ∧ v = .int ((n : Nat) : Int) t) FA NA ?_ ?_
  · k_steps
    all_goals (try k_data)
    exact JV.intro (by assumption) (by assumption) (by assumption) (many_ok _ _)
  intro hB tkB vM oM FB NB dM ⟨n, tM, hn3, hn5, eM⟩
  subst eM
  clear FA NA
  k_steps
  unfold HoldL
  refine cut_code (fun ws => ∃ c, valid n c = true ∧ IntsAre ws (c.map Int.ofNat)) FB NB ?_ ?_
  · k_steps
    all_goals (try k_data)
    rename IntsAre _ (List.map _ (rangeKs _ _)) => I8
    refine JL.intro (by assumption) (by assumption) (by assumption) (code_ok I8) ?_
    · k_all
  intro hC tkC C yc cc oC FC NC dC ⟨c, hv, Ic⟩ neC
  clear FB NB
  k_steps
  unfold HoldL
  refine cut_code (Wd n) FC NC ?_ ?_
  · k_steps
    all_goals (try k_data)
    · refine JL.intro (by assumption) (by assumption) (by assumption) (wd_strs hn3 hn5 (by assumption)) ?_
      k_all
    · refine JL.intro (by assumption) (by assumption) (by assumption) (wd_ints (by assumption)) ?_
      k_all
  intro hW tkW W ws cw oW FW NW dW wd neW
  clear FC NC
  k_steps
  unfold HoldL
  refine cut_lr n FW NW ?_ ?_
  · k_steps
    all_goals (try k_data)
    refine JLR.intro (by assumption) (by assumption) (by assumption) (by assumption) ?_
    k_all
  intro hR tkR Lf vs cl R oR FR NR dR Il neR
  clear FW NW
  k_steps
  unfold HoldL
  revert w s₀ s₁ mg mb G Y fa o pm doc ho hg KX X V GL T B TE TW w_1 w_1_1 M w_2 w_3 hcd w_4 hs hlay0 hL hr hl2 w_7 w_8 w_9 w_10 w_11 hL_1 ra w1 r0 hI hr_1 hcond' hcond'_1 K0 hD h₁ tk₁ w_5 w_6 w_12 w_13 w_14 w_15 w_16 left left_1 left_2 left_3 left_4 left_5 right X0 qk ek hA tkA D yd cd oD dD dl hdl Id neD hB tkB oM n tM hn3 hn5 dM hC tkC C yc cc oC dC c hv Ic neC hW tkW W ws cw oW dW wd neW hR tkR Lf vs cl R oR FR NR dR Il neR
  exact h_gC.get
end Mine
end
section
open PySem PySem.W PySem.Spec PySem.Calls PyProof.Rows
namespace Mine
local macro_rules | `(tactic| k_all) => `(tactic| first | exact List.forall_mem_nil _ | (refine' List.forall_mem_cons.mpr ⟨?a, ?b⟩; (case a => k_ne); (case b => k_all)))
local macro_rules | `(tactic| k_subL) => `(tactic| first | exact List.forall_mem_nil _ | (refine' List.forall_mem_cons.mpr ⟨?a, ?b⟩; (case a => k_mem); (case b => k_subL)))
local macro_rules | `(tactic| k_ne) => `(tactic| (refine neN ?_; (try dsimp only); first | with_reducible assumption | exact Nat.ne_of_lt (by with_reducible assumption) | exact Nat.ne_of_gt (by with_reducible assumption) | exact Ne.symm (by with_reducible assumption) | assumption | exact Ne.symm (by assumption) | exact allNe_get (by assumption) (by k_mem) | exact Ne.symm (allNe_get (by assumption) (by k_mem)) | omega))
local macro_rules | `(tactic| l_bnd) => `(tactic| omega)
local macro_rules | `(tactic| walk_at "subscriptTail") => `(tactic| (k_here; (with_reducible show wpAny _ _ (subscriptTail _ _ (Value.ref _) (Value.int _ _)) _ _ _); (try dsimp only); k_dflt (refine' item_news ?N ?M ?X ?h0 ?hf ?_; (case N => k_asm); (case M => k_mem); (case X => assumption); (case h0 => omega); (case hf => omega))))
local macro_rules | `(tactic| walk_at "binaryOp Add ref ref") => `(tactic| (k_here; (with_reducible show wpAny _ _ (binaryOp _ (Value.ref _) (Value.ref _)) _ _ _); k_dflt (refine' kmk_add_ints ?F ?N ?a ?b ?i ?j ?_ ?z; (case F => k_asm); (case N => k_asm); (case a => kmk_list); (case b => kmk_list); (case i => l_ints); (case j => l_ints); (case z => ((simp only [sizeLine_eq, List.length_take, List.length_drop, List.length_map]; omega)))); intro D' ws' h' F' N' l1 hI'; (try k_lt l1); (try k_sweep)))
local macro_rules | `(tactic| walk_at "subscriptTail Name Slice ref ref") => `(tactic| (k_here; (with_reducible show wpAny _ _ (subscriptTail _ (PySem.Expr.Slice _ _ none _) (Value.ref _) (Value.ref _)) _ _ _); k_dflt (refine' kmk_slice_ints ?F ?N ?l ?p ?q ?i ?m ?c ?_ ?s ?t ?z; (case F => k_asm); (case N => k_asm); (case l => kmk_list); (case p => kmk_part); (case q => kmk_part); (case i => l_ints); (case m => first | exact kmk_from (by l_ints) (by omega) | exact kmk_upto (by l_ints) (by omega) | exact kmk_run (by l_ints) (by omega) (by omega)); (case c => kmk_len); (case s => with_unfolding_all rfl); (case t => kmk_pure); (case z => (refine kmk_sz (by l_ints) ?_; (simp only [sizeLine_eq, List.length_map]; omega)))); intro D' ws' h' F' N' l1 hI' hC' hL'; (try k_lt l1)))
local macro_rules | `(tactic| k_lt $h) => `(tactic| (have hRaw := $h; replace $h := allLt_of $h; simp only [AllLt, and_true] at $h:ident))
local macro_rules | `(tactic| k_ne) => `(tactic| (refine neN ?_; (try dsimp only); first | with_reducible assumption | exact lt_get (by with_reducible assumption) (by k_mem) | exact lt_get' (by with_reducible assumption) (by k_mem) | exact Ne.symm (by with_reducible assumption) | exact allNe_get (by assumption) (by k_mem) | exact Ne.symm (allNe_get (by assumption) (by k_mem)) | omega))
local macro_rules | `(tactic| k_all) => `(tactic| first | exact List.forall_mem_nil _ | exact older_ne (by with_reducible assumption) rfl | exact ne_older (by with_reducible assumption) rfl | (refine' List.forall_mem_cons.mpr ⟨?a, ?b⟩; (case a => k_ne); (case b => k_all)))
set_option tactic.hygienic false in
set_option maxHeartbeats 80000000 in
noncomputable def sMc : PSigma fun PgD : Prop => Hid PgD → sMb.1 := by
  refine' ⟨_, ?sbody⟩
  case sbody =>
  intro h_gD
  intro w s₀ s₁ mg mb G Y fa o pm doc ho hg KX X V GL T B TE TW w_1 w_1_1 M w_2 w_3 hcd w_4 hs hlay0 hL hr hl2 w_7 w_8 w_9 w_10 w_11 hL_1 ra w1 r0 hI hr_1 hcond' hcond'_1 K0 hD h₁ tk₁ w_5 w_6 w_12 w_13 w_14 w_15 w_16 left left_1 left_2 left_3 left_4 left_5 right X0 qk ek hA tkA D yd cd oD dD dl hdl Id neD hB tkB oM n tM hn3 hn5 dM hC tkC C yc cc oC dC c hv Ic neC hW tkW W ws cw oW dW wd neW hR tkR Lf vs cl R oR FR NR dR Il neR
  w_top off
  refine law_loop1 (by rfl) FR NR (.tail _ (.head _)) hn5 hv Ic Il ?_ ?_ ?_
  · k_all
  · intro i ci t ri tr I oI h tk Lf lv cl rv cr pl E' hci hi hlt hx hri F N offI hl hr neR hl5 hr5 hll
    clear FR NR
    k_steps
    all_goals (try k_data)
    rename IntsAre _ (_ ++ _) => Iw
    refine' TurnEnd.next (by assumption) (by assumption) _ ?ka ?kb ?kc (Inv1.next hci hri Iw hr ?kd)
    case kb => k_subL
    case ka => k_mem
    case kc => k_all
    case kd => k_all
  · intro hL1 tkL Lf lv cl rv cr pl FL NL hrv neR
    clear FR NR
    rename_i uu109 uu111 uu116
    revert w s₀ s₁ mg mb G Y fa o pm doc ho hg KX X V GL T B TE TW w_1 w_1_1 M w_2 w_3 hcd w_4 hs hlay0 hL hr hl2 w_7 w_8 w_9 w_10 w_11 hL_1 ra w1 r0 hI hr_1 hcond' hcond'_1 K0 hD h₁ tk₁ w_5 w_6 w_12 w_13 w_14 w_15 w_16 left left_1 left_2 left_3 left_4 left_5 right X0 qk ek hA tkA D yd cd oD dD dl hdl Id neD hB tkB oM n tM hn3 hn5 dM hC tkC C yc cc oC dC c hv Ic neC hW tkW W ws cw oW dW wd neW hR tkR uu109 vs uu111 R oR dR Il uu116 hL1 tkL Lf lv cl rv cr pl FL NL hrv neR
    exact h_gD.get
end Mine
end
section
open PySem PySem.W PySem.Spec PySem.Calls PyProof.Rows
namespace Mine
local macro_rules | `(tactic| k_all) => `(tactic| first | exact List.forall_mem_nil _ | (refine' List.forall_mem_cons.mpr ⟨?a, ?b⟩; (case a => k_ne); (case b => k_all)))
local macro_rules | `(tactic| k_subL) => `(tactic| first | exact List.forall_mem_nil _ | (refine' List.forall_mem_cons.mpr ⟨?a, ?b⟩; (case a => k_mem); (case b => k_subL)))
local macro_rules | `(tactic| k_ne) => `(tactic| (refine neN ?_; (try dsimp only); first | with_reducible assumption | exact Nat.ne_of_lt (by with_reducible assumption) | exact Nat.ne_of_gt (by with_reducible assumption) | exact Ne.symm (by with_reducible assumption) | assumption | exact Ne.symm (by assumption) | exact allNe_get (by assumption) (by k_mem) | exact Ne.symm (allNe_get (by assumption) (by k_mem)) | omega))
local macro_rules | `(tactic| l_bnd) => `(tactic| omega)
local macro_rules | `(tactic| walk_at "subscriptTail") => `(tactic| (k_here; (with_reducible show wpAny _ _ (subscriptTail _ _ (Value.ref _) (Value.int _ _)) _ _ _); (try dsimp only); k_dflt (refine' item_news ?N ?M ?X ?h0 ?hf ?_; (case N => k_asm); (case M => k_mem); (case X => assumption); (case h0 => omega); (case hf => omega))))
local macro_rules | `(tactic| walk_at "exec Assign cons Dict") => `(tactic| ((fail_if_success (with_reducible show wpAny _ _ _ (JD _ _ _ _ _ _ _ _ _ _ _ _ _ _ _ _ _ _ _ _ _ _ _ _ _ _) _ _)); (with_reducible show wpAny _ _ (exec (Stmt.Assign _ _ _) _) _ _ _); refine Mine.holdL ?_))
local macro_rules | `(tactic| walk_at "eval ListComp") => `(tactic| (k_here; (with_reducible apply comp_J); (case hclos => with_unfolding_all rfl); (case hcell => decide); (case hkind => with_unfolding_all rfl); (case hnames => decide); (case hx => with_unfolding_all rfl); (case hs => intro _; with_unfolding_all rfl)))
local macro_rules | `(tactic| walk_at "exec For Name Call cons nil") => `(tactic| (k_here; (refine for_enter ?_ ?_); (case refine_2 => intro _; with_unfolding_all rfl)))
local macro_rules | `(tactic| walk_at "pyIter ref") => `(tactic| ((with_reducible show wpAny _ _ (pyIter _) (ForSrc _ _ _ _ _ _ _ _) _ _); refine Mine.holdL ?_))
local macro_rules | `(tactic| k_lt $h) => `(tactic| (have hRaw := $h; replace $h := allLt_of $h; simp only [AllLt, and_true] at $h:ident))
local macro_rules | `(tactic| k_ne) => `(tactic| (refine neN ?_; (try dsimp only); first | with_reducible assumption | exact lt_get (by with_reducible assumption) (by k_mem) | exact lt_get' (by with_reducible assumption) (by k_mem) | exact Ne.symm (by with_reducible assumption) | exact allNe_get (by assumption) (by k_mem) | exact Ne.symm (allNe_get (by assumption) (by k_mem)) | omega))
local macro_rules | `(tactic| k_all) => `(tactic| first | exact List.forall_mem_nil _ | exact older_ne (by with_reducible assumption) rfl | exact ne_older (by with_reducible assumption) rfl | (refine' List.forall_mem_cons.mpr ⟨?a, ?b⟩; (case a => k_ne); (case b => k_all)))
set_option tactic.hygienic false in
set_option maxHeartbeats 80000000 in
noncomputable def sMd : PSigma fun PgE : Prop => Hid PgE → sMc.1 := by
  refine' ⟨_, ?sbody⟩
  case sbody =>
  intro h_gE
  intro w s₀ s₁ mg mb G Y fa o pm doc ho hg KX X V GL T B TE TW w_1 w_1_1 M w_2 w_3 hcd w_4 hs hlay0 hL hr hl2 w_7 w_8 w_9 w_10 w_11 hL_1 ra w1 r0 hI hr_1 hcond' hcond'_1 K0 hD h₁ tk₁ w_5 w_6 w_12 w_13 w_14 w_15 w_16 left left_1 left_2 left_3 left_4 left_5 right X0 qk ek hA tkA D yd cd oD dD dl hdl Id neD hB tkB oM n tM hn3 hn5 dM hC tkC C yc cc oC dC c hv Ic neC hW tkW W ws cw oW dW wd neW hR tkR Lf vs cl R oR dR Il neR hL1 tkL Lf_1 lv cl_1 rv cr pl FL NL hrv neR_1
  w_top off
  k_steps
  unfold HoldL
  have la := lawAt_of hn3 hn5 hv
  have rlen := ints_len hrv
  refine cut_doc n (rowV ws (ranksOf n c)).toArray FL NL ?_ ?_
  · k_steps
    rename Fr _ _ _ _ => F0
    rename News _ _ _ _ => N0
    have R0 := (N0 _ (.tail _ (.tail _ (.head _)))).1
    have rL := News.ne_L N0 (.tail _ (.tail _ (.head _)))
    refine src_pick (fun i => ((ranksOf n c)[i]?).map fun j => ws.getD j .none) (by rfl) (isSrc_listN rfl R0 rlen) ?_ F0 N0 (fun b hb => by rw [List.mem_singleton.mp hb]; exact rL) ?_ ?_
    · rw [la.rlen]; omega
    · intro i v C oC h tk m₃ E' hi hP hoC hx hk F N neC
      obtain ⟨ri, tr, hri, rfl⟩ := ints_some hrv hP
      have rlt := la.rlt ri (List.mem_of_getElem? hri)
      have hW := ws_at (ws := ws.toArray) wd rlt
      k_steps
      refine ⟨_, _, rfl, KeepL.rfl', ?_⟩
      simp only [if_true]
      k_steps
      exact Elt.intro KeepL.rfl' (by rw [hri]; rfl)
    · intro D h' tk F N neD _ _
      rw [rowV_pick] at N
      clear R0 rL F0 N0
      k_steps
      rename Fr _ _ _ _ => F0
      rename News _ _ _ _ => N0
      refine JD.intro F0 (by assumption) N0 (by assumption) ?_
      repeat' (first | exact trivial | refine And.intro (allNe_of ?_) ?_)
      all_goals k_all
  · intro hD tkD B tb cb Rw nr doc es ep FD ND hdoc hlo ap
    clear FL NL
    dsimp only [L2] at ND
    k_steps
    unfold HoldL
    rename_i uu11 uu19 uu48 uu144 uu145 uu146 uu147 uu148
    revert w s₀ s₁ mg mb G Y fa o pm uu11 ho hg KX X V GL T uu19 TE TW w_1 w_1_1 M w_2 w_3 hcd w_4 hs hlay0 hL hr hl2 w_7 w_8 w_9 w_10 w_11 hL_1 ra w1 r0 hI hr_1 hcond' hcond'_1 K0 uu48 h₁ tk₁ w_5 w_6 w_12 w_13 w_14 w_15 w_16 left left_1 left_2 left_3 left_4 left_5 right X0 qk ek hA tkA D yd cd oD dD dl hdl Id neD hB tkB oM n tM hn3 hn5 dM hC tkC C yc cc oC dC c hv Ic neC hW tkW W ws cw oW dW wd neW hR tkR Lf vs cl R oR dR Il neR hL1 tkL Lf_1 lv cl_1 rv cr pl hrv neR_1 la rlen hD tkD B tb cb Rw nr doc es ep FD ND hdoc hlo ap uu144 uu145 uu146 uu147 uu148 h' tk t₁ u₁ v₁ a a_1 a_2 a_3
    exact h_gE.get
end Mine
end
section
open PySem PySem.W PySem.Spec PySem.Calls PyProof.Rows
namespace Mine
local macro_rules | `(tactic| k_all) => `(tactic| first | exact List.forall_mem_nil _ | (refine' List.forall_mem_cons.mpr ⟨?a, ?b⟩; (case a => k_ne); (case b => k_all)))
local macro_rules | `(tactic| k_subL) => `(tactic| first | exact List.forall_mem_nil _ | (refine' List.forall_mem_cons.mpr ⟨?a, ?b⟩; (case a => k_mem); (case b => k_subL)))
local macro_rules | `(tactic| k_ne) => `(tactic| (refine neN ?_; (try dsimp only); first | with_reducible assumption | exact Nat.ne_of_lt (by with_reducible assumption) | exact Nat.ne_of_gt (by with_reducible assumption) | exact Ne.symm (by with_reducible assumption) | assumption | exact Ne.symm (by assumption) | exact allNe_get (by assumption) (by k_mem) | exact Ne.symm (allNe_get (by assumption) (by k_mem)) | omega))
local macro_rules | `(tactic| l_bnd) => `(tactic| omega)
local macro_rules | `(tactic| walk_at "subscriptTail") => `(tactic| (k_here; (with_reducible show wpAny _ _ (subscriptTail _ _ (Value.ref _) (Value.int _ _)) _ _ _); (try dsimp only); k_dflt (refine' item_news ?N ?M ?X ?h0 ?hf ?_; (case N => k_asm); (case M => k_mem); (case X => assumption); (case h0 => omega); (case hf => omega))))
local macro_rules | `(tactic| walk_at "exec Assign cons Dict") => `(tactic| ((fail_if_success (with_reducible show wpAny _ _ _ (JD _ _ _ _ _ _ _ _ _ _ _ _ _ _ _ _ _ _ _ _ _ _ _ _ _ _) _ _)); (with_reducible show wpAny _ _ (exec (Stmt.Assign _ _ _) _) _ _ _); refine Mine.holdL ?_))
local macro_rules | `(tactic| walk_at "eval ListComp") => `(tactic| (k_here; (with_reducible apply comp_J); (case hclos => with_unfolding_all rfl); (case hcell => decide); (case hkind => with_unfolding_all rfl); (case hnames => decide); (case hx => with_unfolding_all rfl); (case hs => intro _; with_unfolding_all rfl)))
local macro_rules | `(tactic| walk_at "exec For Name Call cons nil") => `(tactic| (k_here; (refine for_enter ?_ ?_); (case refine_2 => intro _; with_unfolding_all rfl)))
local macro_rules | `(tactic| walk_at "pyIter ref") => `(tactic| ((with_reducible show wpAny _ _ (pyIter _) (ForSrc _ _ _ _ _ _ _ _) _ _); refine Mine.holdL ?_))
local macro_rules | `(tactic| k_lt $h) => `(tactic| (have hRaw := $h; replace $h := allLt_of $h; simp only [AllLt, and_true] at $h:ident))
local macro_rules | `(tactic| k_ne) => `(tactic| (refine neN ?_; (try dsimp only); first | with_reducible assumption | exact lt_get (by with_reducible assumption) (by k_mem) | exact lt_get' (by with_reducible assumption) (by k_mem) | exact Ne.symm (by with_reducible assumption) | exact allNe_get (by assumption) (by k_mem) | exact Ne.symm (allNe_get (by assumption) (by k_mem)) | omega))
local macro_rules | `(tactic| k_all) => `(tactic| first | exact List.forall_mem_nil _ | exact older_ne (by with_reducible assumption) rfl | exact ne_older (by with_reducible assumption) rfl | (refine' List.forall_mem_cons.mpr ⟨?a, ?b⟩; (case a => k_ne); (case b => k_all)))
set_option tactic.hygienic false in
set_option maxHeartbeats 80000000 in
noncomputable def sMe : PSigma fun PgG : Prop => PSigma fun PgH : Prop => PSigma fun PgFin : Prop => Hid PgG → Hid PgH → Hid PgFin → sMd.1 := by
  refine' ⟨_, _, _, ?sbody⟩
  case sbody =>
  intro h_gG h_gH h_gFin
  intro w s₀ s₁ mg mb G Y fa o pm doc ho hg KX X V GL T B TE TW w_1 w_1_1 M w_2 w_3 hcd w_4 hs hlay0 hL hr hl2 w_7 w_8 w_9 w_10 w_11 hL_1 ra w1 r0 hI hr_1 hcond' hcond'_1 K0 hD h₁ tk₁ w_5 w_6 w_12 w_13 w_14 w_15 w_16 left left_1 left_2 left_3 left_4 left_5 right X0 qk ek hA tkA D yd cd oD dD dl hdl Id neD hB tkB oM n tM hn3 hn5 dM hC tkC C yc cc oC dC c hv Ic neC hW tkW W ws cw oW dW wd neW hR tkR Lf vs cl R oR dR Il neR hL1 tkL Lf_1 lv cl_1 rv cr pl hrv neR_1 la rlen hD_1 tkD B_1 tb cb Rw nr doc_1 es ep FD ND hdoc hlo ap h' tk' t' F' N' h'_1 tk t₁ u₁ v₁ a a_1 a_2 a_3
  w_top off
  rename Fr _ _ _ _ => F0
  rename News _ _ _ _ => N0
  rename IsRange _ _ _ _ _ _ _ _ => rgI
  refine law_loop2 (n := n) (c := c) (r := ranksOf n c) (by rfl) (sum_cast1 c) la.sum rgI F0 N0 ap (by assumption) ⟨la, rfl, Ic, hrv, rfl, dC, dR⟩ ?turn ?fin
  case turn =>
    intro i tt c_1 r yc cc yr cr rows nr oC oR oK Ci Ri tv qv dv ov ok I oI hT tkT ET hi dK sit FT NT neI apT
    (try clear F0)
    (try clear N0)
    (try clear FD)
    (try clear ND)
    clear la rgI ap
    have la := sit.la
    have Ic_1 := sit.Ic
    have Ir := sit.Ir
    have dC_1 := sit.dC
    have dR_1 := sit.dR
    have ap := apT
    dsimp only [L2] at NT
    simp only [Apart, and_true] at ap
    obtain ⟨ap1, ap2, ap3, ap4, ap5, ap6, ap7, ap8, ap9, ap10, ap11, ap12, ap13, ap14⟩ := ap
    k_steps
    unfold HoldL
    rename Fr _ _ _ _ => F2
    rename News _ _ _ _ => N2
    rename IsRange _ _ _ _ _ _ _ _ => rgI2
    refine law_loop3 (by rfl) rfl hn5 dK rgI2 F2 N2 ?turn3 ?fin3
    case turn3 =>
      intro k tk3 oK3 qv3 dv3 ov3 ok3 I3 oI3 h3 tk4 E3 hk dK3 F3 N3 neI3
      clear F2 N2 rgI2
      (try clear NT)
      (try clear FT)
      rename_i uu90 uu91 uu92 uu113 uu123 uu134 uu144 uu198 uu199 uu200
      revert w s₀ s₁ mg mb G Y fa o pm doc ho hg KX X V GL T B TE TW w_1 w_1_1 M w_2 w_3 hcd w_4 hs hlay0 hL hr hl2 w_7 w_8 w_9 w_10 w_11 hL_1 ra w1 r0 hI hr_1 hcond' hcond'_1 K0 hD h₁ tk₁ w_5 w_6 w_12 w_13 w_14 w_15 w_16 left left_1 left_2 left_3 left_4 left_5 right X0 qk ek hA tkA D yd cd oD dD dl hdl Id neD hB tkB oM n tM hn3 hn5 dM hC tkC C uu90 uu91 uu92 dC c hv Ic neC hW tkW W ws cw oW dW wd neW hR tkR Lf vs cl R uu113 dR Il neR hL1 tkL Lf_1 lv cl_1 rv uu123 pl hrv neR_1 rlen hD_1 tkD B_1 tb cb Rw uu134 doc_1 es ep hdoc hlo h' tk' t' h'_1 uu144 t₁ u₁ v₁ a_3 i tt c_1 r yc cc yr cr rows nr oC oR oK Ci Ri tv qv dv ov ok I oI hT tkT ET hi dK sit neI apT la Ic_1 Ir dC_1 dR_1 ap1 ap2 ap3 ap4 ap5 ap6 ap7 ap8 ap9 ap10 ap11 ap12 ap13 ap14 uu198 uu199 uu200 tk h'_2 tk_1 t₁_1 u₁_1 v₁_1 a_4 k tk3 oK3 qv3 dv3 ov3 ok3 I3 oI3 h3 tk4 E3 hk dK3 F3 N3 neI3
      exact h_gG.get
    case fin3 =>
      intro oK3 qv3 dv3 ov3 ok3 h3 tk4 dK3 F3 N3
      clear F2 N2 rgI2
      (try clear NT)
      (try clear FT)
      rename_i uu90 uu91 uu92 uu113 uu123 uu134 uu144 uu198 uu199 uu200
      revert w s₀ s₁ mg mb G Y fa o pm doc ho hg KX X V GL T B TE TW w_1 w_1_1 M w_2 w_3 hcd w_4 hs hlay0 hL hr hl2 w_7 w_8 w_9 w_10 w_11 hL_1 ra w1 r0 hI hr_1 hcond' hcond'_1 K0 hD h₁ tk₁ w_5 w_6 w_12 w_13 w_14 w_15 w_16 left left_1 left_2 left_3 left_4 left_5 right X0 qk ek hA tkA D yd cd oD dD dl hdl Id neD hB tkB oM n tM hn3 hn5 dM hC tkC C uu90 uu91 uu92 dC c hv Ic neC hW tkW W ws cw oW dW wd neW hR tkR Lf vs cl R uu113 dR Il neR hL1 tkL Lf_1 lv cl_1 rv uu123 pl hrv neR_1 rlen hD_1 tkD B_1 tb cb Rw uu134 doc_1 es ep hdoc hlo h' tk' t' h'_1 uu144 t₁ u₁ v₁ a_3 i tt c_1 r yc cc yr cr rows nr oC oR oK Ci Ri tv qv dv ov ok I oI hT tkT ET hi dK sit neI apT la Ic_1 Ir dC_1 dR_1 ap1 ap2 ap3 ap4 ap5 ap6 ap7 ap8 ap9 ap10 ap11 ap12 ap13 ap14 uu198 uu199 uu200 tk h'_2 tk_1 t₁_1 u₁_1 v₁_1 a_4 oK3 qv3 dv3 ov3 ok3 h3 tk4 dK3 F3 N3
      exact h_gH.get
  case fin =>
    intro c r yc cc yr cr rows nr oC oR oK Ci Ri tv qv dv ov hT tkT sit FT NT apT
    (try clear F0)
    (try clear N0)
    (try clear FD)
    (try clear ND)
    clear la rgI ap
    rename_i uu90 uu91 uu92 uu94 uu113 uu123 uu134
    revert w s₀ s₁ mg mb G Y fa o pm doc ho hg KX X V GL T B TE TW w_1 w_1_1 M w_2 w_3 hcd w_4 hs hlay0 hL hr hl2 w_7 w_8 w_9 w_10 w_11 hL_1 ra w1 r0 hI hr_1 hcond' hcond'_1 K0 hD h₁ tk₁ w_5 w_6 w_12 w_13 w_14 w_15 w_16 left left_1 left_2 left_3 left_4 left_5 right X0 qk ek hA tkA D yd cd oD dD dl hdl Id neD hB tkB oM n tM hn3 hn5 dM hC tkC C uu90 uu91 uu92 dC uu94 hv Ic neC hW tkW W ws cw oW dW wd neW hR tkR Lf vs cl R uu113 dR Il neR hL1 tkL Lf_1 lv cl_1 rv uu123 pl hrv neR_1 rlen hD_1 tkD B_1 tb cb Rw uu134 doc_1 es ep hdoc hlo h' tk' t' F' N' h'_1 tk t₁ u₁ v₁ a_3 c r yc cc yr cr rows nr oC oR oK Ci Ri tv qv dv ov hT tkT sit FT NT apT
    exact h_gFin.get
end Mine
end
section
open PySem PySem.W PySem.Spec PySem.Calls PyProof.Rows
namespace Mine
local macro_rules | `(tactic| k_all) => `(tactic| first | exact List.forall_mem_nil _ | (refine' List.forall_mem_cons.mpr ⟨?a, ?b⟩; (case a => k_ne); (case b => k_all)))
local macro_rules | `(tactic| k_subL) => `(tactic| first | exact List.forall_mem_nil _ | (refine' List.forall_mem_cons.mpr ⟨?a, ?b⟩; (case a => k_mem); (case b => k_subL)))
local macro_rules | `(tactic| k_ne) => `(tactic| (refine neN ?_; (try dsimp only); first | with_reducible assumption | exact Nat.ne_of_lt (by with_reducible assumption) | exact Nat.ne_of_gt (by with_reducible assumption) | exact Ne.symm (by with_reducible assumption) | assumption | exact Ne.symm (by assumption) | exact allNe_get (by assumption) (by k_mem) | exact Ne.symm (allNe_get (by assumption) (by k_mem)) | omega))
local macro_rules | `(tactic| l_bnd) => `(tactic| omega)
local macro_rules | `(tactic| walk_at "subscriptTail") => `(tactic| (k_here; (with_reducible show wpAny _ _ (subscriptTail _ _ (Value.ref _) (Value.int _ _)) _ _ _); (try dsimp only); k_dflt (refine' item_news ?N ?M ?X ?h0 ?hf ?_; (case N => k_asm); (case M => k_mem); (case X => assumption); (case h0 => omega); (case hf => omega))))
local macro_rules | `(tactic| walk_at "exec Assign cons Dict") => `(tactic| ((fail_if_success (with_reducible show wpAny _ _ _ (JD _ _ _ _ _ _ _ _ _ _ _ _ _ _ _ _ _ _ _ _ _ _ _ _ _ _) _ _)); (with_reducible show wpAny _ _ (exec (Stmt.Assign _ _ _) _) _ _ _); refine Mine.holdL ?_))
local macro_rules | `(tactic| walk_at "eval ListComp") => `(tactic| (k_here; (with_reducible apply comp_J); (case hclos => with_unfolding_all rfl); (case hcell => decide); (case hkind => with_unfolding_all rfl); (case hnames => decide); (case hx => with_unfolding_all rfl); (case hs => intro _; with_unfolding_all rfl)))
local macro_rules | `(tactic| walk_at "exec For Name Call cons nil") => `(tactic| (k_here; (refine for_enter ?_ ?_); (case refine_2 => intro _; with_unfolding_all rfl)))
local macro_rules | `(tactic| walk_at "pyIter ref") => `(tactic| ((with_reducible show wpAny _ _ (pyIter _) (ForSrc _ _ _ _ _ _ _ _) _ _); refine Mine.holdL ?_))
local macro_rules | `(tactic| walk_at "exec Assign cons Call") => `(tactic| ((fail_if_success (with_reducible show wpAny _ _ _ (JQ _ _ _ _ _ _ _) _ _)); (with_reducible show wpAny _ _ (exec (Stmt.Assign _ _ _) _) _ _ _); refine Mine.holdL ?_))
local macro_rules | `(tactic| walk_at "exec Assign cons ListComp") => `(tactic| (k_here; (with_reducible apply assign_J); (case hsw => with_unfolding_all rfl); (case hclos => with_unfolding_all rfl); (case hcell => decide); (case hkind => with_unfolding_all rfl); (case hnames => decide); (case hx => with_unfolding_all rfl); (case hy => with_unfolding_all rfl); (case hp => with_unfolding_all rfl); (case hs => intro _; with_unfolding_all rfl)))
local macro_rules | `(tactic| walk_at "exec Assign cons ListComp") => `(tactic| ((fail_if_success (with_reducible show wpAny _ _ _ (JT _ _ _ _ _ _ _) _ _)); (with_reducible show wpAny _ _ (exec (Stmt.Assign _ (Expr.ListComp _ _ _ _) _) _) _ _ _); refine Mine.holdL ?_))
local macro_rules | `(tactic| walk_at "call ref") => `(tactic| ((with_reducible show wpAny _ _ (call (Value.ref 354) _ _) _ _ _); refine (Mine.holdL ?_)))
local macro_rules | `(tactic| k_lt $h) => `(tactic| (have hRaw := $h; replace $h := allLt_of $h; simp only [AllLt, and_true] at $h:ident))
local macro_rules | `(tactic| k_ne) => `(tactic| (refine neN ?_; (try dsimp only); first | with_reducible assumption | exact lt_get (by with_reducible assumption) (by k_mem) | exact lt_get' (by with_reducible assumption) (by k_mem) | exact Ne.symm (by with_reducible assumption) | exact allNe_get (by assumption) (by k_mem) | exact Ne.symm (allNe_get (by assumption) (by k_mem)) | omega))
local macro_rules | `(tactic| k_all) => `(tactic| first | exact List.forall_mem_nil _ | exact older_ne (by with_reducible assumption) rfl | exact ne_older (by with_reducible assumption) rfl | (refine' List.forall_mem_cons.mpr ⟨?a, ?b⟩; (case a => k_ne); (case b => k_all)))
local macro_rules | `(tactic| walk_at "subscriptTail") => `(tactic| (k_here; (fail_if_success (with_reducible show wpAny _ _ (subscriptTail (PySem.Expr.Name _ _) _ _ _) _ _ _)); k_dflt (refine kba_turn (value' := PySem.Expr.Name (PySem.Str.ofString "_") ⟨0, 0, 0, 0⟩) (fun _ => rfl) ?_)))
local macro_rules | `(tactic| walk_at "no such place") => `(tactic| skip)
set_option tactic.hygienic false in
set_option maxHeartbeats 80000000 in
noncomputable def sMf : PSigma fun PgI : Prop => Hid PgI → sMe.1 := by
  refine' ⟨_, ?sbody⟩
  case sbody =>
  intro h_gI
  intro w s₀ s₁ mg mb G Y fa o pm doc ho hg KX X V GL T B TE TW w_1 w_1_1 M w_2 w_3 hcd w_4 hs hlay0 hL hr hl2 w_7 w_8 w_9 w_10 w_11 hL_1 ra w1 r0 hI hr_1 hcond' hcond'_1 K0 hD h₁ tk₁ w_5 w_6 w_12 w_13 w_14 w_15 w_16 left left_1 left_2 left_3 left_4 left_5 right X0 qk ek hA tkA D yd cd oD dD dl hdl Id neD hB tkB oM n tM hn3 hn5 dM hC tkC C yc cc oC dC c hv Ic neC hW tkW W ws cw oW dW wd neW hR tkR Lf vs cl R oR dR Il neR hL1 tkL Lf_1 lv cl_1 rv cr pl hrv neR_1 rlen hD_1 tkD B_1 tb cb Rw nr doc_1 es ep hdoc hlo h' tk' t' h'_1 tk t₁ u₁ v₁ a_3 i tt c_1 r yc_1 cc_1 yr cr_1 rows nr_1 oC_1 oR_1 oK Ci Ri tv qv dv ov ok I oI hT tkT ET hi dK sit neI apT la Ic_1 Ir dC_1 dR_1 ap1 ap2 ap3 ap4 ap5 ap6 ap7 ap8 ap9 ap10 ap11 ap12 ap13 ap14 h'_2 F' N' tk_1 h'_2_1 tk_1_1 t₁_1 u₁_1 v₁_1 a_4 k tk3 oK3 qv3 dv3 ov3 ok3 I3 oI3 h3 tk4 E3 hk dK3 F3 N3 neI3
  w_top off
  obtain ⟨rk, ck, ak⟩ := atK wd sit hk
  have hrow := ak.row
  dsimp only [L2, NF] at F3 N3
  k_steps
  unfold HoldL
  rename Fr _ _ _ _ => F4
  rename News _ _ _ _ => N4
  rename Obj.data _ = _ => dK4
  refine cut_question (k + 1) (ws.getD rk .none) F4 N4 ?walk ?go
  case walk =>
    k_steps

    exact JQ.intro (by assumption) (by assumption)
  case go =>
    intro hQ tkQ ch chd wh whd ex ed th thd sl sd ft f fd f1 f2 c1 c2 g1 g2 h1 h2 h3' h4 i1 i2 i3 s1 s2 s3 q1 q2 r1 r2 t1 t2 t3 t4 v1 v2 v3 tk to nt FQ NQ
    (try clear F4)
    (try clear N4)
    (try clear F3)
    (try clear N3)
    rename_i uu144 uu225 uu226 uu228
    revert w s₀ s₁ mg mb G Y fa o pm doc ho hg KX X V GL T B TE TW w_1 w_1_1 M w_2 w_3 hcd w_4 hs hlay0 hL hr hl2 w_7 w_8 w_9 w_10 w_11 hL_1 ra w1 r0 hI hr_1 hcond' hcond'_1 K0 hD h₁ tk₁ w_5 w_6 w_12 w_13 w_14 w_15 w_16 left left_1 left_2 left_3 left_4 left_5 right X0 qk ek hA tkA D yd cd oD dD dl hdl Id neD hB tkB oM n tM hn3 hn5 dM hC tkC C yc cc oC dC c hv Ic neC hW tkW W ws cw oW dW wd neW hR tkR Lf vs cl R oR dR Il neR hL1 tkL Lf_1 lv cl_1 rv cr pl hrv neR_1 rlen hD_1 tkD B_1 tb cb Rw nr doc_1 es ep hdoc hlo h' tk' t' h'_1 uu144 t₁ u₁ v₁ a_3 i tt c_1 r yc_1 cc_1 yr cr_1 rows nr_1 oC_1 oR_1 oK Ci Ri tv qv dv ov ok I oI hT tkT ET hi dK sit neI apT la Ic_1 Ir dC_1 dR_1 ap1 ap2 ap3 ap4 ap5 ap6 ap7 ap8 ap9 ap10 ap11 ap12 ap13 ap14 h'_2 tk_1 h'_2_1 tk_1_1 t₁_1 u₁_1 v₁_1 a_4 k tk3 oK3 qv3 dv3 ov3 ok3 I3 oI3 h3 tk4 E3 hk dK3 neI3 rk ck ak hrow uu225 uu226 dK4 uu228 hQ tkQ ch chd wh whd ex ed th thd sl sd ft f fd f1 f2 c1 c2 g1 g2 h1 h2 h3' h4 i1 i2 i3 s1 s2 s3 q1 q2 r1 r2 t1 t2 t3 t4 v1 v2 v3 tk to nt FQ NQ
    exact h_gI.get
end Mine
end
section
open PySem PySem.W PySem.Spec PySem.Calls PyProof.Rows
namespace Mine
local macro_rules | `(tactic| k_all) => `(tactic| first | exact List.forall_mem_nil _ | (refine' List.forall_mem_cons.mpr ⟨?a, ?b⟩; (case a => k_ne); (case b => k_all)))
local macro_rules | `(tactic| k_subL) => `(tactic| first | exact List.forall_mem_nil _ | (refine' List.forall_mem_cons.mpr ⟨?a, ?b⟩; (case a => k_mem); (case b => k_subL)))
local macro_rules | `(tactic| k_ne) => `(tactic| (refine neN ?_; (try dsimp only); first | with_reducible assumption | exact Nat.ne_of_lt (by with_reducible assumption) | exact Nat.ne_of_gt (by with_reducible assumption) | exact Ne.symm (by with_reducible assumption) | assumption | exact Ne.symm (by assumption) | exact allNe_get (by assumption) (by k_mem) | exact Ne.symm (allNe_get (by assumption) (by k_mem)) | omega))
local macro_rules | `(tactic| walk_at "subscriptTail Name Slice ref ref") => `(tactic| (k_here; (with_reducible show wpAny _ _ (subscriptTail _ (PySem.Expr.Slice _ _ none _) (Value.ref _) (Value.ref _)) _ _ _); k_dflt (refine' kmk_slice_ints ?F ?N ?l ?p ?q ?i ?m ?c ?_ ?s ?t ?z; (case F => k_asm); (case N => k_asm); (case l => kmk_list); (case p => kmk_part); (case q => kmk_part); (case i => l_ints); (case m => first | exact kmk_from (by l_ints) (by omega) | exact kmk_upto (by l_ints) (by omega) | exact kmk_run (by l_ints) (by omega) (by omega)); (case c => kmk_len); (case s => with_unfolding_all rfl); (case t => kmk_pure); (case z => (refine kmk_sz (by l_ints) ?_; (simp only [sizeLine_eq, List.length_map]; omega)))); intro D' ws' h' F' N' l1 hI' hC' hL'; (try k_lt l1)))
local macro_rules | `(tactic| l_bnd) => `(tactic| omega)
local macro_rules | `(tactic| walk_at "subscriptTail") => `(tactic| (k_here; (with_reducible show wpAny _ _ (subscriptTail _ _ (Value.ref _) (Value.int _ _)) _ _ _); (try dsimp only); k_dflt (refine' item_news ?N ?M ?X ?h0 ?hf ?_; (case N => k_asm); (case M => k_mem); (case X => assumption); (case h0 => omega); (case hf => omega))))
local macro_rules | `(tactic| walk_at "exec Assign cons Dict") => `(tactic| ((fail_if_success (with_reducible show wpAny _ _ _ (JD _ _ _ _ _ _ _ _ _ _ _ _ _ _ _ _ _ _ _ _ _ _ _ _ _ _) _ _)); (with_reducible show wpAny _ _ (exec (Stmt.Assign _ _ _) _) _ _ _); refine Mine.holdL ?_))
local macro_rules | `(tactic| walk_at "eval ListComp") => `(tactic| (k_here; (with_reducible apply comp_J); (case hclos => with_unfolding_all rfl); (case hcell => decide); (case hkind => with_unfolding_all rfl); (case hnames => decide); (case hx => with_unfolding_all rfl); (case hs => intro _; with_unfolding_all rfl)))
local macro_rules | `(tactic| walk_at "exec For Name Call cons nil") => `(tactic| (k_here; (refine for_enter ?_ ?_); (case refine_2 => intro _; with_unfolding_all rfl)))
local macro_rules | `(tactic| walk_at "pyIter ref") => `(tactic| ((with_reducible show wpAny _ _ (pyIter _) (ForSrc _ _ _ _ _ _ _ _) _ _); refine Mine.holdL ?_))
local macro_rules | `(tactic| walk_at "exec Assign cons Call") => `(tactic| ((fail_if_success (with_reducible show wpAny _ _ _ (JQ _ _ _ _ _ _ _) _ _)); (with_reducible show wpAny _ _ (exec (Stmt.Assign _ _ _) _) _ _ _); refine Mine.holdL ?_))
local macro_rules | `(tactic| walk_at "exec Assign cons ListComp") => `(tactic| (k_here; (with_reducible apply assign_J); (case hsw => with_unfolding_all rfl); (case hclos => with_unfolding_all rfl); (case hcell => decide); (case hkind => with_unfolding_all rfl); (case hnames => decide); (case hx => with_unfolding_all rfl); (case hy => with_unfolding_all rfl); (case hp => with_unfolding_all rfl); (case hs => intro _; with_unfolding_all rfl)))
local macro_rules | `(tactic| walk_at "exec Assign cons ListComp") => `(tactic| ((fail_if_success (with_reducible show wpAny _ _ _ (JT _ _ _ _ _ _ _) _ _)); (with_reducible show wpAny _ _ (exec (Stmt.Assign _ (Expr.ListComp _ _ _ _) _) _) _ _ _); refine Mine.holdL ?_))
local macro_rules | `(tactic| walk_at "call ref") => `(tactic| ((with_reducible show wpAny _ _ (call (Value.ref 354) _ _) _ _ _); refine (Mine.holdL ?_)))
local macro_rules | `(tactic| k_room) => `(tactic| first | ktr_room | k_room)
local macro_rules | `(tactic| k_lt $h) => `(tactic| (have hRaw := $h; replace $h := allLt_of $h; simp only [AllLt, and_true] at $h:ident))
local macro_rules | `(tactic| k_ne) => `(tactic| (refine neN ?_; (try dsimp only); first | with_reducible assumption | exact lt_get (by with_reducible assumption) (by k_mem) | exact lt_get' (by with_reducible assumption) (by k_mem) | exact Ne.symm (by with_reducible assumption) | exact allNe_get (by assumption) (by k_mem) | exact Ne.symm (allNe_get (by assumption) (by k_mem)) | omega))
local macro_rules | `(tactic| k_all) => `(tactic| first | exact List.forall_mem_nil _ | exact older_ne (by with_reducible assumption) rfl | exact ne_older (by with_reducible assumption) rfl | (refine' List.forall_mem_cons.mpr ⟨?a, ?b⟩; (case a => k_ne); (case b => k_all)))
set_option tactic.hygienic false in
set_option maxHeartbeats 80000000 in
noncomputable def sMg : PSigma fun PgK : Prop => Hid PgK → sMf.1 := by
  refine' ⟨_, ?sbody⟩
  case sbody =>
  intro h_gK
  intro w s₀ s₁ mg mb G Y fa o pm doc ho hg KX X V GL T B TE TW w_1 w_1_1 M w_2 w_3 hcd w_4 hs hlay0 hL hr hl2 w_7 w_8 w_9 w_10 w_11 hL_1 ra w1 r0 hI hr_1 hcond' hcond'_1 K0 hD h₁ tk₁ w_5 w_6 w_12 w_13 w_14 w_15 w_16 left left_1 left_2 left_3 left_4 left_5 right X0 qk ek hA tkA D yd cd oD dD dl hdl Id neD hB tkB oM n tM hn3 hn5 dM hC tkC C yc cc oC dC c hv Ic neC hW tkW W ws cw oW dW wd neW hR tkR Lf vs cl R oR dR Il neR hL1 tkL Lf_1 lv cl_1 rv cr pl hrv neR_1 rlen hD_1 tkD B_1 tb cb Rw nr doc_1 es ep hdoc hlo h' tk' t' h'_1 tk t₁ u₁ v₁ a_3 i tt c_1 r yc_1 cc_1 yr cr_1 rows nr_1 oC_1 oR_1 oK Ci Ri tv qv dv ov ok I oI hT tkT ET hi dK sit neI apT la Ic_1 Ir dC_1 dR_1 ap1 ap2 ap3 ap4 ap5 ap6 ap7 ap8 ap9 ap10 ap11 ap12 ap13 ap14 h'_2 tk_1 h'_2_1 tk_1_1 t₁_1 u₁_1 v₁_1 a_4 k tk3 oK3 qv3 dv3 ov3 ok3 I3 oI3 h3 tk4 E3 hk dK3 neI3 rk ck ak hrow h'_3 o' dK4 tk_2 hQ tkQ ch chd wh whd ex ed th thd sl sd ft f fd f1 f2 c1 c2 g1 g2 h1 h2 h3' h4 i1 i2 i3 s1 s2 s3 q1 q2 r1 r2 t1 t2 t3 t4 v1 v2 v3 tk_3 to nt FQ NQ
  w_top off
  have hrow := ak.row
  obtain ⟨trk, hrank⟩ := ak.rank
  obtain ⟨tck, hcode⟩ := ak.code
  have srow := ak.size
  have slen := ak.ylen
  have scln := ak.clen
  dsimp only [QL] at NQ
  k_steps
  unfold HoldL
  rename Fr _ _ _ _ => F4
  rename News _ _ _ _ => N4
  refine cut_told (Str.ofString "told") (rowV ws ((r.drop (k + 1)).filter fun x => decide (x < rk))) F4 N4 ?walk ?go
  case walk =>
    k_steps
    unfold HoldL
    rename Fr _ _ _ _ => F5
    rename News _ _ _ _ => N5
    k_here
    k_dflt (refine' child_find ⟨?cB, ?cF, ?cX, ?cT, ?ck, ?cd, ?cu⟩ ?cN ?hd ?hl ?hle ?hsz (ltOf (ws.getD rk .none)) ak.lt ?_; (case cB => k_asm); (case cF => k_asm); (case cX => k_asm); (case cT => k_asm); (case ck => rfl); (case cd => ktr_room); (case cu => ktr_units); (case cN => (refine News.sub (by k_asm) ?_; k_subL)); (case hd => assumption); (case hl => assumption); (case hle => omega); (case hsz => omega))
    intro l9 zs9 h9 tk9 e9 n9 g9 dat9
    have N9 := news_add (by assumption) (by assumption) e9 n9 g9
    have F9 := Fr.keeps (by assumption) e9
    rw [ak.later] at dat9
    have zlen := dat9.length
    refine src_pickA (fun i => (rowV ws ((r.drop (k + 1)).filter fun x => decide (x < rk)))[i]?) (by rfl) (isSrc_listN (n := zs9.length) rfl g9 rfl) ?_ F9 N9 (fun b hb => by rw [List.mem_singleton.mp hb]; exact News.ne_L N9 (.head _)) ?_ ?_
    · rw [zlen, rowV, List.length_map]
      exact Nat.le_trans (List.length_filter_le _ _) (by rw [List.length_drop, la.rlen]; omega)
    · intro i v C oC h tk m₃ E' hi hP hoC hx hk F N neC
      obtain ⟨x, hxw, rr, rd, pp, cc, a1, a2, a3, b1, b2, b3, rfl, f1, f2, q1, q2⟩ := Paired.get dat9 _ _ hP
      have Nx := News.both (news_dat F5 f1 q1 hk) (News.both (news_dat F5 f2 q2 hk) N)
      clear N
      k_steps
      refine ⟨_, _, rfl, KeepL.rfl', ?_⟩
      simp only [if_true]
      have xf := row_form wd (fun y hy => la.rlt y (List.mem_of_mem_drop (List.mem_filter.mp hy).1)) (List.mem_of_getElem? hxw)
      refine wpAny_mono (keep_all (P := fun b y h₅ => y = x) F Nx (.head _) fun b ob N₂ => ?_) (fun y s₅ hy => ?_) fun _ _ e => e
      · clear Nx
        rcases xf with ⟨xa, xt, rfl⟩ | ⟨xa, xt, rfl⟩ <;> k_steps
        all_goals exact Res.intro (by assumption) (News.get (by assumption) (by k_mem)) rfl
      · obtain ⟨h5, tk5, rfl, kk, hp⟩ := hy
        have hd := hp C oC (Nx _ (.tail _ (.tail _ (.head _)))).1 (Nx _ (.tail _ (.tail _ (.head _)))).2.1 (Nx _ (.tail _ (.tail _ (.head _)))).2.2
        exact Elt.intro kk (by rw [hd]; exact hxw)
    · intro D h' tk F N neD gD hkx
      rw [zlen, pick_vals] at N
      exact JT.intro F (News.sub N (by k_subL)) (allNe_sub neD (by k_subL))
  case go =>
    intro hT2 tkT2 TD FT2 NT2 neT
    rename_i uu224
    revert w s₀ s₁ mg mb G Y fa o pm doc ho hg KX X V GL T B TE TW w_1 w_1_1 M w_2 w_3 hcd w_4 hs hlay0 hL hr hl2 w_7 w_8 w_9 w_10 w_11 hL_1 ra w1 r0 hI hr_1 hcond' hcond'_1 K0 hD h₁ tk₁ w_5 w_6 w_12 w_13 w_14 w_15 w_16 left left_1 left_2 left_3 left_4 left_5 right X0 qk ek hA tkA D yd cd oD dD dl hdl Id neD hB tkB oM n tM hn3 hn5 dM hC tkC C yc cc oC dC c hv Ic neC hW tkW W ws cw oW dW wd neW hR tkR Lf vs cl R oR dR Il neR hL1 tkL Lf_1 lv cl_1 rv cr pl hrv neR_1 rlen hD_1 tkD B_1 tb cb Rw nr doc_1 es ep hdoc hlo h' tk' t' h'_1 tk t₁ u₁ v₁ a_3 i tt c_1 r yc_1 cc_1 yr cr_1 rows nr_1 oC_1 oR_1 oK Ci Ri tv qv dv ov ok I oI hT tkT ET hi dK sit neI apT la Ic_1 Ir dC_1 dR_1 ap1 ap2 ap3 ap4 ap5 ap6 ap7 ap8 ap9 ap10 ap11 ap12 ap13 ap14 h'_2 tk_1 h'_2_1 tk_1_1 t₁_1 u₁_1 v₁_1 a_4 k tk3 oK3 qv3 dv3 ov3 ok3 I3 oI3 h3 tk4 E3 hk dK3 neI3 rk ck ak uu224 h'_3 o' dK4 tk_2 hQ tkQ ch chd wh whd ex ed th thd sl sd ft f fd f1 f2 c1 c2 g1 g2 h1 h2 h3' h4 i1 i2 i3 s1 s2 s3 q1 q2 r1 r2 t1 t2 t3 t4 v1 v2 v3 tk_3 to nt F4 N4 hrow trk hrank tck hcode srow slen scln hT2 tkT2 TD FT2 NT2 neT
    exact h_gK.get
end Mine
end
section
open PySem PySem.W PySem.Spec PySem.Calls PyProof.Rows
namespace Mine
local macro_rules | `(tactic| k_all) => `(tactic| first | exact List.forall_mem_nil _ | (refine' List.forall_mem_cons.mpr ⟨?a, ?b⟩; (case a => k_ne); (case b => k_all)))
local macro_rules | `(tactic| k_subL) => `(tactic| first | exact List.forall_mem_nil _ | (refine' List.forall_mem_cons.mpr ⟨?a, ?b⟩; (case a => k_mem); (case b => k_subL)))
local macro_rules | `(tactic| k_ne) => `(tactic| (refine neN ?_; (try dsimp only); first | with_reducible assumption | exact Nat.ne_of_lt (by with_reducible assumption) | exact Nat.ne_of_gt (by with_reducible assumption) | exact Ne.symm (by with_reducible assumption) | assumption | exact Ne.symm (by assumption) | exact allNe_get (by assumption) (by k_mem) | exact Ne.symm (allNe_get (by assumption) (by k_mem)) | omega))
local macro_rules | `(tactic| walk_at "subscriptTail Name Slice ref ref") => `(tactic| (k_here; (with_reducible show wpAny _ _ (subscriptTail _ (PySem.Expr.Slice _ _ none _) (Value.ref _) (Value.ref _)) _ _ _); k_dflt (refine' kmk_slice_ints ?F ?N ?l ?p ?q ?i ?m ?c ?_ ?s ?t ?z; (case F => k_asm); (case N => k_asm); (case l => kmk_list); (case p => kmk_part); (case q => kmk_part); (case i => l_ints); (case m => first | exact kmk_from (by l_ints) (by omega) | exact kmk_upto (by l_ints) (by omega) | exact kmk_run (by l_ints) (by omega) (by omega)); (case c => kmk_len); (case s => with_unfolding_all rfl); (case t => kmk_pure); (case z => (refine kmk_sz (by l_ints) ?_; (simp only [sizeLine_eq, List.length_map]; omega)))); intro D' ws' h' F' N' l1 hI' hC' hL'; (try k_lt l1)))
local macro_rules | `(tactic| l_bnd) => `(tactic| omega)
local macro_rules | `(tactic| walk_at "subscriptTail") => `(tactic| (k_here; (with_reducible show wpAny _ _ (subscriptTail _ _ (Value.ref _) (Value.int _ _)) _ _ _); (try dsimp only); k_dflt (refine' item_news ?N ?M ?X ?h0 ?hf ?_; (case N => k_asm); (case M => k_mem); (case X => assumption); (case h0 => omega); (case hf => omega))))
local macro_rules | `(tactic| walk_at "exec Assign cons Dict") => `(tactic| ((fail_if_success (with_reducible show wpAny _ _ _ (JD _ _ _ _ _ _ _ _ _ _ _ _ _ _ _ _ _ _ _ _ _ _ _ _ _ _) _ _)); (with_reducible show wpAny _ _ (exec (Stmt.Assign _ _ _) _) _ _ _); refine Mine.holdL ?_))
local macro_rules | `(tactic| walk_at "eval ListComp") => `(tactic| (k_here; (with_reducible apply comp_J); (case hclos => with_unfolding_all rfl); (case hcell => decide); (case hkind => with_unfolding_all rfl); (case hnames => decide); (case hx => with_unfolding_all rfl); (case hs => intro _; with_unfolding_all rfl)))
local macro_rules | `(tactic| walk_at "exec For Name Call cons nil") => `(tactic| (k_here; (refine for_enter ?_ ?_); (case refine_2 => intro _; with_unfolding_all rfl)))
local macro_rules | `(tactic| walk_at "pyIter ref") => `(tactic| ((with_reducible show wpAny _ _ (pyIter _) (ForSrc _ _ _ _ _ _ _ _) _ _); refine Mine.holdL ?_))
local macro_rules | `(tactic| walk_at "call builtin:len") => `(tactic| (k_here; refine len_news (by k_asm) (by k_mem) (by omega) ?_))
local macro_rules | `(tactic| k_lt $h) => `(tactic| (have hRaw := $h; replace $h := allLt_of $h; simp only [AllLt, and_true] at $h:ident))
local macro_rules | `(tactic| k_ne) => `(tactic| (refine neN ?_; (try dsimp only); first | with_reducible assumption | exact lt_get (by with_reducible assumption) (by k_mem) | exact lt_get' (by with_reducible assumption) (by k_mem) | exact Ne.symm (by with_reducible assumption) | exact allNe_get (by assumption) (by k_mem) | exact Ne.symm (allNe_get (by assumption) (by k_mem)) | omega))
local macro_rules | `(tactic| k_all) => `(tactic| first | exact List.forall_mem_nil _ | exact older_ne (by with_reducible assumption) rfl | exact ne_older (by with_reducible assumption) rfl | (refine' List.forall_mem_cons.mpr ⟨?a, ?b⟩; (case a => k_ne); (case b => k_all)))
set_option tactic.hygienic false in
set_option maxHeartbeats 80000000 in
noncomputable def sMh : PSigma fun PgL : Prop => Hid PgL → sMg.1 := by
  refine' ⟨_, ?sbody⟩
  case sbody =>
  intro h_gL
  intro w s₀ s₁ mg mb G Y fa o pm doc ho hg KX X V GL T B TE TW w_1 w_1_1 M w_2 w_3 hcd w_4 hs hlay0 hL hr hl2 w_7 w_8 w_9 w_10 w_11 hL_1 ra w1 r0 hI hr_1 hcond' hcond'_1 K0 hD h₁ tk₁ w_5 w_6 w_12 w_13 w_14 w_15 w_16 left left_1 left_2 left_3 left_4 left_5 right X0 qk ek hA tkA D yd cd oD dD dl hdl Id neD hB tkB oM n tM hn3 hn5 dM hC tkC C yc cc oC dC c hv Ic neC hW tkW W ws cw oW dW wd neW hR tkR Lf vs cl R oR dR Il neR hL1 tkL Lf_1 lv cl_1 rv cr pl hrv neR_1 rlen hD_1 tkD B_1 tb cb Rw nr doc_1 es ep hdoc hlo h' tk' t' h'_1 tk t₁ u₁ v₁ a_3 i tt c_1 r yc_1 cc_1 yr cr_1 rows nr_1 oC_1 oR_1 oK Ci Ri tv qv dv ov ok I oI hT tkT ET hi dK sit neI apT la Ic_1 Ir dC_1 dR_1 ap1 ap2 ap3 ap4 ap5 ap6 ap7 ap8 ap9 ap10 ap11 ap12 ap13 ap14 h'_2 tk_1 h'_2_1 tk_1_1 t₁_1 u₁_1 v₁_1 a_4 k tk3 oK3 qv3 dv3 ov3 ok3 I3 oI3 h3 tk4 E3 hk dK3 neI3 rk ck ak hrow h'_3 o' dK4 tk_2 hQ tkQ ch chd wh whd ex ed th thd sl sd ft f fd f1 f2 c1 c2 g1 g2 h1 h2 h3' h4 i1 i2 i3 s1 s2 s3 q1 q2 r1 r2 t1 t2 t3 t4 v1 v2 v3 tk_3 to nt F4 N4 hrow_1 trk hrank tck hcode srow slen scln hT2 tkT2 TD FT2 NT2 neT
  w_top off
  (try clear NQ)
  (try clear FQ)
  have tsz : (rowV ws ((r.drop (k + 1)).filter fun x => decide (x < rk))).toArray.size = ck := by rw [List.size_toArray, rowV, List.length_map, ak.len]
  have ck5 : ck ≤ 5 := by
    have := ak.len
    have q := List.length_filter_le (fun x => decide (x < rk)) (r.drop (k + 1))
    rw [List.length_drop, la.rlen] at q
    omega
  have rl5 : r.length ≤ 5 := by rw [la.rlen]; exact hn5

  k_steps

  · exact absurd rfl (by assumption)
  rename_i uu294 uu295 uu296 uu297 uu298 uu299 uu300 uu301 uu302 uu303
  revert w s₀ s₁ mg mb G Y fa o pm doc ho hg KX X V GL T B TE TW w_1 w_1_1 M w_2 w_3 hcd w_4 hs hlay0 hL hr hl2 w_7 w_8 w_9 w_10 w_11 hL_1 ra w1 r0 hI hr_1 hcond' hcond'_1 K0 hD h₁ tk₁ w_5 w_6 w_12 w_13 w_14 w_15 w_16 left left_1 left_2 left_3 left_4 left_5 right X0 qk ek hA tkA D yd cd oD dD dl hdl Id neD hB tkB oM n tM hn3 hn5 dM hC tkC C yc cc oC dC c hv Ic neC hW tkW W ws cw oW dW wd neW hR tkR Lf vs cl R oR dR Il neR hL1 tkL Lf_1 lv cl_1 rv cr pl hrv neR_1 rlen hD_1 tkD B_1 tb cb Rw nr doc_1 es ep hdoc hlo h' tk' t' h'_1 tk t₁ u₁ v₁ a_3 i tt c_1 r yc_1 cc_1 yr cr_1 rows nr_1 oC_1 oR_1 oK Ci Ri tv qv dv ov ok I oI hT tkT ET hi dK sit neI apT la Ic_1 Ir dC_1 dR_1 ap1 ap2 ap3 ap4 ap5 ap6 ap7 ap8 ap9 ap10 ap11 ap12 ap13 ap14 h'_2 tk_1 h'_2_1 tk_1_1 t₁_1 u₁_1 v₁_1 a_4 k tk3 oK3 qv3 dv3 ov3 ok3 I3 oI3 h3 tk4 E3 hk dK3 neI3 rk ck ak hrow h'_3 o' dK4 tk_2 hQ tkQ ch chd wh whd ex ed th thd sl sd ft f fd f1 f2 c1 c2 g1 g2 h1 h2 h3' h4 i1 i2 i3 s1 s2 s3 q1 q2 r1 r2 t1 t2 t3 t4 v1 v2 v3 tk_3 to nt F4 N4 hrow_1 trk hrank tck hcode srow slen scln hT2 tkT2 TD FT2 NT2 neT tsz ck5 rl5 a uu294 uu295 uu296 uu297 uu298 uu299 uu300 uu301 uu302 uu303
  exact h_gL.get
end Mine
end
section
open PySem PySem.W PySem.Spec PySem.Calls PyProof.Rows
namespace Mine
local macro_rules | `(tactic| k_all) => `(tactic| first | exact List.forall_mem_nil _ | (refine' List.forall_mem_cons.mpr ⟨?a, ?b⟩; (case a => k_ne); (case b => k_all)))
local macro_rules | `(tactic| k_subL) => `(tactic| first | exact List.forall_mem_nil _ | (refine' List.forall_mem_cons.mpr ⟨?a, ?b⟩; (case a => k_mem); (case b => k_subL)))
local macro_rules | `(tactic| k_ne) => `(tactic| (refine neN ?_; (try dsimp only); first | with_reducible assumption | exact Nat.ne_of_lt (by with_reducible assumption) | exact Nat.ne_of_gt (by with_reducible assumption) | exact Ne.symm (by with_reducible assumption) | assumption | exact Ne.symm (by assumption) | exact allNe_get (by assumption) (by k_mem) | exact Ne.symm (allNe_get (by assumption) (by k_mem)) | omega))
local macro_rules | `(tactic| walk_at "subscriptTail Name Slice ref ref") => `(tactic| (k_here; (with_reducible show wpAny _ _ (subscriptTail _ (PySem.Expr.Slice _ _ none _) (Value.ref _) (Value.ref _)) _ _ _); k_dflt (refine' kmk_slice_ints ?F ?N ?l ?p ?q ?i ?m ?c ?_ ?s ?t ?z; (case F => k_asm); (case N => k_asm); (case l => kmk_list); (case p => kmk_part); (case q => kmk_part); (case i => l_ints); (case m => first | exact kmk_from (by l_ints) (by omega) | exact kmk_upto (by l_ints) (by omega) | exact kmk_run (by l_ints) (by omega) (by omega)); (case c => kmk_len); (case s => with_unfolding_all rfl); (case t => kmk_pure); (case z => (refine kmk_sz (by l_ints) ?_; (simp only [sizeLine_eq, List.length_map]; omega)))); intro D' ws' h' F' N' l1 hI' hC' hL'; (try k_lt l1)))
local macro_rules | `(tactic| l_bnd) => `(tactic| omega)
local macro_rules | `(tactic| walk_at "subscriptTail") => `(tactic| (k_here; (with_reducible show wpAny _ _ (subscriptTail _ _ (Value.ref _) (Value.int _ _)) _ _ _); (try dsimp only); k_dflt (refine' item_news ?N ?M ?X ?h0 ?hf ?_; (case N => k_asm); (case M => k_mem); (case X => assumption); (case h0 => omega); (case hf => omega))))
local macro_rules | `(tactic| walk_at "exec Assign cons Dict") => `(tactic| ((fail_if_success (with_reducible show wpAny _ _ _ (JD _ _ _ _ _ _ _ _ _ _ _ _ _ _ _ _ _ _ _ _ _ _ _ _ _ _) _ _)); (with_reducible show wpAny _ _ (exec (Stmt.Assign _ _ _) _) _ _ _); refine Mine.holdL ?_))
local macro_rules | `(tactic| walk_at "eval ListComp") => `(tactic| (k_here; (with_reducible apply comp_J); (case hclos => with_unfolding_all rfl); (case hcell => decide); (case hkind => with_unfolding_all rfl); (case hnames => decide); (case hx => with_unfolding_all rfl); (case hs => intro _; with_unfolding_all rfl)))
local macro_rules | `(tactic| walk_at "exec For Name Call cons nil") => `(tactic| (k_here; (refine for_enter ?_ ?_); (case refine_2 => intro _; with_unfolding_all rfl)))
local macro_rules | `(tactic| walk_at "pyIter ref") => `(tactic| ((with_reducible show wpAny _ _ (pyIter _) (ForSrc _ _ _ _ _ _ _ _) _ _); refine Mine.holdL ?_))
local macro_rules | `(tactic| walk_at "call builtin:len") => `(tactic| (k_here; refine len_news (by k_asm) (by k_mem) (by omega) ?_))
local macro_rules | `(tactic| walk_at "compareOp NotEq ref ref") => `(tactic| (k_here; k_dflt (refine' ne_vals ?N ?a ?b ?kin ?hu ?_; (case N => k_asm); (case a => k_mem); (case b => k_mem); (case kin => assumption); (case hu => ke_room))))
local macro_rules | `(tactic| k_lt $h) => `(tactic| (have hRaw := $h; replace $h := allLt_of $h; simp only [AllLt, and_true] at $h:ident))
local macro_rules | `(tactic| k_ne) => `(tactic| (refine neN ?_; (try dsimp only); first | with_reducible assumption | exact lt_get (by with_reducible assumption) (by k_mem) | exact lt_get' (by with_reducible assumption) (by k_mem) | exact Ne.symm (by with_reducible assumption) | exact allNe_get (by assumption) (by k_mem) | exact Ne.symm (allNe_get (by assumption) (by k_mem)) | omega))
local macro_rules | `(tactic| k_all) => `(tactic| first | exact List.forall_mem_nil _ | exact older_ne (by with_reducible assumption) rfl | exact ne_older (by with_reducible assumption) rfl | (refine' List.forall_mem_cons.mpr ⟨?a, ?b⟩; (case a => k_ne); (case b => k_all)))
set_option tactic.hygienic false in
set_option maxHeartbeats 80000000 in
theorem tMi : sMh.1 := by
  intro w s₀ s₁ mg mb G Y fa o pm doc ho hg KX X V GL T B TE TW w_1 w_1_1 M w_2 w_3 hcd w_4 hs hlay0 hL hr hl2 w_7 w_8 w_9 w_10 w_11 hL_1 ra w1 r0 hI hr_1 hcond' hcond'_1 K0 hD h₁ tk₁ w_5 w_6 w_12 w_13 w_14 w_15 w_16 left left_1 left_2 left_3 left_4 left_5 right X0 qk ek hA tkA D yd cd oD dD dl hdl Id neD hB tkB oM n tM hn3 hn5 dM hC tkC C yc cc oC dC c hv Ic neC hW tkW W ws cw oW dW wd neW hR tkR Lf vs cl R oR dR Il neR hL1 tkL Lf_1 lv cl_1 rv cr pl hrv neR_1 rlen hD_1 tkD B_1 tb cb Rw nr doc_1 es ep hdoc hlo h' tk' t' h'_1 tk t₁ u₁ v₁ a_3 i tt c_1 r yc_1 cc_1 yr cr_1 rows nr_1 oC_1 oR_1 oK Ci Ri tv qv dv ov ok I oI hT tkT ET hi dK sit neI apT la Ic_1 Ir dC_1 dR_1 ap1 ap2 ap3 ap4 ap5 ap6 ap7 ap8 ap9 ap10 ap11 ap12 ap13 ap14 h'_2 tk_1 h'_2_1 tk_1_1 t₁_1 u₁_1 v₁_1 a_4 k tk3 oK3 qv3 dv3 ov3 ok3 I3 oI3 h3 tk4 E3 hk dK3 neI3 rk ck ak hrow h'_3 o' dK4 tk_2 hQ tkQ ch chd wh whd ex ed th thd sl sd ft f fd f1 f2 c1 c2 g1 g2 h1 h2 h3' h4 i1 i2 i3 s1 s2 s3 q1 q2 r1 r2 t1 t2 t3 t4 v1 v2 v3 tk_3 to nt F4 N4 hrow_1 trk hrank tck hcode srow slen scln hT2 tkT2 TD FT2 NT2 neT tsz ck5 rl5 a D' ws' h'_4 F' N' hI' hC' hL' hRaw l1
  w_top off
  rename Fr _ _ _ _ => F0
  rename News _ _ _ _ => N0
  rename IntsAre _ (List.drop _ _) => Iw
  have Iv := ints_drop1 Iw
  have R0 := (N0 _ (.head _)).1
  have rL := News.ne_L N0 (.head _)
  refine src_pick (fun i => ((r.drop (k + 1))[i]?).bind fun j => if j < rk then some (ws.getD j .none) else none) (by rfl) (isSrc_listN rfl R0 (ints_len Iv)) ?_ F0 N0 (fun b hb => by rw [List.mem_singleton.mp hb]; exact rL) ?_ ?_
  · rw [List.length_drop]; omega
  · intro i v C oC h tk m₃ E' hi hP hoC hx hk F N neC
    obtain ⟨ri, tr, hri, rfl⟩ := ints_some Iv hP
    have rlt := la.rlt ri (List.mem_of_mem_drop (List.mem_of_getElem? hri))
    have hW := ws_at (ws := ws.toArray) wd rlt
    k_steps
    by_cases hc : ri < rk
    · rw [decide_eq_true (show ((ri : Nat) : Int) < ((rk : Nat) : Int) by omega)]
      refine ⟨_, _, rfl, KeepL.rfl', ?_⟩
      simp only [if_true]
      k_steps
      exact Elt.intro KeepL.rfl' (by rw [hri]; exact if_pos hc)
    · rw [decide_eq_false (show ¬ ((ri : Nat) : Int) < ((rk : Nat) : Int) by omega)]
      refine ⟨_, _, rfl, KeepL.rfl', ?_⟩
      simp only [Bool.false_eq_true, if_false]
      rw [hri]; exact if_neg hc
  · intro D h' tk F N neD _ _
    rw [pick_filter] at N
    clear R0 rL F0 N0
    have kin := kin_row wd (r := (r.drop (k + 1)).filter fun x => decide (x < rk)) (fun y hy => la.rlt y (List.mem_of_mem_drop (List.mem_filter.mp hy).1))
    k_steps
    refine' TurnEnd.next (by assumption) (by assumption) _ ?ka ?kb ?kc ⟨_, rfl, Inv3.intro dK4 rfl ?kd ?ke⟩
    case kb => k_subL
    case ka => k_mem
    case kc => k_all
    case kd => rfl
    case ke => exact fun y h1 h2 h3 h4 h5 => by simp only [NF, if_neg h1, if_neg h2, if_neg h3, if_neg h4, if_neg h5]
end Mine
end
section
open PySem PySem.W PySem.Spec PySem.Calls PyProof.Rows
namespace Mine
local macro_rules | `(tactic| k_all) => `(tactic| first | exact List.forall_mem_nil _ | (refine' List.forall_mem_cons.mpr ⟨?a, ?b⟩; (case a => k_ne); (case b => k_all)))
local macro_rules | `(tactic| k_subL) => `(tactic| first | exact List.forall_mem_nil _ | (refine' List.forall_mem_cons.mpr ⟨?a, ?b⟩; (case a => k_mem); (case b => k_subL)))
local macro_rules | `(tactic| k_ne) => `(tactic| (refine neN ?_; (try dsimp only); first | with_reducible assumption | exact Nat.ne_of_lt (by with_reducible assumption) | exact Nat.ne_of_gt (by with_reducible assumption) | exact Ne.symm (by with_reducible assumption) | assumption | exact Ne.symm (by assumption) | exact allNe_get (by assumption) (by k_mem) | exact Ne.symm (allNe_get (by assumption) (by k_mem)) | omega))
local macro_rules | `(tactic| l_bnd) => `(tactic| omega)
local macro_rules | `(tactic| walk_at "subscriptTail") => `(tactic| (k_here; (with_reducible show wpAny _ _ (subscriptTail _ _ (Value.ref _) (Value.int _ _)) _ _ _); (try dsimp only); k_dflt (refine' item_news ?N ?M ?X ?h0 ?hf ?_; (case N => k_asm); (case M => k_mem); (case X => assumption); (case h0 => omega); (case hf => omega))))
local macro_rules | `(tactic| walk_at "exec Assign cons Dict") => `(tactic| ((fail_if_success (with_reducible show wpAny _ _ _ (JD _ _ _ _ _ _ _ _ _ _ _ _ _ _ _ _ _ _ _ _ _ _ _ _ _ _) _ _)); (with_reducible show wpAny _ _ (exec (Stmt.Assign _ _ _) _) _ _ _); refine Mine.holdL ?_))
local macro_rules | `(tactic| walk_at "eval ListComp") => `(tactic| (k_here; (with_reducible apply comp_J); (case hclos => with_unfolding_all rfl); (case hcell => decide); (case hkind => with_unfolding_all rfl); (case hnames => decide); (case hx => with_unfolding_all rfl); (case hs => intro _; with_unfolding_all rfl)))
local macro_rules | `(tactic| walk_at "exec For Name Call cons nil") => `(tactic| (k_here; (refine for_enter ?_ ?_); (case refine_2 => intro _; with_unfolding_all rfl)))
local macro_rules | `(tactic| walk_at "pyIter ref") => `(tactic| ((with_reducible show wpAny _ _ (pyIter _) (ForSrc _ _ _ _ _ _ _ _) _ _); refine Mine.holdL ?_))
local macro_rules | `(tactic| walk_at "exec Assign cons ListComp") => `(tactic| (k_here; (with_reducible apply assign_J); (case hsw => with_unfolding_all rfl); (case hclos => with_unfolding_all rfl); (case hcell => decide); (case hkind => with_unfolding_all rfl); (case hnames => decide); (case hx => with_unfolding_all rfl); (case hy => with_unfolding_all rfl); (case hp => with_unfolding_all rfl); (case hs => intro _; with_unfolding_all rfl)))
local macro_rules | `(tactic| walk_at "exec Assign cons ListComp") => `(tactic| ((fail_if_success (with_reducible show wpAny _ _ _ (JO _ _ _ _ _ _ _) _ _)); (with_reducible show wpAny _ _ (exec (Stmt.Assign _ (Expr.ListComp _ _ _ _) _) _) _ _ _); refine Mine.holdL ?_))
local macro_rules | `(tactic| k_lt $h) => `(tactic| (have hRaw := $h; replace $h := allLt_of $h; simp only [AllLt, and_true] at $h:ident))
local macro_rules | `(tactic| k_ne) => `(tactic| (refine neN ?_; (try dsimp only); first | with_reducible assumption | exact lt_get (by with_reducible assumption) (by k_mem) | exact lt_get' (by with_reducible assumption) (by k_mem) | exact Ne.symm (by with_reducible assumption) | exact allNe_get (by assumption) (by k_mem) | exact Ne.symm (allNe_get (by assumption) (by k_mem)) | omega))
local macro_rules | `(tactic| k_all) => `(tactic| first | exact List.forall_mem_nil _ | exact older_ne (by with_reducible assumption) rfl | exact ne_older (by with_reducible assumption) rfl | (refine' List.forall_mem_cons.mpr ⟨?a, ?b⟩; (case a => k_ne); (case b => k_all)))
set_option tactic.hygienic false in
set_option maxHeartbeats 80000000 in
noncomputable def sMn : PSigma fun PgN : Prop => Hid PgN → sMe.2.1 := by
  refine' ⟨_, ?sbody⟩
  case sbody =>
  intro h_gN
  intro w s₀ s₁ mg mb G Y fa o pm doc ho hg KX X V GL T B TE TW w_1 w_1_1 M w_2 w_3 hcd w_4 hs hlay0 hL hr hl2 w_7 w_8 w_9 w_10 w_11 hL_1 ra w1 r0 hI hr_1 hcond' hcond'_1 K0 hD h₁ tk₁ w_5 w_6 w_12 w_13 w_14 w_15 w_16 left left_1 left_2 left_3 left_4 left_5 right X0 qk ek hA tkA D yd cd oD dD dl hdl Id neD hB tkB oM n tM hn3 hn5 dM hC tkC C yc cc oC dC c hv Ic neC hW tkW W ws cw oW dW wd neW hR tkR Lf vs cl R oR dR Il neR hL1 tkL Lf_1 lv cl_1 rv cr pl hrv neR_1 rlen hD_1 tkD B_1 tb cb Rw nr doc_1 es ep hdoc hlo h' tk' t' h'_1 tk t₁ u₁ v₁ a_3 i tt c_1 r yc_1 cc_1 yr cr_1 rows nr_1 oC_1 oR_1 oK Ci Ri tv qv dv ov ok I oI hT tkT ET hi dK sit neI apT la Ic_1 Ir dC_1 dR_1 ap1 ap2 ap3 ap4 ap5 ap6 ap7 ap8 ap9 ap10 ap11 ap12 ap13 ap14 h'_2 F' N' tk_1 h'_2_1 tk_1_1 t₁_1 u₁_1 v₁_1 a_4 oK3 qv3 dv3 ov3 ok3 h3 tk4 dK3 F3 N3
  w_top off
  dsimp only [L2, NF] at F3 N3
  k_steps
  unfold HoldL
  refine cut_out (Str.ofString "out") (outOf n c_1) F3 N3 ?walk ?go
  case walk =>
    k_steps
    rename Fr _ _ _ _ => F4
    rename News _ _ _ _ => N4
    rename IsRange _ _ _ _ _ _ _ _ => rgI
    refine src_outA (n := n - 1) (fun k => decide (c_1.getD (k + 1) 0 < c_1.getD k 0)) (by rfl) (by rfl) rgI (by omega) (by omega) F4 N4 ?_ ?_
    · intro i tt C oC h tk m₃ E' hi hoC hx hk F N neC
      obtain ⟨⟨ta, ea⟩, ⟨tb, eb⟩⟩ := code_two Ic_1 la.len (i := i) (by omega)
      have yl := ints_len Ic_1
      have cl5 := la.len
      k_steps
      refine Tst.of_bool (decide (c_1.getD (i + 1) 0 < c_1.getD i 0)) ?_ (fun e => ?_) (fun e => ?_)
      · exact keep_eq c_1 i
      · refine ⟨_, _, rfl, KeepL.rfl', ?_⟩
        simp only [if_true]
        k_steps
        exact Elt.intro KeepL.rfl' ⟨e, _, rfl⟩
      · refine ⟨_, _, rfl, KeepL.rfl', ?_⟩
        simp only [Bool.false_eq_true, if_false]
        exact e
    · intro D vals h' tk F N I ne
      exact JO.intro F N I ne
  case go =>
    intro hO tkO OD vals cv FO NO IO neO
    (try clear F3)
    (try clear N3)
    revert w s₀ s₁ mg mb G Y fa o pm doc ho hg KX X V GL T B TE TW w_1 w_1_1 M w_2 w_3 hcd w_4 hs hlay0 hL hr hl2 w_7 w_8 w_9 w_10 w_11 hL_1 ra w1 r0 hI hr_1 hcond' hcond'_1 K0 hD h₁ tk₁ w_5 w_6 w_12 w_13 w_14 w_15 w_16 left left_1 left_2 left_3 left_4 left_5 right X0 qk ek hA tkA D yd cd oD dD dl hdl Id neD hB tkB oM n tM hn3 hn5 dM hC tkC C yc cc oC dC c hv Ic neC hW tkW W ws cw oW dW wd neW hR tkR Lf vs cl R oR dR Il neR hL1 tkL Lf_1 lv cl_1 rv cr pl hrv neR_1 rlen hD_1 tkD B_1 tb cb Rw nr doc_1 es ep hdoc hlo h' tk' t' h'_1 tk t₁ u₁ v₁ a_3 i tt c_1 r yc_1 cc_1 yr cr_1 rows nr_1 oC_1 oR_1 oK Ci Ri tv qv dv ov ok I oI hT tkT ET hi dK sit neI apT la Ic_1 Ir dC_1 dR_1 ap1 ap2 ap3 ap4 ap5 ap6 ap7 ap8 ap9 ap10 ap11 ap12 ap13 ap14 h'_2 F' N' tk_1 h'_2_1 tk_1_1 t₁_1 u₁_1 v₁_1 a_4 oK3 qv3 dv3 ov3 ok3 h3 tk4 dK3 hO tkO OD vals cv FO NO IO neO
    exact h_gN.get
end Mine
end
section
open PySem PySem.W PySem.Spec PySem.Calls PyProof.Rows
namespace Mine
local macro_rules | `(tactic| k_all) => `(tactic| first | exact List.forall_mem_nil _ | (refine' List.forall_mem_cons.mpr ⟨?a, ?b⟩; (case a => k_ne); (case b => k_all)))
local macro_rules | `(tactic| k_subL) => `(tactic| first | exact List.forall_mem_nil _ | (refine' List.forall_mem_cons.mpr ⟨?a, ?b⟩; (case a => k_mem); (case b => k_subL)))
local macro_rules | `(tactic| k_ne) => `(tactic| (refine neN ?_; (try dsimp only); first | with_reducible assumption | exact Nat.ne_of_lt (by with_reducible assumption) | exact Nat.ne_of_gt (by with_reducible assumption) | exact Ne.symm (by with_reducible assumption) | assumption | exact Ne.symm (by assumption) | exact allNe_get (by assumption) (by k_mem) | exact Ne.symm (allNe_get (by assumption) (by k_mem)) | omega))
local macro_rules | `(tactic| l_bnd) => `(tactic| omega)
local macro_rules | `(tactic| walk_at "subscriptTail") => `(tactic| (k_here; (with_reducible show wpAny _ _ (subscriptTail _ _ (Value.ref _) (Value.int _ _)) _ _ _); (try dsimp only); k_dflt (refine' item_news ?N ?M ?X ?h0 ?hf ?_; (case N => k_asm); (case M => k_mem); (case X => assumption); (case h0 => omega); (case hf => omega))))
local macro_rules | `(tactic| walk_at "exec Assign cons Dict") => `(tactic| ((fail_if_success (with_reducible show wpAny _ _ _ (JD _ _ _ _ _ _ _ _ _ _ _ _ _ _ _ _ _ _ _ _ _ _ _ _ _ _) _ _)); (with_reducible show wpAny _ _ (exec (Stmt.Assign _ _ _) _) _ _ _); refine Mine.holdL ?_))
local macro_rules | `(tactic| walk_at "eval ListComp") => `(tactic| (k_here; (with_reducible apply comp_J); (case hclos => with_unfolding_all rfl); (case hcell => decide); (case hkind => with_unfolding_all rfl); (case hnames => decide); (case hx => with_unfolding_all rfl); (case hs => intro _; with_unfolding_all rfl)))
local macro_rules | `(tactic| walk_at "exec For Name Call cons nil") => `(tactic| (k_here; (refine for_enter ?_ ?_); (case refine_2 => intro _; with_unfolding_all rfl)))
local macro_rules | `(tactic| walk_at "pyIter ref") => `(tactic| ((with_reducible show wpAny _ _ (pyIter _) (ForSrc _ _ _ _ _ _ _ _) _ _); refine Mine.holdL ?_))
local macro_rules | `(tactic| walk_at "exec Assign cons Subscript") => `(tactic| ((fail_if_success (with_reducible show wpAny _ _ _ (JV _ _ _ _ _ _) _ _)); (with_reducible show wpAny _ _ (exec (Stmt.Assign _ _ _) _) _ _ _); refine Mine.holdL ?_))
local macro_rules | `(tactic| walk_at "exec Assign cons BinOp") => `(tactic| ((fail_if_success (with_reducible show wpAny _ _ _ (JL _ _ _ _ _ _) _ _)); (with_reducible show wpAny _ _ (exec (Stmt.Assign _ _ _) _) _ _ _); refine Mine.holdL ?_))
local macro_rules | `(tactic| walk_at "exec Expr") => `(tactic| ((fail_if_success (with_reducible show wpAny _ _ _ (JU _ _ _ _ _ _) _ _)); (with_reducible show wpAny _ _ (exec (Stmt.Expr _ _) _) _ _ _); refine Mine.holdL ?_))
local macro_rules | `(tactic| walk_at "truthy ref") => `(tactic| (k_here; refine truthy_cons (by k_asm) (by k_mem) (by assumption) ?_))
local macro_rules | `(tactic| walk_at "call builtin:len") => `(tactic| (k_here; refine len_news (by k_asm) (by k_mem) (by omega) ?_))
local macro_rules | `(tactic| walk_at "subscriptTail") => `(tactic| (k_here; (with_reducible show wpAny _ _ (subscriptTail _ _ (Value.ref _) (Value.int _ _)) _ _ _); (try dsimp only); k_dflt (refine' item_news ?N ?M ?X ?h0 ?hf ?_; (case N => k_asm); (case M => k_mem); (case X => assumption); (case h0 => first | with_reducible assumption | omega); (case hf => first | with_reducible assumption | omega))))
local macro_rules | `(tactic| k_lt $h) => `(tactic| (have hRaw := $h; replace $h := allLt_of $h; simp only [AllLt, and_true] at $h:ident))
local macro_rules | `(tactic| k_ne) => `(tactic| (refine neN ?_; (try dsimp only); first | with_reducible assumption | exact lt_get (by with_reducible assumption) (by k_mem) | exact lt_get' (by with_reducible assumption) (by k_mem) | exact Ne.symm (by with_reducible assumption) | exact allNe_get (by assumption) (by k_mem) | exact Ne.symm (allNe_get (by assumption) (by k_mem)) | omega))
local macro_rules | `(tactic| k_all) => `(tactic| first | exact List.forall_mem_nil _ | exact older_ne (by with_reducible assumption) rfl | exact ne_older (by with_reducible assumption) rfl | (refine' List.forall_mem_cons.mpr ⟨?a, ?b⟩; (case a => k_ne); (case b => k_all)))
set_option tactic.hygienic false in
set_option maxHeartbeats 80000000 in
noncomputable def sMo : PSigma fun PgO : Prop => Hid PgO → sMn.1 := by
  refine' ⟨_, ?sbody⟩
  case sbody =>
  intro h_gO
  intro w s₀ s₁ mg mb G Y fa o pm doc ho hg KX X V GL T B TE TW w_1 w_1_1 M w_2 w_3 hcd w_4 hs hlay0 hL hr hl2 w_7 w_8 w_9 w_10 w_11 hL_1 ra w1 r0 hI hr_1 hcond' hcond'_1 K0 hD h₁ tk₁ w_5 w_6 w_12 w_13 w_14 w_15 w_16 left left_1 left_2 left_3 left_4 left_5 right X0 qk ek hA tkA D yd cd oD dD dl hdl Id neD hB tkB oM n tM hn3 hn5 dM hC tkC C yc cc oC dC c hv Ic neC hW tkW W ws cw oW dW wd neW hR tkR Lf vs cl R oR dR Il neR hL1 tkL Lf_1 lv cl_1 rv cr pl hrv neR_1 rlen hD_1 tkD B_1 tb cb Rw nr doc_1 es ep hdoc hlo h' tk' t' h'_1 tk t₁ u₁ v₁ a_3 i tt c_1 r yc_1 cc_1 yr cr_1 rows nr_1 oC_1 oR_1 oK Ci Ri tv qv dv ov ok I oI hT tkT ET hi dK sit neI apT la Ic_1 Ir dC_1 dR_1 ap1 ap2 ap3 ap4 ap5 ap6 ap7 ap8 ap9 ap10 ap11 ap12 ap13 ap14 h'_2 F' N' tk_1 h'_2_1 tk_1_1 t₁_1 u₁_1 v₁_1 a_4 oK3 qv3 dv3 ov3 ok3 h3 tk4 dK3 hO tkO OD vals cv FO NO IO neO
  w_top off
  cases hout : outOf n c_1 with
  | nil =>
    rw [hout] at IO
    have hs := la.noOut hout
    have hs2 := sit.sum
    cases IO
    k_steps
    refine' TurnEnd.next (by assumption) (by assumption) _ ?ka ?kb ?kc (Inv2.intro (oK := oK3) ⟨la, ?kf, Ic_1, Ir, sit.row, dC_1, dR_1⟩ apT dK3 ?kd ?ke)
    case kb => k_subL
    case ka => k_mem
    case kc => k_all
    case kd => rfl
    case ke => exact fun y h1 h2 h3 h4 h5 => by simp only [NF, if_neg h1, if_neg h2, if_neg h3, if_neg h4, if_neg h5]
    case kf => omega
  | cons o0 os =>
    have ol : 0 < (outOf n c_1).length := by rw [hout]; exact Nat.succ_pos _
    have vl := ints_len IO
    cases vals with
    | nil => rw [List.length_nil] at vl; omega
    | cons v0 vs =>
      have vl5 : (v0 :: vs).length ≤ 5 := by
        rw [vl]
        have := out_len n c_1
        omega
      have hi10 : i < 10 := by
        have h1 := (lawAt_of hn3 hn5 hv).sum
        have h2 := (la.exch o0 (by rw [hout]; exact .head _)).2.2
        have h3 := sit.sum
        omega
      obtain ⟨td, hdr⟩ := draw_at Id (i := i) (by rw [hdl]; omega)
      k_steps
      unfold HoldL
      rename Fr _ _ _ _ => F4
      rename News _ _ _ _ => N4
      refine cut_k (fun v => ∃ kk t, kk ∈ outOf n c_1 ∧ v = .int ((kk : Nat) : Int) t) F4 N4 ?walk ?go
      case walk =>
        k_steps
        · exfalso
          rename _ = (0 : Int) => hz
          rw [List.length_map] at hz
          omega
        · rename Obj.data _ = Data.cell (some (.int _ _)) => dZ
          refine' JV.intro (by assumption) ?N dZ (pick_ok ol _ _)
          case N => exact News.sub (by assumption) (by k_subL)
      case go =>
        intro hK tkK vK oK4 FK NK dK4 ⟨kk, tkk, hkk, eK⟩
        subst eK
        (try clear F4)
        (try clear N4)
        (try clear FO)
        (try clear NO)
        rename_i uu110 uu144
        revert w s₀ s₁ mg mb G Y fa o pm doc ho hg KX X V GL T B TE TW w_1 w_1_1 M w_2 w_3 hcd w_4 hs hlay0 hL hr hl2 w_7 w_8 w_9 w_10 w_11 hL_1 ra w1 r0 hI hr_1 hcond' hcond'_1 K0 hD h₁ tk₁ w_5 w_6 w_12 w_13 w_14 w_15 w_16 left left_1 left_2 left_3 left_4 left_5 right X0 qk ek hA tkA D yd cd oD dD dl hdl Id neD hB tkB oM n tM hn3 hn5 dM hC tkC C yc cc oC dC c hv Ic neC hW tkW W ws cw oW dW wd neW hR tkR Lf uu110 cl R oR dR Il neR hL1 tkL Lf_1 lv cl_1 rv cr pl hrv neR_1 rlen hD_1 tkD B_1 tb cb Rw nr doc_1 es ep hdoc hlo h' tk' t' h'_1 uu144 t₁ u₁ v₁ a_3 i tt c_1 r yc_1 cc_1 yr cr_1 rows nr_1 oC_1 oR_1 oK Ci Ri tv qv dv ov ok I oI hT tkT ET hi dK sit neI apT la Ic_1 Ir dC_1 dR_1 ap1 ap2 ap3 ap4 ap5 ap6 ap7 ap8 ap9 ap10 ap11 ap12 ap13 ap14 h'_2 F' N' tk_1 h'_2_1 tk_1_1 t₁_1 u₁_1 v₁_1 a_4 oK3 qv3 dv3 ov3 ok3 h3 tk4 dK3 hO tkO OD cv neO o0 os hout ol v0 vs IO vl vl5 hi10 td hdr tk hK tkK oK4 FK NK kk tkk hkk dK4
        exact h_gO.get
end Mine
end
section
open PySem PySem.W PySem.Spec PySem.Calls PyProof.Rows
namespace Mine
local macro_rules | `(tactic| k_all) => `(tactic| first | exact List.forall_mem_nil _ | (refine' List.forall_mem_cons.mpr ⟨?a, ?b⟩; (case a => k_ne); (case b => k_all)))
local macro_rules | `(tactic| k_subL) => `(tactic| first | exact List.forall_mem_nil _ | (refine' List.forall_mem_cons.mpr ⟨?a, ?b⟩; (case a => k_mem); (case b => k_subL)))
local macro_rules | `(tactic| k_ne) => `(tactic| (refine neN ?_; (try dsimp only); first | with_reducible assumption | exact Nat.ne_of_lt (by with_reducible assumption) | exact Nat.ne_of_gt (by with_reducible assumption) | exact Ne.symm (by with_reducible assumption) | assumption | exact Ne.symm (by assumption) | exact allNe_get (by assumption) (by k_mem) | exact Ne.symm (allNe_get (by assumption) (by k_mem)) | omega))
local macro_rules | `(tactic| l_bnd) => `(tactic| omega)
local macro_rules | `(tactic| walk_at "subscriptTail") => `(tactic| (k_here; (with_reducible show wpAny _ _ (subscriptTail _ _ (Value.ref _) (Value.int _ _)) _ _ _); (try dsimp only); k_dflt (refine' item_news ?N ?M ?X ?h0 ?hf ?_; (case N => k_asm); (case M => k_mem); (case X => assumption); (case h0 => omega); (case hf => omega))))
local macro_rules | `(tactic| walk_at "exec Assign cons Dict") => `(tactic| ((fail_if_success (with_reducible show wpAny _ _ _ (JD _ _ _ _ _ _ _ _ _ _ _ _ _ _ _ _ _ _ _ _ _ _ _ _ _ _) _ _)); (with_reducible show wpAny _ _ (exec (Stmt.Assign _ _ _) _) _ _ _); refine Mine.holdL ?_))
local macro_rules | `(tactic| walk_at "eval ListComp") => `(tactic| (k_here; (with_reducible apply comp_J); (case hclos => with_unfolding_all rfl); (case hcell => decide); (case hkind => with_unfolding_all rfl); (case hnames => decide); (case hx => with_unfolding_all rfl); (case hs => intro _; with_unfolding_all rfl)))
local macro_rules | `(tactic| walk_at "exec For Name Call cons nil") => `(tactic| (k_here; (refine for_enter ?_ ?_); (case refine_2 => intro _; with_unfolding_all rfl)))
local macro_rules | `(tactic| walk_at "pyIter ref") => `(tactic| ((with_reducible show wpAny _ _ (pyIter _) (ForSrc _ _ _ _ _ _ _ _) _ _); refine Mine.holdL ?_))
local macro_rules | `(tactic| walk_at "exec Assign cons Subscript") => `(tactic| ((fail_if_success (with_reducible show wpAny _ _ _ (JV _ _ _ _ _ _) _ _)); (with_reducible show wpAny _ _ (exec (Stmt.Assign _ _ _) _) _ _ _); refine Mine.holdL ?_))
local macro_rules | `(tactic| walk_at "exec Assign cons BinOp") => `(tactic| ((fail_if_success (with_reducible show wpAny _ _ _ (JL _ _ _ _ _ _) _ _)); (with_reducible show wpAny _ _ (exec (Stmt.Assign _ _ _) _) _ _ _); refine Mine.holdL ?_))
local macro_rules | `(tactic| walk_at "exec Expr") => `(tactic| ((fail_if_success (with_reducible show wpAny _ _ _ (JU _ _ _ _ _ _) _ _)); (with_reducible show wpAny _ _ (exec (Stmt.Expr _ _) _) _ _ _); refine Mine.holdL ?_))
local macro_rules | `(tactic| walk_at "truthy ref") => `(tactic| (k_here; refine truthy_cons (by k_asm) (by k_mem) (by assumption) ?_))
local macro_rules | `(tactic| walk_at "call ref") => `(tactic| ((with_reducible show wpAny _ _ (call (Value.ref 361) _ _) _ _ _); refine (Mine.holdL ?_)))
local macro_rules | `(tactic| k_lt $h) => `(tactic| (have hRaw := $h; replace $h := allLt_of $h; simp only [AllLt, and_true] at $h:ident))
local macro_rules | `(tactic| k_ne) => `(tactic| (refine neN ?_; (try dsimp only); first | with_reducible assumption | exact lt_get (by with_reducible assumption) (by k_mem) | exact lt_get' (by with_reducible assumption) (by k_mem) | exact Ne.symm (by with_reducible assumption) | exact allNe_get (by assumption) (by k_mem) | exact Ne.symm (allNe_get (by assumption) (by k_mem)) | omega))
local macro_rules | `(tactic| k_all) => `(tactic| first | exact List.forall_mem_nil _ | exact older_ne (by with_reducible assumption) rfl | exact ne_older (by with_reducible assumption) rfl | (refine' List.forall_mem_cons.mpr ⟨?a, ?b⟩; (case a => k_ne); (case b => k_all)))
local macro_rules | `(tactic| walk_at "subscriptTail") => `(tactic| (k_here; (fail_if_success (with_reducible show wpAny _ _ (subscriptTail (PySem.Expr.Name _ _) _ _ _) _ _ _)); k_dflt (refine kba_turn (value' := PySem.Expr.Name (PySem.Str.ofString "_") ⟨0, 0, 0, 0⟩) (fun _ => rfl) ?_)))
local macro_rules | `(tactic| walk_at "no such place") => `(tactic| skip)
set_option tactic.hygienic false in
set_option maxHeartbeats 80000000 in
noncomputable def sMp : PSigma fun PgP : Prop => PSigma fun PgR : Prop => Hid PgP → Hid PgR → sMo.1 := by
  refine' ⟨_, _, ?sbody⟩
  case sbody =>
  intro h_gP h_gR
  intro w s₀ s₁ mg mb G Y fa o pm doc ho hg KX X V GL T B TE TW w_1 w_1_1 M w_2 w_3 hcd w_4 hs hlay0 hL hr hl2 w_7 w_8 w_9 w_10 w_11 hL_1 ra w1 r0 hI hr_1 hcond' hcond'_1 K0 hD h₁ tk₁ w_5 w_6 w_12 w_13 w_14 w_15 w_16 left left_1 left_2 left_3 left_4 left_5 right X0 qk ek hA tkA D yd cd oD dD dl hdl Id neD hB tkB oM n tM hn3 hn5 dM hC tkC C yc cc oC dC c hv Ic neC hW tkW W ws cw oW dW wd neW hR tkR Lf vs cl R oR dR Il neR hL1 tkL Lf_1 lv cl_1 rv cr pl hrv neR_1 rlen hD_1 tkD B_1 tb cb Rw nr doc_1 es ep hdoc hlo h' tk' t' h'_1 tk t₁ u₁ v₁ a_3 i tt c_1 r yc_1 cc_1 yr cr_1 rows nr_1 oC_1 oR_1 oK Ci Ri tv qv dv ov ok I oI hT tkT ET hi dK sit neI apT la Ic_1 Ir dC_1 dR_1 ap1 ap2 ap3 ap4 ap5 ap6 ap7 ap8 ap9 ap10 ap11 ap12 ap13 ap14 h'_2 F' N' tk_1 h'_2_1 tk_1_1 t₁_1 u₁_1 v₁_1 a_4 oK3 qv3 dv3 ov3 ok3 h3 tk4 dK3 hO tkO OD cv neO o0 os hout ol v0 vs_1 IO vl vl5 hi10 td hdr tk_2 hK tkK oK4 FK NK kk tkk hkk dK4
  w_top off
  have hkl := out_lt hkk
  obtain ⟨rk0, ck0, ak0⟩ := atK wd sit (show kk < n by omega)
  obtain ⟨rk1, ck1, ak1⟩ := atK wd sit (show kk + 1 < n by omega)
  have hrow0 := ak0.row
  have hrow1 := ak1.row
  have srow := ak0.size
  have slen := ak0.ylen
  have scln := ak0.clen
  have ekk1 : ((kk : Nat) : Int) + 1 = ((kk + 1 : Nat) : Int) := rfl
  k_steps
  unfold HoldL
  refine cut_upd ((rows.setIfInBounds kk (ws.getD rk1 .none)).setIfInBounds (kk + 1) (ws.getD rk0 .none)) FK NK ?walk ?go
  case walk =>
    k_steps
    unfold HoldL
    rename Fr _ _ _ _ => F4
    rename News _ _ _ _ => N4
    rw [ekk1] at N4
    rename_i uu66 uu67 uu144 uu252 uu253 uu254 uu255 uu256 uu257 uu258 uu259 uu260 uu261 uu262 uu263 uu264 uu265 uu266 uu267 uu268 uu269 uu270 uu271 uu272 uu273 uu274 uu275 uu276 uu277 uu278 uu279 uu280 uu281 uu282 uu283 uu284 uu285 uu286 uu287 uu288 uu289 uu290 uu291 uu292 uu293 uu294 uu295 uu296 uu297 uu298 uu299 uu300 uu301 uu302 uu303 uu304 uu305 uu306 uu307 uu308 uu309 uu310 uu311 uu312 uu313 uu314 uu315 uu316 uu317 uu318 uu319 uu320 uu325 uu326 uu327 uu328 uu329 uu330 uu331 uu332 uu335 uu336
    revert w s₀ s₁ mg mb G Y fa o pm doc ho hg KX X V GL T B TE TW w_1 w_1_1 M w_2 w_3 hcd w_4 hs hlay0 hL hr hl2 w_7 w_8 w_9 w_10 w_11 hL_1 ra w1 r0 hI hr_1 hcond' hcond'_1 K0 hD h₁ tk₁ w_5 w_6 w_12 w_13 w_14 w_15 w_16 left left_1 left_2 left_3 left_4 left_5 right X0 uu66 uu67 hA tkA D yd cd oD dD dl hdl Id neD hB tkB oM n tM hn3 hn5 dM hC tkC C yc cc oC dC c hv Ic neC hW tkW W ws cw oW dW wd neW hR tkR Lf vs cl R oR dR Il neR hL1 tkL Lf_1 lv cl_1 rv cr pl hrv neR_1 rlen hD_1 tkD B_1 tb cb Rw nr doc_1 es ep hdoc hlo h' tk' t' h'_1 uu144 t₁ u₁ v₁ a_3 i tt c_1 r yc_1 cc_1 yr cr_1 rows nr_1 oC_1 oR_1 oK Ci Ri tv qv dv ov ok I oI hT tkT ET hi dK sit neI apT la Ic_1 Ir dC_1 dR_1 ap1 ap2 ap3 ap4 ap5 ap6 ap7 ap8 ap9 ap10 ap11 ap12 ap13 ap14 h'_2 tk_1 h'_2_1 tk_1_1 t₁_1 u₁_1 v₁_1 a_4 oK3 qv3 dv3 ov3 ok3 h3 tk4 dK3 hO tkO OD cv neO o0 os hout ol v0 vs_1 IO vl vl5 hi10 td hdr tk_2 hK tkK oK4 kk tkk hkk dK4 hkl rk0 ck0 ak0 rk1 ck1 ak1 hrow0 hrow1 srow slen scln ekk1 uu252 uu253 uu254 uu255 uu256 uu257 uu258 uu259 uu260 uu261 uu262 uu263 uu264 uu265 uu266 uu267 uu268 uu269 uu270 uu271 uu272 uu273 uu274 uu275 uu276 uu277 uu278 uu279 uu280 uu281 uu282 uu283 uu284 uu285 uu286 uu287 uu288 uu289 uu290 uu291 uu292 uu293 uu294 uu295 uu296 uu297 uu298 uu299 uu300 uu301 uu302 uu303 uu304 uu305 uu306 uu307 uu308 uu309 uu310 uu311 uu312 uu313 uu314 uu315 uu316 uu317 uu318 uu319 uu320 lifted qk ek tk uu325 uu326 uu327 uu328 uu329 uu330 uu331 uu332 F4 N4 uu335 uu336
    exact h_gP.get
  case go =>
    intro hU tkU nU FU NU
    (try clear FK)
    (try clear NK)
    revert w s₀ s₁ mg mb G Y fa o pm doc ho hg KX X V GL T B TE TW w_1 w_1_1 M w_2 w_3 hcd w_4 hs hlay0 hL hr hl2 w_7 w_8 w_9 w_10 w_11 hL_1 ra w1 r0 hI hr_1 hcond' hcond'_1 K0 hD h₁ tk₁ w_5 w_6 w_12 w_13 w_14 w_15 w_16 left left_1 left_2 left_3 left_4 left_5 right X0 qk ek hA tkA D yd cd oD dD dl hdl Id neD hB tkB oM n tM hn3 hn5 dM hC tkC C yc cc oC dC c hv Ic neC hW tkW W ws cw oW dW wd neW hR tkR Lf vs cl R oR dR Il neR hL1 tkL Lf_1 lv cl_1 rv cr pl hrv neR_1 rlen hD_1 tkD B_1 tb cb Rw nr doc_1 es ep hdoc hlo h' tk' t' h'_1 tk t₁ u₁ v₁ a_3 i tt c_1 r yc_1 cc_1 yr cr_1 rows nr_1 oC_1 oR_1 oK Ci Ri tv qv dv ov ok I oI hT tkT ET hi dK sit neI apT la Ic_1 Ir dC_1 dR_1 ap1 ap2 ap3 ap4 ap5 ap6 ap7 ap8 ap9 ap10 ap11 ap12 ap13 ap14 h'_2 F' N' tk_1 h'_2_1 tk_1_1 t₁_1 u₁_1 v₁_1 a_4 oK3 qv3 dv3 ov3 ok3 h3 tk4 dK3 hO tkO OD cv neO o0 os hout ol v0 vs_1 IO vl vl5 hi10 td hdr tk_2 hK tkK oK4 kk tkk hkk dK4 hkl rk0 ck0 ak0 rk1 ck1 ak1 hrow0 hrow1 srow slen scln ekk1 hU tkU nU FU NU
    exact h_gR.get
end Mine
end
section
open PySem PySem.W PySem.Spec PySem.Calls PyProof.Rows
namespace Mine
local macro_rules | `(tactic| k_all) => `(tactic| first | exact List.forall_mem_nil _ | (refine' List.forall_mem_cons.mpr ⟨?a, ?b⟩; (case a => k_ne); (case b => k_all)))
local macro_rules | `(tactic| k_subL) => `(tactic| first | exact List.forall_mem_nil _ | (refine' List.forall_mem_cons.mpr ⟨?a, ?b⟩; (case a => k_mem); (case b => k_subL)))
local macro_rules | `(tactic| k_ne) => `(tactic| (refine neN ?_; (try dsimp only); first | with_reducible assumption | exact Nat.ne_of_lt (by with_reducible assumption) | exact Nat.ne_of_gt (by with_reducible assumption) | exact Ne.symm (by with_reducible assumption) | assumption | exact Ne.symm (by assumption) | exact allNe_get (by assumption) (by k_mem) | exact Ne.symm (allNe_get (by assumption) (by k_mem)) | omega))
local macro_rules | `(tactic| k_lt $h) => `(tactic| (have hRaw := $h; replace $h := allLt_of $h; simp only [AllLt, and_true] at $h:ident))
local macro_rules | `(tactic| k_ne) => `(tactic| (refine neN ?_; (try dsimp only); first | with_reducible assumption | exact lt_get (by with_reducible assumption) (by k_mem) | exact lt_get' (by with_reducible assumption) (by k_mem) | exact Ne.symm (by with_reducible assumption) | exact allNe_get (by assumption) (by k_mem) | exact Ne.symm (allNe_get (by assumption) (by k_mem)) | omega))
local macro_rules | `(tactic| k_all) => `(tactic| first | exact List.forall_mem_nil _ | exact older_ne (by with_reducible assumption) rfl | exact ne_older (by with_reducible assumption) rfl | (refine' List.forall_mem_cons.mpr ⟨?a, ?b⟩; (case a => k_ne); (case b => k_all)))
set_option tactic.hygienic false in
set_option maxHeartbeats 80000000 in
theorem tMq : sMp.1 := by
  intro w s₀ s₁ mg mb G Y fa o pm doc ho hg KX X V GL T B TE TW w_1 w_1_1 M w_2 w_3 hcd w_4 hs hlay0 hL hr hl2 w_7 w_8 w_9 w_10 w_11 hL_1 ra w1 r0 hI hr_1 hcond' hcond'_1 K0 hD h₁ tk₁ w_5 w_6 w_12 w_13 w_14 w_15 w_16 left left_1 left_2 left_3 left_4 left_5 right X0 qk ek hA tkA D yd cd oD dD dl hdl Id neD hB tkB oM n tM hn3 hn5 dM hC tkC C yc cc oC dC c hv Ic neC hW tkW W ws cw oW dW wd neW hR tkR Lf vs cl R oR dR Il neR hL1 tkL Lf_1 lv cl_1 rv cr pl hrv neR_1 rlen hD_1 tkD B_1 tb cb Rw nr doc_1 es ep hdoc hlo h' tk' t' h'_1 tk t₁ u₁ v₁ a_3 i tt c_1 r yc_1 cc_1 yr cr_1 rows nr_1 oC_1 oR_1 oK Ci Ri tv qv dv ov ok I oI hT tkT ET hi dK sit neI apT la Ic_1 Ir dC_1 dR_1 ap1 ap2 ap3 ap4 ap5 ap6 ap7 ap8 ap9 ap10 ap11 ap12 ap13 ap14 h'_2 tk_1 h'_2_1 tk_1_1 t₁_1 u₁_1 v₁_1 a_4 oK3 qv3 dv3 ov3 ok3 h3 tk4 dK3 hO tkO OD cv neO o0 os hout ol v0 vs_1 IO vl vl5 hi10 td hdr tk_2 hK tkK oK4 kk tkk hkk dK4 hkl rk0 ck0 ak0 rk1 ck1 ak1 hrow0 hrow1 srow slen scln ekk1 x' d' h'_3 F' N' hRaw l1 l2 D' g' L' h'_4 B' X' T' hRaw_1 l1_1 lifted lifted_1 lifted_2 lifted_3 h'_5 h'_6 F'_1 N'_1 Gc' kX x'_1 d'_1 h'_7 hRaw_2 l1_2 l2_1 D'_1 g'_1 L'_1 h'_8 B'_1 X'_1 T'_1 hRaw_3 l1_3 lifted_4 lifted_5 lifted_6 lifted_7 lifted_8 h'_9 F'_2 N'_2 Gc'_1 kX_1 x'_2 d'_2 h'_10 hRaw_4 l1_4 l2_2 g'_2 L'_2 h'_11 B'_2 X'_2 T'_2 lifted_9 lifted_10 lifted_11 lifted_12 lifted_13 lifted_14 qk_1 ek_1 tk_3 h'_12 h'_13 F'_3 N'_3 Gc'_2 kX_2 l' h'_14 F4 N4 hRaw_5 l1_5
  w_top off
  k_here
  k_dflt (refine' child_update ⟨?cB, ?cF, ?cX, ?cT, ?ck, ?cd, ?cu⟩ ?cN ?hd ?hl ?hne ?hle ?hsz ?_; (case hd => assumption); (case cB => k_asm); (case cF => k_asm); (case cX => k_asm); (case cT => k_asm); (case ck => rfl); (case cd => ktr_room); (case cu => ktr_units); (case cN => (refine News.sub (by k_asm) ?_; k_subL)); (case hl => assumption); (case hne => k_ne); (case hle => omega); (case hsz => omega))
  intro n1 n2 h9 tk9 F9 e9 g9 v9
  iterate 8 (replace N4 := News.drop2 N4)
  have N9 := news_two N4 e9 g9 v9 (by k_upd) (by k_upd)
  clear e9 g9 v9
  k_steps
  exact JU.intro F9 (News.sub N9 (by k_subL))
end Mine
end
section
open PySem PySem.W PySem.Spec PySem.Calls PyProof.Rows
namespace Mine
local macro_rules | `(tactic| k_all) => `(tactic| first | exact List.forall_mem_nil _ | (refine' List.forall_mem_cons.mpr ⟨?a, ?b⟩; (case a => k_ne); (case b => k_all)))
local macro_rules | `(tactic| k_subL) => `(tactic| first | exact List.forall_mem_nil _ | (refine' List.forall_mem_cons.mpr ⟨?a, ?b⟩; (case a => k_mem); (case b => k_subL)))
local macro_rules | `(tactic| k_ne) => `(tactic| (refine neN ?_; (try dsimp only); first | with_reducible assumption | exact Nat.ne_of_lt (by with_reducible assumption) | exact Nat.ne_of_gt (by with_reducible assumption) | exact Ne.symm (by with_reducible assumption) | assumption | exact Ne.symm (by assumption) | exact allNe_get (by assumption) (by k_mem) | exact Ne.symm (allNe_get (by assumption) (by k_mem)) | omega))
local macro_rules | `(tactic| walk_at "subscriptTail Name Slice ref ref") => `(tactic| (k_here; (with_reducible show wpAny _ _ (subscriptTail _ (PySem.Expr.Slice _ _ none _) (Value.ref _) (Value.ref _)) _ _ _); k_dflt (refine' kmk_slice_ints ?F ?N ?l ?p ?q ?i ?m ?c ?_ ?s ?t ?z; (case F => k_asm); (case N => k_asm); (case l => kmk_list); (case p => kmk_part); (case q => kmk_part); (case i => l_ints); (case m => first | exact kmk_from (by l_ints) (by omega) | exact kmk_upto (by l_ints) (by omega) | exact kmk_run (by l_ints) (by omega) (by omega)); (case c => kmk_len); (case s => with_unfolding_all rfl); (case t => kmk_pure); (case z => (refine kmk_sz (by l_ints) ?_; (simp only [sizeLine_eq, List.length_map]; omega)))); intro D' ws' h' F' N' l1 hI' hC' hL'; (try k_lt l1)))
local macro_rules | `(tactic| l_bnd) => `(tactic| omega)
local macro_rules | `(tactic| walk_at "subscriptTail") => `(tactic| (k_here; (with_reducible show wpAny _ _ (subscriptTail _ _ (Value.ref _) (Value.int _ _)) _ _ _); (try dsimp only); k_dflt (refine' item_news ?N ?M ?X ?h0 ?hf ?_; (case N => k_asm); (case M => k_mem); (case X => assumption); (case h0 => omega); (case hf => omega))))
local macro_rules | `(tactic| walk_at "exec Assign cons Dict") => `(tactic| ((fail_if_success (with_reducible show wpAny _ _ _ (JD _ _ _ _ _ _ _ _ _ _ _ _ _ _ _ _ _ _ _ _ _ _ _ _ _ _) _ _)); (with_reducible show wpAny _ _ (exec (Stmt.Assign _ _ _) _) _ _ _); refine Mine.holdL ?_))
local macro_rules | `(tactic| walk_at "eval ListComp") => `(tactic| (k_here; (with_reducible apply comp_J); (case hclos => with_unfolding_all rfl); (case hcell => decide); (case hkind => with_unfolding_all rfl); (case hnames => decide); (case hx => with_unfolding_all rfl); (case hs => intro _; with_unfolding_all rfl)))
local macro_rules | `(tactic| walk_at "exec For Name Call cons nil") => `(tactic| (k_here; (refine for_enter ?_ ?_); (case refine_2 => intro _; with_unfolding_all rfl)))
local macro_rules | `(tactic| walk_at "pyIter ref") => `(tactic| ((with_reducible show wpAny _ _ (pyIter _) (ForSrc _ _ _ _ _ _ _ _) _ _); refine Mine.holdL ?_))
local macro_rules | `(tactic| walk_at "exec Assign cons Subscript") => `(tactic| ((fail_if_success (with_reducible show wpAny _ _ _ (JV _ _ _ _ _ _) _ _)); (with_reducible show wpAny _ _ (exec (Stmt.Assign _ _ _) _) _ _ _); refine Mine.holdL ?_))
local macro_rules | `(tactic| walk_at "exec Assign cons BinOp") => `(tactic| ((fail_if_success (with_reducible show wpAny _ _ _ (JL _ _ _ _ _ _) _ _)); (with_reducible show wpAny _ _ (exec (Stmt.Assign _ _ _) _) _ _ _); refine Mine.holdL ?_))
local macro_rules | `(tactic| walk_at "exec Expr") => `(tactic| ((fail_if_success (with_reducible show wpAny _ _ _ (JU _ _ _ _ _ _) _ _)); (with_reducible show wpAny _ _ (exec (Stmt.Expr _ _) _) _ _ _); refine Mine.holdL ?_))
local macro_rules | `(tactic| walk_at "truthy ref") => `(tactic| (k_here; refine truthy_cons (by k_asm) (by k_mem) (by assumption) ?_))
local macro_rules | `(tactic| walk_at "binaryOp Add ref ref") => `(tactic| (k_here; (with_reducible show wpAny _ _ (binaryOp _ (Value.ref _) (Value.ref _)) _ _ _); k_dflt (refine' kmk_add_ints ?F ?N ?a ?b ?i ?j ?_ ?z; (case F => k_asm); (case N => k_asm); (case a => kmk_list); (case b => kmk_list); (case i => l_ints); (case j => l_ints); (case z => ((simp only [sizeLine_eq, List.length_append, List.length_cons, List.length_nil, List.length_take, List.length_drop, List.length_map]; omega)))); intro D' ws' h' F' N' l1 hI'; (try k_lt l1)))
local macro_rules | `(tactic| k_lt $h) => `(tactic| (have hRaw := $h; replace $h := allLt_of $h; simp only [AllLt, and_true] at $h:ident))
local macro_rules | `(tactic| k_ne) => `(tactic| (refine neN ?_; (try dsimp only); first | with_reducible assumption | exact lt_get (by with_reducible assumption) (by k_mem) | exact lt_get' (by with_reducible assumption) (by k_mem) | exact Ne.symm (by with_reducible assumption) | exact allNe_get (by assumption) (by k_mem) | exact Ne.symm (allNe_get (by assumption) (by k_mem)) | omega))
local macro_rules | `(tactic| k_all) => `(tactic| first | exact List.forall_mem_nil _ | exact older_ne (by with_reducible assumption) rfl | exact ne_older (by with_reducible assumption) rfl | (refine' List.forall_mem_cons.mpr ⟨?a, ?b⟩; (case a => k_ne); (case b => k_all)))
set_option tactic.hygienic false in
set_option maxHeartbeats 80000000 in
theorem tMr : sMp.2.1 := by
  intro w s₀ s₁ mg mb G Y fa o pm doc ho hg KX X V GL T B TE TW w_1 w_1_1 M w_2 w_3 hcd w_4 hs hlay0 hL hr hl2 w_7 w_8 w_9 w_10 w_11 hL_1 ra w1 r0 hI hr_1 hcond' hcond'_1 K0 hD h₁ tk₁ w_5 w_6 w_12 w_13 w_14 w_15 w_16 left left_1 left_2 left_3 left_4 left_5 right X0 qk ek hA tkA D yd cd oD dD dl hdl Id neD hB tkB oM n tM hn3 hn5 dM hC tkC C yc cc oC dC c hv Ic neC hW tkW W ws cw oW dW wd neW hR tkR Lf vs cl R oR dR Il neR hL1 tkL Lf_1 lv cl_1 rv cr pl hrv neR_1 rlen hD_1 tkD B_1 tb cb Rw nr doc_1 es ep hdoc hlo h' tk' t' h'_1 tk t₁ u₁ v₁ a_3 i tt c_1 r yc_1 cc_1 yr cr_1 rows nr_1 oC_1 oR_1 oK Ci Ri tv qv dv ov ok I oI hT tkT ET hi dK sit neI apT la Ic_1 Ir dC_1 dR_1 ap1 ap2 ap3 ap4 ap5 ap6 ap7 ap8 ap9 ap10 ap11 ap12 ap13 ap14 h'_2 F' N' tk_1 h'_2_1 tk_1_1 t₁_1 u₁_1 v₁_1 a_4 oK3 qv3 dv3 ov3 ok3 h3 tk4 dK3 hO tkO OD cv neO o0 os hout ol v0 vs_1 IO vl vl5 hi10 td hdr tk_2 hK tkK oK4 kk tkk hkk dK4 hkl rk0 ck0 ak0 rk1 ck1 ak1 hrow0 hrow1 srow slen scln ekk1 hU tkU nU FU NU
  w_top off
  have rl5 := la.rlen
  have cl5 := la.len
  k_steps
  unfold HoldL
  refine cut_ranks (fun vs => IntsAre vs ((swapAt kk r).map Int.ofNat)) FU NU ?walk ?go
  case walk =>
    k_steps
    rename IntsAre _ (_ ++ _ ++ _) => Iw
    refine JL.intro (by assumption) (News.sub (by assumption) (by k_subL)) (by assumption) (swap_ints (by omega) Iw) ?_
    k_all
  case go =>
    intro hR2 tkR2 R2 yr2 cr2 oR2 FR2 NR2 dR2 Ir2 neR2
    (try clear FU)
    (try clear NU)
    k_steps
    unfold HoldL
    refine cut_code2 (fun vs => IntsAre vs ((exch kk c_1).map Int.ofNat)) FR2 NR2 ?walk2 ?go2
    case walk2 =>
      k_steps
      rename IntsAre _ (_ ++ _ ++ _) => Iw
      refine JL.intro (by assumption) (News.sub (by assumption) (by k_subL)) (by assumption) (exch_ints (by omega) hkl.2 Iw) ?_
      k_all
    case go2 =>
      intro hC2 tkC2 C2 yc2 cc2 oC2 FC2 NC2 dC2 Ic2 neC2
      (try clear FR2)
      (try clear NR2)
      k_steps
      refine' TurnEnd.next (by assumption) (by assumption) _ ?ka ?kb ?kc (Inv2.intro (oK := oK4) (rows := (rows.setIfInBounds kk (ws.getD rk1 .none)).setIfInBounds (kk + 1) (ws.getD rk0 .none)) (nr := nU) ⟨la.next hn3 hn5 hkk, ?kf, Ic2, Ir2, row_exch sit.row ak0.here ak1.here, dC2, dR2⟩ ?kap dK4 ?kd ?ke)
      case kap =>
        repeat' (first | exact trivial | refine And.intro (allNe_of ?_) ?_)
        all_goals k_all
      case kb => k_subL
      case ka => k_mem
      case kc => k_all
      case kd => rfl
      case ke => exact fun y h1 h2 h3 h4 h5 => by simp only [NF, if_neg h1, if_neg h2, if_neg h3, if_neg h4, if_neg h5]
      case kf =>
        have h2 := (la.exch kk hkk).2.2
        have h3 := sit.sum
        omega
end Mine
end
section
open PySem PySem.W PySem.Spec PySem.Calls PyProof.Rows
namespace Mine
local macro_rules | `(tactic| k_all) => `(tactic| first | exact List.forall_mem_nil _ | (refine' List.forall_mem_cons.mpr ⟨?a, ?b⟩; (case a => k_ne); (case b => k_all)))
local macro_rules | `(tactic| k_subL) => `(tactic| first | exact List.forall_mem_nil _ | (refine' List.forall_mem_cons.mpr ⟨?a, ?b⟩; (case a => k_mem); (case b => k_subL)))
local macro_rules | `(tactic| k_ne) => `(tactic| (refine neN ?_; (try dsimp only); first | with_reducible assumption | exact Nat.ne_of_lt (by with_reducible assumption) | exact Nat.ne_of_gt (by with_reducible assumption) | exact Ne.symm (by with_reducible assumption) | assumption | exact Ne.symm (by assumption) | exact allNe_get (by assumption) (by k_mem) | exact Ne.symm (allNe_get (by assumption) (by k_mem)) | omega))
local macro_rules | `(tactic| l_bnd) => `(tactic| omega)
local macro_rules | `(tactic| walk_at "subscriptTail") => `(tactic| (k_here; (with_reducible show wpAny _ _ (subscriptTail _ _ (Value.ref _) (Value.int _ _)) _ _ _); (try dsimp only); k_dflt (refine' item_news ?N ?M ?X ?h0 ?hf ?_; (case N => k_asm); (case M => k_mem); (case X => assumption); (case h0 => omega); (case hf => omega))))
local macro_rules | `(tactic| walk_at "exec Assign cons Dict") => `(tactic| ((fail_if_success (with_reducible show wpAny _ _ _ (JD _ _ _ _ _ _ _ _ _ _ _ _ _ _ _ _ _ _ _ _ _ _ _ _ _ _) _ _)); (with_reducible show wpAny _ _ (exec (Stmt.Assign _ _ _) _) _ _ _); refine Mine.holdL ?_))
local macro_rules | `(tactic| walk_at "eval ListComp") => `(tactic| (k_here; (with_reducible apply comp_J); (case hclos => with_unfolding_all rfl); (case hcell => decide); (case hkind => with_unfolding_all rfl); (case hnames => decide); (case hx => with_unfolding_all rfl); (case hs => intro _; with_unfolding_all rfl)))
local macro_rules | `(tactic| walk_at "exec For Name Call cons nil") => `(tactic| (k_here; (refine for_enter ?_ ?_); (case refine_2 => intro _; with_unfolding_all rfl)))
local macro_rules | `(tactic| walk_at "pyIter ref") => `(tactic| ((with_reducible show wpAny _ _ (pyIter _) (ForSrc _ _ _ _ _ _ _ _) _ _); refine Mine.holdL ?_))
local macro_rules | `(tactic| walk_at "compareOp Eq ref ref") => `(tactic| (k_here; k_dflt (refine' eq_doc ?N ?pa ?pb ?da ?db ?la ?lb ?m1 ?m2 ?m3 ?m4 ?kin ?hu ?hu' ?_; (case N => k_asm); (case pa => k_mem); (case pb => k_mem); (case da => assumption); (case db => assumption); (case la => assumption); (case lb => assumption); (case m1 => k_mem); (case m2 => k_mem); (case m3 => k_mem); (case m4 => k_mem); (case kin => assumption); (case hu => ke_room); (case hu' => k_units))))
local macro_rules | `(tactic| k_lt $h) => `(tactic| (have hRaw := $h; replace $h := allLt_of $h; simp only [AllLt, and_true] at $h:ident))
local macro_rules | `(tactic| k_ne) => `(tactic| (refine neN ?_; (try dsimp only); first | with_reducible assumption | exact lt_get (by with_reducible assumption) (by k_mem) | exact lt_get' (by with_reducible assumption) (by k_mem) | exact Ne.symm (by with_reducible assumption) | exact allNe_get (by assumption) (by k_mem) | exact Ne.symm (allNe_get (by assumption) (by k_mem)) | omega))
local macro_rules | `(tactic| k_all) => `(tactic| first | exact List.forall_mem_nil _ | exact older_ne (by with_reducible assumption) rfl | exact ne_older (by with_reducible assumption) rfl | (refine' List.forall_mem_cons.mpr ⟨?a, ?b⟩; (case a => k_ne); (case b => k_all)))
set_option tactic.hygienic false in
set_option maxHeartbeats 80000000 in
theorem tMz : sMe.2.2.1 := by
  intro w s₀ s₁ mg mb G Y fa o pm doc ho hg KX X V GL T B TE TW w_1 w_1_1 M w_2 w_3 hcd w_4 hs hlay0 hL hr hl2 w_7 w_8 w_9 w_10 w_11 hL_1 ra w1 r0 hI hr_1 hcond' hcond'_1 K0 hD h₁ tk₁ w_5 w_6 w_12 w_13 w_14 w_15 w_16 left left_1 left_2 left_3 left_4 left_5 right X0 qk ek hA tkA D yd cd oD dD dl hdl Id neD hB tkB oM n tM hn3 hn5 dM hC tkC C yc cc oC dC c hv Ic neC hW tkW W ws cw oW dW wd neW hR tkR Lf vs cl R oR dR Il neR hL1 tkL Lf_1 lv cl_1 rv cr pl hrv neR_1 rlen hD_1 tkD B_1 tb cb Rw nr doc_1 es ep hdoc hlo h' tk' t' F' N' h'_1 tk t₁ u₁ v₁ a_3 c_1 r yc_1 cc_1 yr cr_1 rows nr_1 oC_1 oR_1 oK Ci Ri tv qv dv ov hT tkT sit FT NT apT
  w_top off
  have la := sit.la
  have hs := sit.sum
  have hl := la.last (by omega)
  have kin := kin_row wd (r := List.range n) (fun x hx => List.mem_range.mp hx)
  have er : rows = ws.toArray := Array.toList_inj.mp (by
    have e := sit.row
    rw [hl.2] at e
    have e2 : rowV ws (List.range n) = ws := by rw [← wd.1, rowV_range]
    exact e.trans e2)
  rw [← wd.1, rowV_range] at kin
  subst er
  have dC := sit.dC
  have dR := sit.dR
  have ap := apT
  dsimp only [L2, NF] at NT FT
  k_steps
  all_goals (try k_data)
end Mine
end
section
open PySem PySem.W PySem.Spec PySem.Calls PyProof.Rows
namespace Mine
theorem un_one {H : Prop} (x : PSigma fun P : Prop => Hid P → H) (h : x.1) : H := x.2 ⟨h⟩
theorem un_two {H : Prop} (x : PSigma fun P : Prop => PSigma fun Q : Prop => Hid P → Hid Q → H) (h : x.1) (k : x.2.1) : H := x.2.2 ⟨h⟩ ⟨k⟩
theorem un_three {H : Prop} (x : PSigma fun P : Prop => PSigma fun Q : Prop => PSigma fun R : Prop => Hid P → Hid Q → Hid R → H) (h : x.1) (k : x.2.1) (l : x.2.2.1) : H := x.2.2.2 ⟨h⟩ ⟨k⟩ ⟨l⟩
set_option maxHeartbeats 2000000 in
theorem the_law : PySem.Challenge.rw_ae5015_01.Holds :=
  @un_one PySem.Challenge.rw_ae5015_01.Holds sMa (@un_one sMa.1 sMb (@un_one sMb.1 sMc (@un_one sMc.1 sMd (@un_three sMd.1 sMe
    (@un_one sMe.1 sMf (@un_one sMf.1 sMg (@un_one sMg.1 sMh tMi)))
    (@un_one sMe.2.1 sMn (@un_one sMn.1 sMo (@un_two sMo.1 sMp tMq tMr)))
    tMz))))
end Mine
end
theorem PySem.Challenge.cw_ae5015_01_holds : PySem.Challenge.rw_ae5015_01.Holds :=
  Mine.the_law
