import PyProof.Rows.All
import Wide.All
import OpenK.AllK
import Wide.FinOn
import Lean
import PySem.Challenge.RW_la0046_01
set_option Elab.async false
namespace Mine

/-- a small text; its name's twin stands in for twins of the head that would be too large to keep -/
def q0 : PySem.Str := PySem.Str.ofString "q"
theorem q0_eq : q0 = q0 := rfl
end Mine
name_quick tw16096935477221015073 for Mine.q0 by Mine.q0_eq
name_quick tw12161983667900066180 for Mine.q0 by Mine.q0_eq
name_quick tw645008353064770918 for Mine.q0 by Mine.q0_eq
name_quick tw12181479097853683279 for Mine.q0 by Mine.q0_eq
name_quick tw1074804489107235056 for Mine.q0 by Mine.q0_eq
name_quick tw4482740408458855381 for Mine.q0 by Mine.q0_eq
name_quick tw11009849027208436086 for Mine.q0 by Mine.q0_eq
name_quick tw16935789422729920345 for Mine.q0 by Mine.q0_eq
name_quick tw13532024844435427965 for Mine.q0 by Mine.q0_eq
name_quick tw11886305184250412030 for Mine.q0 by Mine.q0_eq
name_quick tw8075568018651887793 for Mine.q0 by Mine.q0_eq
name_quick tw2536359049439575163 for Mine.q0 by Mine.q0_eq
name_quick tw14979626087600564940 for Mine.q0 by Mine.q0_eq
name_quick tw15045374019550898551 for Mine.q0 by Mine.q0_eq
name_quick tw567133738204657872 for Mine.q0 by Mine.q0_eq
name_quick tw16590896929057906003 for Mine.q0 by Mine.q0_eq
name_quick tw14350764541406611093 for Mine.q0 by Mine.q0_eq
name_quick tw5271184336429133520 for Mine.q0 by Mine.q0_eq
name_quick tw16326889199254633757 for Mine.q0 by Mine.q0_eq
name_quick tw6380782515089751550 for Mine.q0 by Mine.q0_eq
name_quick tw11566699232636054958 for Mine.q0 by Mine.q0_eq
name_quick tw10942035263794033107 for Mine.q0 by Mine.q0_eq
name_quick tw16966814322356759819 for Mine.q0 by Mine.q0_eq
name_quick tw17842620306162639686 for Mine.q0 by Mine.q0_eq
name_quick tw14209830616999942402 for Mine.q0 by Mine.q0_eq
name_quick tw16979880578912567463 for Mine.q0 by Mine.q0_eq
name_quick tw13987355940573415152 for Mine.q0 by Mine.q0_eq
name_quick tw5925582254088234700 for Mine.q0 by Mine.q0_eq
name_quick tw11519604305632133818 for Mine.q0 by Mine.q0_eq
name_quick tw17024950926791866790 for Mine.q0 by Mine.q0_eq
name_quick tw17475289236778735526 for Mine.q0 by Mine.q0_eq
name_quick tw7275051467321613617 for Mine.q0 by Mine.q0_eq
name_quick tw12095823642532355627 for Mine.q0 by Mine.q0_eq
name_quick tw16548257151911338427 for Mine.q0 by Mine.q0_eq
name_quick tw6952355047532471503 for Mine.q0 by Mine.q0_eq
name_quick tw13471461260053382970 for Mine.q0 by Mine.q0_eq
name_quick tw17280976486791472633 for Mine.q0 by Mine.q0_eq
name_quick tw5396446701170858492 for Mine.q0 by Mine.q0_eq
name_quick tw12329403913580668285 for Mine.q0 by Mine.q0_eq
name_quick tw1402947280878808549 for Mine.q0 by Mine.q0_eq
name_quick tw2504098582860672743 for Mine.q0 by Mine.q0_eq
name_quick tw11625766737575182897 for Mine.q0 by Mine.q0_eq
name_quick tw13925586954763233925 for Mine.q0 by Mine.q0_eq
name_quick tw14420389602138693270 for Mine.q0 by Mine.q0_eq
name_quick tw17804436615005485693 for Mine.q0 by Mine.q0_eq
name_quick tw11036193050239951465 for Mine.q0 by Mine.q0_eq
name_quick tw12393455550290869266 for Mine.q0 by Mine.q0_eq
name_quick tw17015423121036801654 for Mine.q0 by Mine.q0_eq
name_quick tw17139780236743587250 for Mine.q0 by Mine.q0_eq
name_quick tw11636919720809706868 for Mine.q0 by Mine.q0_eq
name_quick tw16865151637890581275 for Mine.q0 by Mine.q0_eq
name_quick tw10833955939284561965 for Mine.q0 by Mine.q0_eq
name_quick tw10379131730601215995 for Mine.q0 by Mine.q0_eq
name_quick tw4552823106982906706 for Mine.q0 by Mine.q0_eq
name_quick tw9674257727999782656 for Mine.q0 by Mine.q0_eq
name_quick tw9626621113073979434 for Mine.q0 by Mine.q0_eq
name_quick tw12635813782599140982 for Mine.q0 by Mine.q0_eq
name_quick tw3386650904741475044 for Mine.q0 by Mine.q0_eq
name_quick tw1092655722715705105 for Mine.q0 by Mine.q0_eq
name_quick tw8656719876789144132 for Mine.q0 by Mine.q0_eq
name_quick tw17352973434858128600 for Mine.q0 by Mine.q0_eq
name_quick tw13002492023102617099 for Mine.q0 by Mine.q0_eq
name_quick tw618205885557783147 for Mine.q0 by Mine.q0_eq
name_quick tw6434138532213402376 for Mine.q0 by Mine.q0_eq
name_quick tw1886563365779066154 for Mine.q0 by Mine.q0_eq
name_quick tw15468230090516036684 for Mine.q0 by Mine.q0_eq
name_quick tw505943868828395459 for Mine.q0 by Mine.q0_eq
name_quick tw17503288770812694035 for Mine.q0 by Mine.q0_eq
name_quick tw12450158673883907302 for Mine.q0 by Mine.q0_eq
name_quick tw5697894365363955025 for Mine.q0 by Mine.q0_eq
name_quick tw282004115355043989 for Mine.q0 by Mine.q0_eq
name_quick tw13789449189825218787 for Mine.q0 by Mine.q0_eq
name_quick tw1107438419126420414 for Mine.q0 by Mine.q0_eq
name_quick tw17183712847048597117 for Mine.q0 by Mine.q0_eq
name_quick tw13254397897704925713 for Mine.q0 by Mine.q0_eq
name_quick tw136631920214876835 for Mine.q0 by Mine.q0_eq
name_quick tw12825359941727978080 for Mine.q0 by Mine.q0_eq
name_quick tw16752143609539240740 for Mine.q0 by Mine.q0_eq
name_quick tw3355348695024010778 for Mine.q0 by Mine.q0_eq
name_quick tw2460228577881660442 for Mine.q0 by Mine.q0_eq
name_quick tw5349121933718820234 for Mine.q0 by Mine.q0_eq
name_quick tw1708024556718086227 for Mine.q0 by Mine.q0_eq
name_quick tw13915792640404377917 for Mine.q0 by Mine.q0_eq
name_quick tw1574873078441994576 for Mine.q0 by Mine.q0_eq
name_quick tw8989982439271903415 for Mine.q0 by Mine.q0_eq
name_quick tw16947794391021106201 for Mine.q0 by Mine.q0_eq
name_quick tw5565278806992967083 for Mine.q0 by Mine.q0_eq
name_quick tw15041003319150489328 for Mine.q0 by Mine.q0_eq
name_quick tw3619232141914619222 for Mine.q0 by Mine.q0_eq
name_quick tw14323765505736481980 for Mine.q0 by Mine.q0_eq
name_quick tw15263041282635125899 for Mine.q0 by Mine.q0_eq
name_quick tw4434333111790514575 for Mine.q0 by Mine.q0_eq
name_quick tw9265879793445154701 for Mine.q0 by Mine.q0_eq
name_quick tw5032809538720368765 for Mine.q0 by Mine.q0_eq
name_quick tw7035115661146626270 for Mine.q0 by Mine.q0_eq
name_quick tw11707433790658880453 for Mine.q0 by Mine.q0_eq
name_quick tw17001327861769816259 for Mine.q0 by Mine.q0_eq
name_quick tw5345256250457102556 for Mine.q0 by Mine.q0_eq
name_quick tw10938465397075749097 for Mine.q0 by Mine.q0_eq
name_quick tw13640514254501968386 for Mine.q0 by Mine.q0_eq
name_quick tw17765544955259793912 for Mine.q0 by Mine.q0_eq
name_quick tw11518781747449614426 for Mine.q0 by Mine.q0_eq
name_quick tw1735497430108182060 for Mine.q0 by Mine.q0_eq
name_quick tw8987815912523675519 for Mine.q0 by Mine.q0_eq
name_quick tw1631149150583789468 for Mine.q0 by Mine.q0_eq
name_quick tw7286323032743288035 for Mine.q0 by Mine.q0_eq
name_quick tw17888162413812561239 for Mine.q0 by Mine.q0_eq
name_quick tw12237943961548833269 for Mine.q0 by Mine.q0_eq
name_quick tw8881496252177385917 for Mine.q0 by Mine.q0_eq
name_quick tw9285146279643344392 for Mine.q0 by Mine.q0_eq
name_quick tw117213463901210413 for Mine.q0 by Mine.q0_eq
name_quick tw9673203406766833760 for Mine.q0 by Mine.q0_eq
name_quick tw8537084889766193716 for Mine.q0 by Mine.q0_eq
name_quick tw17975652961387846372 for Mine.q0 by Mine.q0_eq
name_quick tw2354101950205528012 for Mine.q0 by Mine.q0_eq
name_quick tw4921902886906138986 for Mine.q0 by Mine.q0_eq
name_quick tw2670528217467546775 for Mine.q0 by Mine.q0_eq
name_quick tw12726346659333912481 for Mine.q0 by Mine.q0_eq
name_quick tw4575980220486274672 for Mine.q0 by Mine.q0_eq
name_quick tw16439824349840649037 for Mine.q0 by Mine.q0_eq
name_quick tw16339471991904476338 for Mine.q0 by Mine.q0_eq
name_quick tw9396933662098498411 for Mine.q0 by Mine.q0_eq
name_quick tw12659028871203227004 for Mine.q0 by Mine.q0_eq
name_quick tw13512673800721320934 for Mine.q0 by Mine.q0_eq
name_quick tw3315324234476444515 for Mine.q0 by Mine.q0_eq
name_quick tw17344680358763864322 for Mine.q0 by Mine.q0_eq
name_quick tw13678640442995254988 for Mine.q0 by Mine.q0_eq
name_quick tw1419416864934026935 for Mine.q0 by Mine.q0_eq
name_quick tw8488268690174267210 for Mine.q0 by Mine.q0_eq
name_quick tw15663404670287596823 for Mine.q0 by Mine.q0_eq
name_quick tw8430678208038309684 for Mine.q0 by Mine.q0_eq
name_quick tw2422670821966735624 for Mine.q0 by Mine.q0_eq
name_quick tw17517737089405305841 for Mine.q0 by Mine.q0_eq
name_quick tw12233582284571471492 for Mine.q0 by Mine.q0_eq
name_quick tw6179359751918216688 for Mine.q0 by Mine.q0_eq
name_quick tw2039238271031011813 for Mine.q0 by Mine.q0_eq
name_quick tw9821368406582625841 for Mine.q0 by Mine.q0_eq
name_quick tw10323183001455561277 for Mine.q0 by Mine.q0_eq
name_quick tw15542503528162795033 for Mine.q0 by Mine.q0_eq
name_quick tw10948738476641704880 for Mine.q0 by Mine.q0_eq
name_quick tw10996506086634736982 for Mine.q0 by Mine.q0_eq
name_quick tw16593013826814733010 for Mine.q0 by Mine.q0_eq
name_quick tw6587116730350146372 for Mine.q0 by Mine.q0_eq
name_quick tw9577309144901391297 for Mine.q0 by Mine.q0_eq
name_quick tw2718901123391026995 for Mine.q0 by Mine.q0_eq
name_quick tw6654550962395885724 for Mine.q0 by Mine.q0_eq
name_quick tw1291980286583624508 for Mine.q0 by Mine.q0_eq
name_quick tw16374537267813192141 for Mine.q0 by Mine.q0_eq
name_quick tw10424941004445345732 for Mine.q0 by Mine.q0_eq
name_quick tw10015664371746657536 for Mine.q0 by Mine.q0_eq
name_quick tw6711915476519705758 for Mine.q0 by Mine.q0_eq
name_quick tw16223305294053301992 for Mine.q0 by Mine.q0_eq
name_quick tw11985326045990495214 for Mine.q0 by Mine.q0_eq
name_quick tw1258717718454355964 for Mine.q0 by Mine.q0_eq
name_quick tw10308316962582663543 for Mine.q0 by Mine.q0_eq
name_quick tw15806122291839087668 for Mine.q0 by Mine.q0_eq
name_quick tw6434265647005701932 for Mine.q0 by Mine.q0_eq
name_quick tw10073347824450446311 for Mine.q0 by Mine.q0_eq
name_quick tw12821735335276811757 for Mine.q0 by Mine.q0_eq
name_quick tw1537898542681612871 for Mine.q0 by Mine.q0_eq
name_quick tw4658958612460137192 for Mine.q0 by Mine.q0_eq
name_quick tw8224813933742928703 for Mine.q0 by Mine.q0_eq
name_quick tw3131671291697673992 for Mine.q0 by Mine.q0_eq
name_quick tw13900631225919944168 for Mine.q0 by Mine.q0_eq
name_quick tw219737044198020058 for Mine.q0 by Mine.q0_eq
name_quick tw10528696920762540405 for Mine.q0 by Mine.q0_eq
name_quick tw8450942572126056277 for Mine.q0 by Mine.q0_eq
name_quick tw704327219915372674 for Mine.q0 by Mine.q0_eq
name_quick tw5149714755402479525 for Mine.q0 by Mine.q0_eq
name_quick tw5758256569797452207 for Mine.q0 by Mine.q0_eq
name_quick tw6993175162768986339 for Mine.q0 by Mine.q0_eq
name_quick tw460243522976405022 for Mine.q0 by Mine.q0_eq
name_quick tw4527066259768149269 for Mine.q0 by Mine.q0_eq
name_quick tw14223099787259518943 for Mine.q0 by Mine.q0_eq
name_quick tw14326252917377295143 for Mine.q0 by Mine.q0_eq
name_quick tw7299303143086499733 for Mine.q0 by Mine.q0_eq
name_quick tw8119918657739134586 for Mine.q0 by Mine.q0_eq
name_quick tw16296994325663420285 for Mine.q0 by Mine.q0_eq
name_quick tw17828083071136270317 for Mine.q0 by Mine.q0_eq
name_quick tw7081425507203772304 for Mine.q0 by Mine.q0_eq
name_quick tw13160144027095335755 for Mine.q0 by Mine.q0_eq
name_quick tw9676229304581654039 for Mine.q0 by Mine.q0_eq
name_quick tw6580340599500149305 for Mine.q0 by Mine.q0_eq
name_quick tw4775785305629353868 for Mine.q0 by Mine.q0_eq
name_quick tw2193789692954389824 for Mine.q0 by Mine.q0_eq
name_quick tw757081541053455785 for Mine.q0 by Mine.q0_eq
name_quick tw5978237884098788730 for Mine.q0 by Mine.q0_eq
name_quick tw11166942722945506595 for Mine.q0 by Mine.q0_eq
name_quick tw15168306246750427876 for Mine.q0 by Mine.q0_eq
name_quick tw17101871299007795629 for Mine.q0 by Mine.q0_eq
name_quick tw3577408171920636059 for Mine.q0 by Mine.q0_eq
name_quick tw7198390536060210744 for Mine.q0 by Mine.q0_eq
name_quick tw43969757491396457 for Mine.q0 by Mine.q0_eq
name_quick tw11130039905162102590 for Mine.q0 by Mine.q0_eq
name_quick tw9763268239775435451 for Mine.q0 by Mine.q0_eq
name_quick tw2611137233208623240 for Mine.q0 by Mine.q0_eq
name_quick tw9281714027785469542 for Mine.q0 by Mine.q0_eq
name_quick tw17244072584429378644 for Mine.q0 by Mine.q0_eq
name_quick tw6909570525239066004 for Mine.q0 by Mine.q0_eq
name_quick tw11817470609975844035 for Mine.q0 by Mine.q0_eq
name_quick tw6148621092414575339 for Mine.q0 by Mine.q0_eq
name_quick tw13912434898499826684 for Mine.q0 by Mine.q0_eq
name_quick tw383695940523520267 for Mine.q0 by Mine.q0_eq
name_quick tw8047484207015712433 for Mine.q0 by Mine.q0_eq
name_quick tw4858009861420398278 for Mine.q0 by Mine.q0_eq
name_quick tw325292655437039998 for Mine.q0 by Mine.q0_eq
name_quick tw14210447440969649564 for Mine.q0 by Mine.q0_eq
name_quick tw1503297043503765363 for Mine.q0 by Mine.q0_eq
name_quick tw7503421922109321716 for Mine.q0 by Mine.q0_eq
name_quick tw15880737140895825463 for Mine.q0 by Mine.q0_eq
name_quick tw2627984346626558326 for Mine.q0 by Mine.q0_eq
name_quick tw6135381517318000843 for Mine.q0 by Mine.q0_eq
name_quick tw11790162104776037713 for Mine.q0 by Mine.q0_eq
name_quick tw8579058602437062094 for Mine.q0 by Mine.q0_eq
name_quick tw912392155897948271 for Mine.q0 by Mine.q0_eq
name_quick tw1401972060568974870 for Mine.q0 by Mine.q0_eq
name_quick tw5721027456603625697 for Mine.q0 by Mine.q0_eq
name_quick tw7140130562030077042 for Mine.q0 by Mine.q0_eq
name_quick tw10352308551163946355 for Mine.q0 by Mine.q0_eq
name_quick tw13581749221687468397 for Mine.q0 by Mine.q0_eq
name_quick tw14433975572909055671 for Mine.q0 by Mine.q0_eq
name_quick tw13642483538084851733 for Mine.q0 by Mine.q0_eq
name_quick tw6683783046931543321 for Mine.q0 by Mine.q0_eq
name_quick tw878741703135273975 for Mine.q0 by Mine.q0_eq
name_quick tw4679858250743294509 for Mine.q0 by Mine.q0_eq
name_quick tw10205541121877940668 for Mine.q0 by Mine.q0_eq
name_quick tw15823609455315575823 for Mine.q0 by Mine.q0_eq
name_quick tw7401281599722004195 for Mine.q0 by Mine.q0_eq
name_quick tw5076957145309523181 for Mine.q0 by Mine.q0_eq
name_quick tw12224578244612797663 for Mine.q0 by Mine.q0_eq
name_quick tw7499937903120025604 for Mine.q0 by Mine.q0_eq
name_quick tw2378363196638174374 for Mine.q0 by Mine.q0_eq
name_quick tw11863081143760314161 for Mine.q0 by Mine.q0_eq
name_quick tw13981391230805400906 for Mine.q0 by Mine.q0_eq
name_quick tw16349804527192203551 for Mine.q0 by Mine.q0_eq
name_quick tw9315938663221665524 for Mine.q0 by Mine.q0_eq
name_quick tw11277413387252134812 for Mine.q0 by Mine.q0_eq
name_quick tw12022618010286034681 for Mine.q0 by Mine.q0_eq
name_quick tw470574548607681690 for Mine.q0 by Mine.q0_eq
name_quick tw11452132507678324671 for Mine.q0 by Mine.q0_eq
name_quick tw15195428891847259777 for Mine.q0 by Mine.q0_eq
name_quick tw3325841961599345399 for Mine.q0 by Mine.q0_eq
name_quick tw441327347791068078 for Mine.q0 by Mine.q0_eq
name_quick tw4071324889030633612 for Mine.q0 by Mine.q0_eq
name_quick tw13871001218405608335 for Mine.q0 by Mine.q0_eq
name_quick tw15323854079317868165 for Mine.q0 by Mine.q0_eq
name_quick tw18211773271919218964 for Mine.q0 by Mine.q0_eq
name_quick tw16180582048198870337 for Mine.q0 by Mine.q0_eq
name_quick tw1617757218408452269 for Mine.q0 by Mine.q0_eq
name_quick tw9376109419431680627 for Mine.q0 by Mine.q0_eq
namespace Mine
section
open PySem PySem.W PyProof.Rows
set_option Elab.async false
set_option maxRecDepth 100000
set_option maxHeartbeats 8000000
open_top hd for PySem.Challenge.rw_la0046_01
end

open PySem.W in
example : True := by
  w_top off
  trivial
local macro_rules | `(tactic| walk_at $s:str) => `(tactic| k_extra $s)

section
open PySem PySem.W PySem.Calls PyProof.Rows Builtin
set_option Elab.async false
set_option maxRecDepth 100000
set_option maxHeartbeats 8000000
theorem enc_leaf (t u : Tok) : «str.encode» ⟨[.str (Str.ofString "leaf") t, .str (Str.ofString "utf-8") u], []⟩ = (mkBytes #[108, 101, 97, 102] >>= fun v => ret v) := by kernel_rfl
theorem enc_nil (t u : Tok) : «str.encode» ⟨[.str (Str.ofString "") t, .str (Str.ofString "utf-8") u], []⟩ = (mkBytes #[] >>= fun v => ret v) := by kernel_rfl
theorem enc_meets {x : PySem.Str} {b : Array UInt8} {t u : Tok} (e : «str.encode» ⟨[.str x t, .str (Str.ofString "utf-8") u], []⟩ = (mkBytes b >>= fun v => ret v)) :
    Meets («str.encode» ⟨[.str x t, .str (Str.ofString "utf-8") u], []⟩) (fun _ R s => b.size ≤ sizeLine ∧ R (.ok (.ret (.bytes b s.toks))) { s with toks := s.toks + 1 }) := by
  refine .of_wp fun prog w A R s hS => ?_
  obtain ⟨hsz, h⟩ := hS
  rw [e]
  exact wpAny_bind (wpAny_mkBytes (wpAny_pure ⟨_, rfl, h⟩) hsz)
section
variable {prog : Program} {w : World} {A : Around} {E : Value → Shared → Prop} {s : Shared} {t u : Tok}
theorem call_enc {x : PySem.Str} {b : Array UInt8} {Q : Value → Shared → Prop} (e : «str.encode» ⟨[.str x t, .str (Str.ofString "utf-8") u], []⟩ = (mkBytes b >>= fun v => ret v)) (hsz : b.size ≤ sizeLine)
    (h : Q (.bytes b s.toks) { s with toks := s.toks + 1 }) : wpAny (model prog w) A (call (.builtin "str.encode") [.str x t, .str (Str.ofString "utf-8") u]) Q E s :=
  call_meets F.slot_str_encode (typeIs_str _ _ _) F.entry_str_encode (F.args_str_encode_2 _ _) (enc_meets e) ⟨hsz, h⟩
theorem meth_enc {M : Model} {x : PySem.Str} {pl : Sem Bool} {Q : Value × List Value → Shared → Prop} (h : Q (.builtin "str.encode", [.str x t]) s) : wpAny M A (getMethod (.str x t) (Str.ofString "encode") pl) Q E s :=
  getMethod_builtin (typeIs_str _ _ _) F.plainAttrs_str F.slot_str_encode F.type_str_encode (fun _ e => nomatch e) h
end

noncomputable def Stop (p : Prop) : Prop := p
theorem stop_of {p : Prop} (h : Stop p) : p := h
end

section
open PySem PySem.W PySem.Calls PyProof.Rows Builtin
set_option Elab.async false
set_option maxRecDepth 100000
set_option maxHeartbeats 8000000
inductive Th where
  | leaf (p : Int)
  | map (p : Int)
  | demo (b c : Th) (cb cc : Bool)
noncomputable def Th.depth : Th → Nat
  | .leaf _ => 0
  | .map _ => 0
  | .demo b c _ _ => max b.depth c.depth + 1
noncomputable def Th.weight : Th → Nat
  | .leaf _ => 1
  | .map _ => 1
  | .demo b c _ _ => b.weight + c.weight
noncomputable def Th.closed : Th → List Int
  | .leaf p => [p]
  | .map p => [p]
  | .demo b c cb cc => (if cb then b.closed else []) ++ (if cc then c.closed else [])
noncomputable def Th.cleaned : Th → List Int
  | .leaf p => [-p]
  | .map _ => []
  | .demo b c _ _ => b.cleaned ++ c.cleaned

structure Rec where
  place : Int
  x : Addr
  dx : Addr
structure Cfg where
  aH : Addr
  maps : List Rec
structure St where
  hs : List Int
  op : Int → Bool
noncomputable def lowOf (l : List Int) : List Int := l.filter fun i => decide (i < 3)
noncomputable def St.close (σ : St) (l : List Int) : St := ⟨σ.hs ++ lowOf l, fun q => σ.op q && !l.contains q⟩
noncomputable def St.clean (σ : St) (l : List Int) : St := ⟨σ.hs ++ l, σ.op⟩

/-- a mapping storage's dict -/
noncomputable def MapD (o : Obj) (b : Bool) : Prop :=
  ∃ es n, o = dictOf es n ∧ getL (Str.ofString "_opened") es = some (some (.bool b)) ∧ getL (Str.ofString "close") es = some none ∧ getL (Str.ofString "cleanup") es = some none ∧ getL (Str.ofString "opened") es = some none ∧ es.length ≤ 20
/-- a demo storage's dict -/
noncomputable def DemoD (o : Obj) (b c : Value) (cb cc : Bool) : Prop :=
  ∃ es n, o = dictOf es n ∧ getL (Str.ofString "base") es = some (some b) ∧ getL (Str.ofString "changes") es = some (some c) ∧ getL (Str.ofString "close_base_on_close") es = some (some (.bool cb)) ∧
    getL (Str.ofString "close_changes_on_close") es = some (some (.bool cc)) ∧ getL (Str.ofString "close") es = some none ∧ getL (Str.ofString "cleanup") es = some none ∧ getL (Str.ofString "pop") es = some none ∧
    getL (Str.ofString "registerDB") es = some none ∧ getL (Str.ofString "_opened") es = some none

noncomputable def Mut (Γ : Cfg) (σ : St) (news : List (Addr × Obj)) : Prop :=
  (∃ vs n, (Γ.aH, W.listOf vs.toArray n) ∈ news ∧ IntsAre vs σ.hs) ∧
  (∀ r ∈ Γ.maps, (r.x, instObj 205 r.dx) ∈ news ∧ ∃ o, (r.dx, o) ∈ news ∧ MapD o (σ.op r.place)) ∧
  Γ.maps.Pairwise (fun r q => r.place ≠ q.place ∧ r.dx ≠ q.dx) ∧ ∀ r ∈ Γ.maps, 100 ≤ r.place
noncomputable def Off (Γ : Cfg) (a : Addr) : Prop := a ≠ Γ.aH ∧ ∀ r ∈ Γ.maps, a ≠ r.dx
noncomputable def Stays (Γ : Cfg) (news news' : List (Addr × Obj)) : Prop := ∀ p ∈ news, Off Γ p.1 → p ∈ news'

theorem noneIte {c : Prop} [Decidable c] {v : Value} : ¬ ((if c then none else some none : Option (Option Value)) = some (some v)) := by split <;> simp
theorem isStr_ne {k : Value} {a b : PySem.Str} (h : k.isStr a = true) (hab : a ≠ b) : k.isStr b = false := by
  cases k <;> simp only [Value.isStr] at h ⊢ <;> try rfl
  rename_i x t
  have : x = a := by simpa using h
  subst this
  simpa using hab
theorem getL_put_self {name : PySem.Str} {hsh : Int} {key v v0 : Value} : ∀ {es : List DictEntry}, getL name es = some (some v0) → getL name (putL name hsh key v es) = some (some v)
  | [], h => by simp [getL] at h
  | e :: r, h => by
    unfold putL
    by_cases he : e.key.isStr name = true
    · rw [if_pos he]; simp [getL, he]
    · have he' : e.key.isStr name = false := by simpa using he
      rw [if_neg he]
      have ih := getL_put_self (name := name) (hsh := hsh) (key := key) (v := v) (v0 := v0) (es := r)
      simp only [getL, List.find?_cons, he', List.any_cons] at h ih ⊢
      cases hf : r.find? (fun x => x.key.isStr name) with
      | none => rw [hf] at h; exact absurd h noneIte
      | some q =>
        rw [hf] at h ih
        have := ih h
        cases hf2 : (putL name hsh key v r).find? (fun x => x.key.isStr name) with
        | none => rw [hf2] at this; exact absurd this noneIte
        | some q2 => rw [hf2] at this; simpa using this
theorem putL_len {name : PySem.Str} {hsh : Int} {key v v0 : Value} : ∀ {es : List DictEntry}, getL name es = some (some v0) → (putL name hsh key v es).length = es.length
  | [], h => by simp [getL] at h
  | e :: r, h => by
    unfold putL
    by_cases he : e.key.isStr name = true
    · rw [if_pos he]; rfl
    · have he' : e.key.isStr name = false := by simpa using he
      rw [if_neg he, List.length_cons, List.length_cons]
      have ih := putL_len (name := name) (hsh := hsh) (key := key) (v := v) (v0 := v0) (es := r)
      rw [ih]
      simp only [getL, List.find?_cons, he', List.any_cons] at h ⊢
      cases hf : r.find? (fun x => x.key.isStr name) with
      | none => rw [hf] at h; exact absurd h noneIte
      | some q => rw [hf] at h; simpa using h
theorem put_find {name n2 : PySem.Str} {hsh : Int} {key v : Value} (hne : name ≠ n2) (hk : key.isStr n2 = false) : ∀ {es : List DictEntry},
    ((putL name hsh key v es).find? (fun x => x.key.isStr n2)).map (·.val) = (es.find? (fun x => x.key.isStr n2)).map (·.val)
  | [] => by simp [putL, hk]
  | e :: r => by
    unfold putL
    by_cases he : e.key.isStr name = true
    · rw [if_pos he]; simp [isStr_ne he hne]
    · rw [if_neg he]
      cases h2 : e.key.isStr n2 with
      | true => simp [h2]
      | false => simp only [List.find?_cons, h2]; exact put_find hne hk
theorem put_ref {name : PySem.Str} {hsh : Int} {v : Value} {t : Tok} : ∀ {es : List DictEntry}, (putL name hsh (.str name t) v es).any (·.refKey) = es.any (·.refKey)
  | [] => by simp [putL, DictEntry.refKey]
  | e :: r => by
    unfold putL
    by_cases he : e.key.isStr name = true
    · rw [if_pos he]; simp [DictEntry.refKey]
    · rw [if_neg he]; simp only [List.any_cons]; rw [put_ref]
theorem getL_put_ne {name n2 : PySem.Str} {hsh : Int} {v : Value} {t : Tok} {es : List DictEntry} (hne : name ≠ n2) : getL n2 (putL name hsh (.str name t) v es) = getL n2 es := by
  have h := put_find (hsh := hsh) (v := v) (key := .str name t) (es := es) hne (by simpa [Value.isStr] using hne)
  have hr := put_ref (name := name) (hsh := hsh) (v := v) (t := t) (es := es)
  unfold getL
  rw [hr]
  cases h1 : (putL name hsh (.str name t) v es).find? (fun x => x.key.isStr n2) <;> cases h2 : es.find? (fun x => x.key.isStr n2) <;> rw [h1, h2] at h <;> simp at h
  · simp only [h]

noncomputable def reLed (d : Addr) (o' : Obj) (news : List (Addr × Obj)) : List (Addr × Obj) := (d, o') :: news.filter fun p => decide (p.1 ≠ d)
theorem reLed_upd {d : Addr} {o o' : Obj} {news : List (Addr × Obj)} : Upd d o o' ((d, o) :: news.filter fun p => decide (p.1 ≠ d)) (reLed d o' news) :=
  .head fun p hp => by simpa using (List.mem_filter.mp hp).2
theorem reLed_pre {d : Addr} {o : Obj} {news : List (Addr × Obj)} (hm : (d, o) ∈ news) : ∀ p ∈ (d, o) :: news.filter fun p => decide (p.1 ≠ d), p ∈ news := fun p hp => by
  rcases List.mem_cons.mp hp with rfl | hp
  · exact hm
  · exact (List.mem_filter.mp hp).1
theorem reLed_old {d : Addr} {o' : Obj} {news : List (Addr × Obj)} {p : Addr × Obj} (hp : p ∈ news) (hne : p.1 ≠ d) : p ∈ reLed d o' news :=
  List.mem_cons_of_mem _ (List.mem_filter.mpr ⟨hp, by simpa using hne⟩)


theorem recs_apart {l : List Rec} (h : l.Pairwise (fun r q => r.place ≠ q.place ∧ r.dx ≠ q.dx)) : ∀ {r q : Rec}, r ∈ l → q ∈ l → r = q ∨ (r.place ≠ q.place ∧ r.dx ≠ q.dx) := by
  induction h with
  | nil => intro r q h; cases h
  | cons h1 _ ih =>
    intro r q hr hq
    rcases List.mem_cons.mp hr with er | hr' <;> rcases List.mem_cons.mp hq with eq | hq'
    · exact .inl (er.trans eq.symm)
    · subst er; exact .inr (h1 _ hq')
    · subst eq; exact .inr ⟨(h1 _ hr').1.symm, (h1 _ hr').2.symm⟩
    · exact ih hr' hq'
theorem news_ne {h₀ h : Heap} {L : Addr} {news : List (Addr × Obj)} (N : News h₀ L h news) {a b : Addr} {o q : Obj} (ha : (a, o) ∈ news) (hb : (b, q) ∈ news) (hne : o.cls ≠ q.cls) : a ≠ b := fun e => by
  subst e
  have h1 := (N _ ha).1
  have h2 := (N _ hb).1
  exact hne (congrArg Obj.cls (Option.some.inj (h1.symm.trans h2)))
theorem MapD.put {es : List DictEntry} {n : Nat} {b b' : Bool} {hsh : Int} {t : Tok} (h : MapD (dictOf es n) b) : MapD (dictOf (putL (Str.ofString "_opened") hsh (.str (Str.ofString "_opened") t) (.bool b') es) (putN (Str.ofString "_opened") es n)) b' := by
  obtain ⟨es1, n1, e, h1, h2, h3, h4, h5⟩ := h
  have : es = es1 := by
    have := congrArg Obj.data e
    simpa [dictOf] using (Data.dict.inj this).1
  subst this
  exact ⟨_, _, rfl, getL_put_self h1, (getL_put_ne (by decide)).trans h2, (getL_put_ne (by decide)).trans h3, (getL_put_ne (by decide)).trans h4, (putL_len h1).symm ▸ h5⟩
theorem low_big {p : Int} (h : 100 ≤ p) : lowOf [p] = [] := by
  have : ¬ p < 3 := by lia
  simp [lowOf, this]
/-- a mapping storage turned to closed -/
theorem mut_map {h₀ h : Heap} {L : Addr} {news : List (Addr × Obj)} {Γ : Cfg} {σ : St} {r : Rec} {o o' : Obj} (N : News h₀ L h news) (M : Mut Γ σ news) (hr : r ∈ Γ.maps) (ho : (r.dx, o) ∈ news) (hc : o.cls = .type "dict") (ho' : MapD o' false) :
    Mut Γ (σ.close [r.place]) (reLed r.dx o' news) := by
  obtain ⟨⟨vs, n, hv, hi⟩, hm, hp, hb⟩ := M
  refine ⟨⟨vs, n, reLed_old hv (news_ne N hv ho (by rw [hc]; show Value.type "list" ≠ Value.type "dict"; decide)), ?_⟩, fun q hq => ?_, hp, hb⟩
  · show IntsAre vs (σ.hs ++ lowOf [r.place])
    rw [low_big (hb r hr), List.append_nil]; exact hi
  · obtain ⟨hx, oq, hoq, hd⟩ := hm q hq
    refine ⟨reLed_old hx (news_ne N hx ho (by rw [hc]; intro e; cases e)), ?_⟩
    rcases recs_apart hp hr hq with rfl | ⟨h1, h2⟩
    · refine ⟨o', List.mem_cons_self .., ?_⟩
      have : (σ.close [r.place]).op r.place = false := by simp [St.close]
      rw [this]; exact ho'
    · refine ⟨oq, reLed_old hoq (fun e => h2 e.symm), ?_⟩
      have : (σ.close [r.place]).op q.place = σ.op q.place := by simp [St.close, Ne.symm h1]
      rw [this]; exact hd
theorem stays_map {Γ : Cfg} {news : List (Addr × Obj)} {r : Rec} {o' : Obj} (hr : r ∈ Γ.maps) : Stays Γ news (reLed r.dx o' news) := fun _ hp ho => reLed_old hp (ho.2 r hr)

theorem lowOf_append (a b : List Int) : lowOf (a ++ b) = lowOf a ++ lowOf b := List.filter_append ..
theorem St.close_nil (σ : St) : σ.close [] = σ := by
  cases σ; simp [St.close, lowOf]
theorem St.close_append (σ : St) (a b : List Int) : (σ.close a).close b = σ.close (a ++ b) := by
  simp only [St.close, lowOf_append, List.append_assoc, St.mk.injEq, true_and]
  funext q
  simp [Bool.and_assoc, Bool.not_or]
theorem St.clean_nil (σ : St) : σ.clean [] = σ := by cases σ; simp [St.clean]
theorem St.clean_append (σ : St) (a b : List Int) : (σ.clean a).clean b = σ.clean (a ++ b) := by simp [St.clean, List.append_assoc]
theorem Th.closed_len : ∀ t : Th, t.closed.length ≤ t.weight
  | .leaf _ => by simp [Th.closed, Th.weight]
  | .map _ => by simp [Th.closed, Th.weight]
  | .demo b c cb cc => by
    have h1 := b.closed_len
    have h2 := c.closed_len
    simp only [Th.closed, Th.weight, List.length_append]
    split <;> split <;> simp <;> lia
theorem Th.cleaned_len : ∀ t : Th, t.cleaned.length ≤ t.weight
  | .leaf _ => by simp [Th.cleaned, Th.weight]
  | .map _ => by simp [Th.cleaned, Th.weight]
  | .demo b c cb cc => by
    have h1 := b.cleaned_len
    have h2 := c.cleaned_len
    simp only [Th.cleaned, Th.weight, List.length_append]
    lia
theorem close_hs_len (σ : St) (l : List Int) : (σ.close l).hs.length ≤ σ.hs.length + l.length := by
  simp only [St.close, lowOf, List.length_append]
  have := List.length_filter_le (fun i : Int => decide (i < 3)) l
  lia
theorem clean_hs_len (σ : St) (l : List Int) : (σ.clean l).hs.length = σ.hs.length + l.length := by simp [St.clean]

noncomputable def NoL (o : Obj) : Prop := o.cls ≠ .type "list" ∨ ∀ its n, o.data ≠ .seq its n
theorem NoL.ne {o : Obj} (h : NoL o) {its : Array Value} {n : Nat} : o ≠ W.listOf its n := fun e => by
  rcases h with h | h
  · exact h (by rw [e])
  · exact h its n (by rw [e])
theorem nol_ne {h₀ h : Heap} {L : Addr} {news : List (Addr × Obj)} (N : News h₀ L h news) {a b : Addr} {o : Obj} {its : Array Value} {n : Nat} (ha : (a, o) ∈ news) (hb : (b, W.listOf its n) ∈ news) (hn : NoL o) : a ≠ b := fun e => by
  subst e
  exact hn.ne (Option.some.inj ((N _ ha).1.symm.trans (N _ hb).1))
noncomputable def Cold (o : Obj) : Prop := NoL o ∧ ∀ b, ¬ MapD o b
noncomputable def Keeps (news news' : List (Addr × Obj)) : Prop := ∀ p ∈ news, Cold p.2 → p ∈ news'
theorem Keeps.refl (news : List (Addr × Obj)) : Keeps news news := fun _ h _ => h
theorem Keeps.trans {a b c : List (Addr × Obj)} (h : Keeps a b) (k : Keeps b c) : Keeps a c := fun p hp hc => k p (h p hp hc) hc
theorem Keeps.of_sub {a b : List (Addr × Obj)} (h : ∀ p ∈ a, p ∈ b) : Keeps a b := fun p hp _ => h p hp
theorem off_cold {h₀ h : Heap} {L : Addr} {news : List (Addr × Obj)} {Γ : Cfg} {σ : St} (N : News h₀ L h news) (M : Mut Γ σ news) {p : Addr × Obj} (hp : p ∈ news) (hc : Cold p.2) : Off Γ p.1 := by
  obtain ⟨⟨vs, n, hv, _⟩, hm, _⟩ := M
  refine ⟨fun e => ?_, fun r hr e => ?_⟩
  · have h1 := (N _ hp).1
    have h2 := (N _ hv).1
    rw [e] at h1
    have h3 := Option.some.inj (h1.symm.trans h2)
    exact hc.1.ne h3
  · obtain ⟨_, o, ho, hd⟩ := hm r hr
    have h1 := (N _ hp).1
    have h2 := (N _ ho).1
    rw [e] at h1
    have h3 : p.2 = o := Option.some.inj (h1.symm.trans h2)
    exact hc.2 _ (h3 ▸ hd)
theorem Stays.keeps {h₀ h : Heap} {L : Addr} {news news' : List (Addr × Obj)} {Γ : Cfg} {σ : St} (S : Stays Γ news news') (N : News h₀ L h news) (M : Mut Γ σ news) : Keeps news news' := fun p hp hc => S p hp (off_cold N M hp hc)
theorem Stays.trans {a b c : List (Addr × Obj)} {Γ : Cfg} (h : Stays Γ a b) (k : Stays Γ b c) : Stays Γ a c := fun p hp ho => k p (h p hp ho) ho
theorem Stays.refl {Γ : Cfg} (a : List (Addr × Obj)) : Stays Γ a a := fun _ h _ => h
theorem cold_inst {C dx : Addr} : Cold (instObj C dx) := by
  refine ⟨.inl fun e => ?_, fun b hb => ?_⟩
  · cases e
  · obtain ⟨_, _, e, _⟩ := hb
    have := congrArg Obj.cls e
    cases this
theorem dictOf_inj {es es1 : List DictEntry} {n n1 : Nat} (e : dictOf es n = dictOf es1 n1) : es = es1 := by
  have := congrArg Obj.data e
  simpa [dictOf] using (Data.dict.inj this).1
theorem cold_demo {o : Obj} {b c : Value} {cb cc : Bool} (h : DemoD o b c cb cc) : Cold o := by
  obtain ⟨es, n, rfl, _, _, _, _, _, _, _, _, h9⟩ := h
  refine ⟨.inl (by show Value.type "dict" ≠ Value.type "list"; decide), fun b ⟨es1, n1, e, h1, _⟩ => ?_⟩
  rw [dictOf_inj e, h1] at h9
  cases h9
end

section
open PySem PySem.W PySem.Calls PyProof.Rows Builtin
set_option Elab.async false
set_option maxRecDepth 100000
set_option maxHeartbeats 8000000
example : ∀ w : World, (hd.heap_39 w.params).In default → Challenge.rw_la0046_01.Holds → True := by k_fill; intros; trivial

noncomputable def Acts (w : World) (p : Program) (loose : List Str) (mean : ExcName → Option Value) (mg mb : Str → Option Value) (Γ : Cfg) (name : Str) (v : Value) (d c : Nat) (Pre : List (Addr × Obj) → Prop) (eff : St → St) (res : St → Value := fun _ => .none) : Prop :=
  ∀ (A : Around) (env : Env) (outer : List Env) (A₀ : Around) (base h₀ : Heap) (L : Addr) (m : Str → Option Value) (news : List (Addr × Obj)) (s : Shared) (σ : St) (pos : Pos) (pl : Sem Bool) (Q E : Value → Shared → Prop),
    A.handled = none → A.frames = some (env :: outer) → env.frame = some L → env.scope.kind = .function → A.depth + d < recursionLimit →
    Below A₀ base outer h₀ → Fr h₀ L s.heap m → (hd.heap_39 w.params).In h₀ → News h₀ L s.heap news → Top p loose mean mg mb h₀ →
    Pre news → Mut Γ σ news → σ.hs.length + c ≤ 16000000 →
    (∀ news' h' tk', Fr h₀ L h' m → News h₀ L h' news' → Stays Γ news news' → Mut Γ (eff σ) news' → Q (res σ) { s with heap := h', toks := tk' }) →
    wpAny (model Challenge.rw_la0046_01.row.prog w) A (getMethod v name pl) (fun r s' => wpAny (model Challenge.rw_la0046_01.row.prog w) A (callWith pos r.1 r.2 (backTo pos (starEach [] env)) []) Q E s') E s


section
variable {w : World} {p : Program} {loose : List Str} {mean : ExcName → Option Value} {mg mb : Str → Option Value} {Γ : Cfg} {name : Str} {v : Value} {d c : Nat} {Pre : List (Addr × Obj) → Prop} {eff : St → St} {res : St → Value}
  {A : Around} {env : Env} {outer : List Env} {A₀ : Around} {base h₀ : Heap} {L : Addr} {m : Str → Option Value} {news : List (Addr × Obj)} {s : Shared} {σ : St} {pos : Pos} {pl : Sem Bool} {Q E : Value → Shared → Prop}
example : True := by
  k_with_none
  trivial
theorem acts_use (C : Acts w p loose mean mg mb Γ name v d c Pre eff res) (hh : A.handled = none) (hA : A.frames = some (env :: outer)) (hf : env.frame = some L) (hk : env.scope.kind = .function) (hdp : A.depth + d < recursionLimit)
    (B : Below A₀ base outer h₀) (F : Fr h₀ L s.heap m) (X : (hd.heap_39 w.params).In h₀) (N : News h₀ L s.heap news) (T : Top p loose mean mg mb h₀) (hp : Pre news) (M : Mut Γ σ news) (hs : σ.hs.length + c ≤ 16000000)
    (ret : ∀ news' h' tk', Fr h₀ L h' m → News h₀ L h' news' → Stays Γ news news' → Mut Γ (eff σ) news' → Q (res σ) { s with heap := h', toks := tk' }) :
    wpAny (model Challenge.rw_la0046_01.row.prog w) A (getMethod v name pl) (fun r s' => wpAny (model Challenge.rw_la0046_01.row.prog w) A (callWith pos r.1 r.2 (backTo pos (starEach [] env)) []) Q E s') E s :=
  C A env outer A₀ base h₀ L m news s σ pos pl Q E hh hA hf hk hdp B F X N T hp M hs ret
theorem stop_acts {M : Model} {Q : Value × List Value → Shared → Prop} (_C : Acts w p loose mean mg mb Γ name v d c Pre eff res) (h : Stop (wpAny M A (getMethod v name pl) Q E s)) : wpAny M A (getMethod v name pl) Q E s := h
theorem of_stop {p : Prop} (h : p) : Stop p := h
end
example : True := by
  k_with "getMethod ref" => (refine stop_acts (by assumption) ?_)
  trivial
local macro_rules | `(tactic| k_get) => `(tactic| assumption)
theorem map_close {w : World} {p : Program} {loose : List Str} {mean : ExcName → Option Value} {mg mb : Str → Option Value} {Γ : Cfg} {r : Rec} (hr : r ∈ Γ.maps) :
    Acts w p loose mean mg mb Γ (Str.ofString "close") (.ref r.x) 10 1 (fun _ => True) (fun σ => σ.close [r.place]) := by
  intro A env outer A₀ base h₀ L m news s σ pos pl Q E hh hA hf hk hdp B F X N T _ M hsz ret
  obtain ⟨_, hm, _⟩ := id M
  obtain ⟨hx, o, ho, hD⟩ := hm r hr
  obtain ⟨es, n', rfl, h1, h2, h3, h4, h5⟩ := id hD
  refine method_inst (f := 64) F X (InstAt.of_news N hx ho) (by k_is) (by k_is) (by k_is) h2 ?_
  dsimp only
  refine callWith_K0 (by k_in) (by k_is) ?_
  dsimp only [List.nil_append, List.cons_append]
  refine wpAny_call ?_
  k_dflt (refine' code_def B F X N T hA hf hk ?k6 ?k7 ?k8 ?k9 ?kB ?_ ?c2 ?c3 ?c4 ?c5; (case k6 => k_is); (case k7 => k_is); (case k8 => lia); (case k9 => exact BindsTo.of_eq rfl); (case c5 => decide); (case kB => exact locs rfl); (case c2 => exact rfl); (case c3 => exact rfl); (case c4 => exact rfl); k_whole)
  intro g' L' h' FG' F' N' B' X' T'
  dsimp only
  k_fold
  k_steps
  refine set_dict (es' := putL _ _ _ _ es) (n' := putN _ es n') F' X' (News.perm N' (reLed_pre ho)) (InstAt.of_news N' hx ho) rfl (by k_is) (by k_is) (by k_is) (by k_is) (by rw [h1]; rfl) rfl reLed_upd (by rw [putL_len h1]; lia) ?_
  intro h2' F2 N2
  k_steps
  exact ret _ _ _ (by assumption) (by assumption) (stays_map hr) (mut_map N M hr ho rfl hD.put)
theorem map_cleanup {w : World} {p : Program} {loose : List Str} {mean : ExcName → Option Value} {mg mb : Str → Option Value} {Γ : Cfg} {r : Rec} (hr : r ∈ Γ.maps) :
    Acts w p loose mean mg mb Γ (Str.ofString "cleanup") (.ref r.x) 10 1 (fun _ => True) (fun σ => σ.clean []) := by
  intro A env outer A₀ base h₀ L m news s σ pos pl Q E hh hA hf hk hdp B F X N T _ M hsz ret
  obtain ⟨_, hm, _⟩ := id M
  obtain ⟨hx, o, ho, hD⟩ := hm r hr
  obtain ⟨es, n', rfl, h1, h2, h3, h4, h5⟩ := id hD
  refine method_inst (f := 57) F X (InstAt.of_news N hx ho) (by k_is) (by k_is) (by k_is) h3 ?_
  dsimp only
  refine callWith_K0 (by k_in) (by k_is) ?_
  dsimp only [List.nil_append, List.cons_append]
  refine wpAny_call ?_
  k_dflt (refine' code_def B F X N T hA hf hk ?k6 ?k7 ?k8 ?k9 ?kB ?_ ?c2 ?c3 ?c4 ?c5; (case k6 => k_is); (case k7 => k_is); (case k8 => lia); (case k9 => exact BindsTo.of_eq rfl); (case c5 => decide); (case kB => exact locs rfl); (case c2 => exact rfl); (case c3 => exact rfl); (case c4 => exact rfl); k_whole)
  intro g' L' h' FG' F' N' B' X' T'
  dsimp only
  k_fold
  k_steps
  exact ret _ _ _ (by assumption) (by assumption) (Stays.refl _) (by simpa only [St.clean_nil] using M)

inductive Bears (w : World) (p : Program) (loose : List Str) (mean : ExcName → Option Value) (mg mb : Str → Option Value) (aH : Addr) (maps : List Rec) (news : List (Addr × Obj)) : Value → Th → Prop where
  | leaf {a : Addr} {i : Int} (cl : List (Addr × Obj)) : (∀ q ∈ cl, q ∈ news) → (∀ q ∈ cl, Cold q.2) →
      (∀ maps', Acts w p loose mean mg mb ⟨aH, maps'⟩ (Str.ofString "close") (.ref a) 10 1 (fun news' => ∀ q ∈ cl, q ∈ news') (fun σ => σ.close [i])) →
      (∀ maps', Acts w p loose mean mg mb ⟨aH, maps'⟩ (Str.ofString "cleanup") (.ref a) 10 1 (fun news' => ∀ q ∈ cl, q ∈ news') (fun σ => σ.clean [-i])) → Bears w p loose mean mg mb aH maps news (.ref a) (.leaf i)
  | map {r : Rec} : r ∈ maps → Bears w p loose mean mg mb aH maps news (.ref r.x) (.map r.place)
  | demo {x dx : Addr} {o : Obj} {b c : Value} {cb cc : Bool} {tb tc : Th} : (x, instObj 372 dx) ∈ news → (dx, o) ∈ news → DemoD o b c cb cc →
      Bears w p loose mean mg mb aH maps news b tb → Bears w p loose mean mg mb aH maps news c tc → Bears w p loose mean mg mb aH maps news (.ref x) (.demo tb tc cb cc)
theorem Bears.mono {w : World} {p : Program} {loose : List Str} {mean : ExcName → Option Value} {mg mb : Str → Option Value} {aH : Addr} {maps maps' : List Rec} {news news' : List (Addr × Obj)} {v : Value} {t : Th}
    (h : Bears w p loose mean mg mb aH maps news v t) (k : Keeps news news') (km : ∀ r ∈ maps, r ∈ maps') : Bears w p loose mean mg mb aH maps' news' v t := by
  induction h with
  | leaf cl h1 h2 h3 h4 => exact .leaf cl (fun q hq => k q (h1 q hq) (h2 q hq)) h2 h3 h4
  | map hr => exact .map (km _ hr)
  | demo hx hd hD _ _ ib ic => exact .demo (k _ hx cold_inst) (k _ hd (cold_demo hD)) hD ib ic

theorem Bears.ref {w : World} {p : Program} {loose : List Str} {mean : ExcName → Option Value} {mg mb : Str → Option Value} {aH : Addr} {maps : List Rec} {news : List (Addr × Obj)} {v : Value} {t : Th}
    (h : Bears w p loose mean mg mb aH maps news v t) : ∃ a, v = .ref a := by cases h <;> exact ⟨_, rfl⟩

theorem bears_close {w : World} {p : Program} {loose : List Str} {mean : ExcName → Option Value} {mg mb : Str → Option Value} {aH : Addr} {maps : List Rec} {news₀ : List (Addr × Obj)} {v : Value} {t : Th}
    (h : Bears w p loose mean mg mb aH maps news₀ v t) : Acts w p loose mean mg mb ⟨aH, maps⟩ (Str.ofString "close") v (10 * (t.depth + 1)) t.weight (Keeps news₀) (fun σ => σ.close t.closed) := by
  induction h with
  | leaf cl h1 h2 h3 h4 =>
    intro A env outer A₀ base h₀ L m news s σ pos pl Q E hh hA hf hk hdp B F X N T hpre M hsz ret
    exact h3 maps A env outer A₀ base h₀ L m news s σ pos pl Q E hh hA hf hk (by simpa [Th.depth] using hdp) B F X N T (fun q hq => hpre q (h1 q hq) (h2 q hq)) M hsz ret
  | map hr =>
    intro A env outer A₀ base h₀ L m news s σ pos pl Q E hh hA hf hk hdp B F X N T hpre M hsz ret
    exact map_close hr A env outer A₀ base h₀ L m news s σ pos pl Q E hh hA hf hk (by simpa [Th.depth] using hdp) B F X N T trivial M hsz ret
  | @demo x dx o b c cb cc tb tc hx hd hD hb hc ib ic =>
    intro A env outer A₀ base h₀ L m news s σ pos pl Q E hh hA hf hk hdp B F X N T hpre M hsz ret
    obtain ⟨ab, rfl⟩ := hb.ref
    obtain ⟨ac, rfl⟩ := hc.ref
    have hx' := hpre _ hx cold_inst
    have hd' := hpre _ hd (cold_demo hD)
    obtain ⟨es, n', rfl, h1, h2, h3, h4, h5, h6, h7, h8, h9⟩ := id hD
    refine method_inst (f := 260) F X (InstAt.of_news N hx' hd') (by k_is) (by k_is) (by k_is) h5 ?_
    dsimp only
    refine callWith_K0 (by k_in) (by k_is) ?_
    dsimp only [List.nil_append, List.cons_append]
    refine wpAny_call ?_
    k_dflt (refine' code_def B F X N T hA hf hk ?k6 ?k7 ?k8 ?k9 ?kB ?_ ?c2 ?c3 ?c4 ?c5; (case k6 => k_is); (case k7 => k_is); (case k8 => lia); (case k9 => exact BindsTo.of_eq rfl); (case c5 => decide); (case kB => exact locs rfl); (case c2 => exact rfl); (case c3 => exact rfl); (case c4 => exact rfl); k_whole)
    intro g' L' h' FG' F' N' B' X' T'
    dsimp only
    k_fold
    have hwt : (Th.demo tb tc cb cc).weight = tb.weight + tc.weight := rfl
    have hdt : (Th.demo tb tc cb cc).depth = max tb.depth tc.depth + 1 := rfl
    have hlb := close_hs_len σ tb.closed
    have hlb' := tb.closed_len
    k_steps
    · refine of_stop (acts_use ib ?_ (Around.frames_deeper hA) rfl rfl ?_ B' F' X' N' T' hpre M ?_ ?_)
      · exact hh
      · show A.depth + 1 + _ < _; lia
      · lia
      intro news1 h1' tk1 F1 N1 S1 M1
      have hpre1 := hpre.trans (S1.keeps N' M)
      have hx1 := hpre1 _ hx cold_inst
      have hd1 := hpre1 _ hd (cold_demo hD)
      clear F' N' hx' hd'
      dsimp only
      k_steps
      · refine of_stop (acts_use ic ?_ (Around.frames_deeper hA) rfl rfl ?_ B' F1 X' N1 T' hpre1 M1 ?_ ?_)
        · exact hh
        · show A.depth + 1 + _ < _; lia
        · lia
        intro news2 h2' tk2 F2 N2 S2 M2
        dsimp only
        k_steps
        refine ret _ _ _ (by assumption) (by assumption) (S1.trans S2) ?_
        simp only [St.close_append] at M2
        simpa only [Th.closed, *, if_true] using M2
      · refine ret _ _ _ (by assumption) (by assumption) S1 ?_
        simpa only [Th.closed, *, if_true, if_false, List.append_nil, Bool.false_eq_true] using M1
    · refine of_stop (acts_use ic ?_ (Around.frames_deeper hA) rfl rfl ?_ B' F' X' N' T' hpre M ?_ ?_)
      · exact hh
      · show A.depth + 1 + _ < _; lia
      · lia
      intro news2 h2' tk2 F2 N2 S2 M2
      dsimp only
      k_steps
      refine ret _ _ _ (by assumption) (by assumption) S2 ?_
      simpa only [Th.closed, *, if_true, if_false, List.nil_append, Bool.false_eq_true] using M2
    · refine ret _ _ _ (by assumption) (by assumption) (Stays.refl _) ?_
      simpa only [Th.closed, *, if_false, List.nil_append, Bool.false_eq_true, St.close_nil] using M

theorem map_opened {w : World} {p : Program} {loose : List Str} {mean : ExcName → Option Value} {mg mb : Str → Option Value} {Γ : Cfg} {r : Rec} (hr : r ∈ Γ.maps) :
    Acts w p loose mean mg mb Γ (Str.ofString "opened") (.ref r.x) 10 0 (fun _ => True) (fun σ => σ) (fun σ => .bool (σ.op r.place)) := by
  intro A env outer A₀ base h₀ L m news s σ pos pl Q E hh hA hf hk hdp B F X N T _ M hsz ret
  obtain ⟨_, hm, _⟩ := id M
  obtain ⟨hx, o, ho, hD⟩ := hm r hr
  obtain ⟨es, n', rfl, h1, h2, h3, h4, h5⟩ := id hD
  refine method_inst (f := 43) F X (InstAt.of_news N hx ho) (by k_is) (by k_is) (by k_is) h4 ?_
  dsimp only
  refine callWith_K0 (by k_in) (by k_is) ?_
  dsimp only [List.nil_append, List.cons_append]
  refine wpAny_call ?_
  k_dflt (refine' code_def B F X N T hA hf hk ?k6 ?k7 ?k8 ?k9 ?kB ?_ ?c2 ?c3 ?c4 ?c5; (case k6 => k_is); (case k7 => k_is); (case k8 => lia); (case k9 => exact BindsTo.of_eq rfl); (case c5 => decide); (case kB => exact locs rfl); (case c2 => exact rfl); (case c3 => exact rfl); (case c4 => exact rfl); k_whole)
  intro g' L' h' FG' F' N' B' X' T'
  dsimp only
  k_fold
  k_steps
  exact ret _ _ _ (by assumption) (by assumption) (Stays.refl _) M

theorem bears_cleanup {w : World} {p : Program} {loose : List Str} {mean : ExcName → Option Value} {mg mb : Str → Option Value} {aH : Addr} {maps : List Rec} {news₀ : List (Addr × Obj)} {v : Value} {t : Th}
    (h : Bears w p loose mean mg mb aH maps news₀ v t) : Acts w p loose mean mg mb ⟨aH, maps⟩ (Str.ofString "cleanup") v (10 * (t.depth + 1)) t.weight (Keeps news₀) (fun σ => σ.clean t.cleaned) := by
  induction h with
  | leaf cl h1 h2 h3 h4 =>
    intro A env outer A₀ base h₀ L m news s σ pos pl Q E hh hA hf hk hdp B F X N T hpre M hsz ret
    exact h4 maps A env outer A₀ base h₀ L m news s σ pos pl Q E hh hA hf hk (by simpa [Th.depth] using hdp) B F X N T (fun q hq => hpre q (h1 q hq) (h2 q hq)) M hsz ret
  | map hr =>
    intro A env outer A₀ base h₀ L m news s σ pos pl Q E hh hA hf hk hdp B F X N T hpre M hsz ret
    exact map_cleanup hr A env outer A₀ base h₀ L m news s σ pos pl Q E hh hA hf hk (by simpa [Th.depth] using hdp) B F X N T trivial M hsz ret
  | @demo x dx o b c cb cc tb tc hx hd hD hb hc ib ic =>
    intro A env outer A₀ base h₀ L m news s σ pos pl Q E hh hA hf hk hdp B F X N T hpre M hsz ret
    obtain ⟨ab, rfl⟩ := hb.ref
    obtain ⟨ac, rfl⟩ := hc.ref
    have hx' := hpre _ hx cold_inst
    have hd' := hpre _ hd (cold_demo hD)
    obtain ⟨es, n', rfl, h1, h2, h3, h4, h5, h6, h7, h8, h9⟩ := id hD
    refine method_inst (f := 253) F X (InstAt.of_news N hx' hd') (by k_is) (by k_is) (by k_is) h6 ?_
    dsimp only
    refine callWith_K0 (by k_in) (by k_is) ?_
    dsimp only [List.nil_append, List.cons_append]
    refine wpAny_call ?_
    k_dflt (refine' code_def B F X N T hA hf hk ?k6 ?k7 ?k8 ?k9 ?kB ?_ ?c2 ?c3 ?c4 ?c5; (case k6 => k_is); (case k7 => k_is); (case k8 => lia); (case k9 => exact BindsTo.of_eq rfl); (case c5 => decide); (case kB => exact locs rfl); (case c2 => exact rfl); (case c3 => exact rfl); (case c4 => exact rfl); k_whole)
    intro g' L' h' FG' F' N' B' X' T'
    dsimp only
    k_fold
    have hwt : (Th.demo tb tc cb cc).weight = tb.weight + tc.weight := rfl
    have hdt : (Th.demo tb tc cb cc).depth = max tb.depth tc.depth + 1 := rfl
    have hlb := clean_hs_len σ tb.cleaned
    have hlb' := tb.cleaned_len
    k_steps
    refine of_stop (acts_use ib ?_ (Around.frames_deeper hA) rfl rfl ?_ B' F' X' N' T' hpre M ?_ ?_)
    · exact hh
    · show A.depth + 1 + _ < _; lia
    · lia
    intro news1 h1' tk1 F1 N1 S1 M1
    have hpre1 := hpre.trans (S1.keeps N' M)
    have hx1 := hpre1 _ hx cold_inst
    have hd1 := hpre1 _ hd (cold_demo hD)
    clear F' N' hx' hd'
    dsimp only
    k_steps
    refine of_stop (acts_use ic ?_ (Around.frames_deeper hA) rfl rfl ?_ B' F1 X' N1 T' hpre1 M1 ?_ ?_)
    · exact hh
    · show A.depth + 1 + _ < _; lia
    · lia
    intro news2 h2' tk2 F2 N2 S2 M2
    dsimp only
    k_steps
    refine ret _ _ _ (by assumption) (by assumption) (S1.trans S2) ?_
    simp only [St.clean_append] at M2
    exact M2

theorem demo_pop {w : World} {p : Program} {loose : List Str} {mean : ExcName → Option Value} {mg mb : Str → Option Value} {aH : Addr} {maps : List Rec} {news₀ : List (Addr × Obj)} {x dx : Addr} {o : Obj} {b c : Value} {cb cc : Bool} {tb tc : Th}
    (hx : (x, instObj 372 dx) ∈ news₀) (hd : (dx, o) ∈ news₀) (hD : DemoD o b c cb cc) (hb : Bears w p loose mean mg mb aH maps news₀ b tb) (hc : Bears w p loose mean mg mb aH maps news₀ c tc) :
    Acts w p loose mean mg mb ⟨aH, maps⟩ (Str.ofString "pop") (.ref x) (10 * (tc.depth + 2)) tc.weight (Keeps news₀) (fun σ => σ.close tc.closed) (fun _ => b) := by
  have ic := bears_close hc
  intro A env outer A₀ base h₀ L m news s σ pos pl Q E hh hA hf hk hdp B F X N T hpre M hsz ret
  obtain ⟨ab, rfl⟩ := hb.ref
  obtain ⟨ac, rfl⟩ := hc.ref
  have hx' := hpre _ hx cold_inst
  have hd' := hpre _ hd (cold_demo hD)
  obtain ⟨es, n', rfl, h1, h2, h3, h4, h5, h6, h7, h8, h9⟩ := id hD
  refine method_inst (f := 326) F X (InstAt.of_news N hx' hd') (by k_is) (by k_is) (by k_is) h7 ?_
  dsimp only
  refine callWith_K0 (by k_in) (by k_is) ?_
  dsimp only [List.nil_append, List.cons_append]
  refine wpAny_call ?_
  k_dflt (refine' code_def B F X N T hA hf hk ?k6 ?k7 ?k8 ?k9 ?kB ?_ ?c2 ?c3 ?c4 ?c5; (case k6 => k_is); (case k7 => k_is); (case k8 => lia); (case k9 => exact BindsTo.of_eq rfl); (case c5 => decide); (case kB => exact locs rfl); (case c2 => exact rfl); (case c3 => exact rfl); (case c4 => exact rfl); k_whole)
  intro g' L' h' FG' F' N' B' X' T'
  dsimp only
  k_fold
  k_steps
  refine of_stop (acts_use ic ?_ (Around.frames_deeper hA) rfl rfl ?_ B' F' X' N' T' hpre M ?_ ?_)
  · exact hh
  · show A.depth + 1 + _ < _; lia
  · lia
  intro news2 h2' tk2 F2 N2 S2 M2
  have hpre1 := hpre.trans (S2.keeps N' M)
  have hx1 := hpre1 _ hx cold_inst
  have hd1 := hpre1 _ hd (cold_demo hD)
  clear F' N' hx' hd'
  dsimp only
  k_steps
  exact ret _ _ _ (by assumption) (by assumption) S2 M2
end

section
open PySem PySem.W PySem.Calls PyProof.Rows Builtin
set_option Elab.async false
set_option maxRecDepth 100000
set_option maxHeartbeats 8000000
example : ∀ w : World, (hd.heap_39 w.params).In default → Challenge.rw_la0046_01.Holds → True := by k_fill; intros; trivial
noncomputable abbrev tupObj (vs : List Value) : Obj := { cls := .type "tuple", data := .seq vs.toArray }
inductive RB (rvs : List Value) (news : List (Addr × Obj)) : Int → Th → Prop where
  | leaf {p : Int} : 1 ≤ p → p < 3 → RB rvs news p (.leaf p)
  | map {p : Int} : 100 ≤ p → RB rvs news p (.map p)
  | demo {j : Nat} {tr : Addr} {b c : Int} {ub uc : Tok} {t1 t2 : Th} {cb cc : Bool} : j < 90 → rvs[j]? = some (.ref tr) → (tr, tupObj [.int b ub, .int c uc, .bool cb, .bool cc]) ∈ news → RB rvs news b t1 → RB rvs news c t2 →
      RB rvs news (3 + (j : Int)) (.demo t1 t2 cb cc)
example : True := by
  k_with_none
  trivial
theorem RB.mono {rvs rvs' : List Value} {news news' : List (Addr × Obj)} {p : Int} {t : Th} (h : RB rvs news p t) (k : ∀ q ∈ news, q.2.cls = .type "tuple" → q ∈ news') (kr : ∀ (j : Nat) (v : Value), rvs[j]? = some v → rvs'[j]? = some v) : RB rvs' news' p t := by
  induction h with
  | leaf h1 h2 => exact .leaf h1 h2
  | map h1 => exact .map h1
  | demo hj h1 h2 _ _ ib ic => exact .demo hj (kr _ _ h1) (k _ h2 rfl) ib ic

noncomputable def Reads (w : World) (p : Program) (loose : List Str) (mean : ExcName → Option Value) (mg mb : Str → Option Value) (f : Addr) (val : Th → List Int) (aR : Addr) (rvs : List Value) (news₀ : List (Addr × Obj)) (i : Int) (t : Th) : Prop :=
  ∀ (A : Around) (env : Env) (outer : List Env) (A₀ : Around) (base h₀ : Heap) (L : Addr) (m : Str → Option Value) (news : List (Addr × Obj)) (s : Shared) (nr : Nat) (u : Tok) (Q E : Value → Shared → Prop),
    A.handled = none → A.frames = some (env :: outer) → env.frame = some L → env.scope.kind = .function → A.depth + 10 * (t.depth + 1) < recursionLimit →
    Below A₀ base outer h₀ → Fr h₀ L s.heap m → (hd.heap_39 w.params).In h₀ → News h₀ L s.heap news → Top p loose mean mg mb h₀ →
    (∀ q ∈ news₀, q.2.cls = .type "tuple" → q ∈ news) → (aR, W.listOf rvs.toArray nr) ∈ news → t.weight ≤ 1000000 →
    (∀ l vs nl news' h' tk', Fr h₀ L h' m → News h₀ L h' news' → (∀ q ∈ news, q ∈ news') → (l, W.listOf vs.toArray nl) ∈ news' → IntsAre vs (val t) → Q (.ref l) { s with heap := h', toks := tk' }) →
    wpAny (model Challenge.rw_la0046_01.row.prog w) A (call (.ref f) [.ref aR, .int i u]) Q E s

section
variable {w : World} {p : Program} {loose : List Str} {mean : ExcName → Option Value} {mg mb : Str → Option Value} {f : Addr} {val : Th → List Int} {aR : Addr} {rvs : List Value} {news₀ : List (Addr × Obj)} {i : Int} {t : Th}
  {A : Around} {env : Env} {outer : List Env} {A₀ : Around} {base h₀ : Heap} {L : Addr} {m : Str → Option Value} {news : List (Addr × Obj)} {s : Shared} {nr : Nat} {u : Tok} {Q E : Value → Shared → Prop}
theorem reads_use (C : Reads w p loose mean mg mb f val aR rvs news₀ i t) (hh : A.handled = none) (hA : A.frames = some (env :: outer)) (hf : env.frame = some L) (hk : env.scope.kind = .function) (hdp : A.depth + 10 * (t.depth + 1) < recursionLimit)
    (B : Below A₀ base outer h₀) (F : Fr h₀ L s.heap m) (X : (hd.heap_39 w.params).In h₀) (N : News h₀ L s.heap news) (T : Top p loose mean mg mb h₀) (hp : ∀ q ∈ news₀, q.2.cls = .type "tuple" → q ∈ news) (hr : (aR, W.listOf rvs.toArray nr) ∈ news) (hw : t.weight ≤ 1000000)
    (ret : ∀ l vs nl news' h' tk', Fr h₀ L h' m → News h₀ L h' news' → (∀ q ∈ news, q ∈ news') → (l, W.listOf vs.toArray nl) ∈ news' → IntsAre vs (val t) → Q (.ref l) { s with heap := h', toks := tk' }) :
    wpAny (model Challenge.rw_la0046_01.row.prog w) A (call (.ref f) [.ref aR, .int i u]) Q E s :=
  C A env outer A₀ base h₀ L m news s nr u Q E hh hA hf hk hdp B F X N T hp hr hw ret
theorem stop_reads {M : Model} (_C : Reads w p loose mean mg mb f val aR rvs news₀ i t) (h : Stop (wpAny M A (call (.ref f) [.ref aR, .int i u]) Q E s)) : wpAny M A (call (.ref f) [.ref aR, .int i u]) Q E s := h
end
theorem sub_at {prog : Program} {w : World} {A : Around} {E : Value → Shared → Prop} {s : Shared} {h₀ : Heap} {L : Addr} {news : List (Addr × Obj)} {value slice : PySem.Expr} {l : Addr} {vs : List Value} {n : Nat} {k : Int} {u : Tok} {j : Nat} {v : Value} {Q : Value → Shared → Prop}
    (N : News h₀ L s.heap news) (hm : (l, W.listOf vs.toArray n) ∈ news) (hx : vs[j]? = some v) (hk : k = (j : Int)) (hj : j < 1000000) (h : Q v s)
    (hs : subscripted slice false (.ref l) (.int k u) = operate [.ref l, .int k u] (getItem (.ref l) (.int k u)) := by with_unfolding_all rfl) :
    wpAny (model prog w) A (subscriptTail value slice (.ref l) (.int k u)) Q E s := by
  have hl := News.isList N hm
  refine tail_any hl.typeIs slot_list_getitem.lookup (wpAny_getItem_list hl (by lia) (by lia) ?_ h) hs
  subst hk
  simpa using hx
example : True := by
  k_with "subscriptTail" => ((k_here; (with_reducible show wpAny _ _ (subscriptTail _ _ (Value.ref _) (Value.int _ _)) _ _ _); (refine sub_at (by k_asm) (by assumption) (by assumption) (by omega) (by omega) ?_)))
  trivial
example : True := by
  k_with "call ref" => (refine stop_reads (by assumption) ?_)
  trivial

theorem law_closed {w : World} {p : Program} {loose : List Str} {mean : ExcName → Option Value} {mg mb : Str → Option Value} {aR : Addr} {rvs : List Value} {news₀ : List (Addr × Obj)} {i : Int} {t : Th}
    (h : RB rvs news₀ i t) : Reads w p loose mean mg mb 528 Th.closed aR rvs news₀ i t := by
  induction h with
  | @leaf i h1 h2 =>
    intro A env outer A₀ base h₀ L m news s nr u Q E hh hA hf hk hdp B F X N T hpre hR hwt ret
    rcases A with ⟨ah, dp, afr, gd, un⟩
    dsimp only at hh hA hdp
    subst hh
    subst hA
    refine wpAny_call ?_
    k_dflt (refine' code_def B F X N T rfl hf hk ?k6 ?k7 ?k8 ?k9 ?kB ?_ ?c2 ?c3 ?c4 ?c5; (case k6 => k_is); (case k7 => k_is); (case k8 => dsimp only; lia); (case k9 => exact BindsTo.of_eq rfl); (case c5 => decide); (case kB => exact locs rfl); (case c2 => exact rfl); (case c3 => exact rfl); (case c4 => exact rfl); k_whole)
    intro g' L' h' FG' F' N' B' X' T'
    dsimp only
    k_fold
    k_steps
    exact ret _ [_] _ _ _ _ (by assumption) (by assumption) (fun q hq => List.mem_cons_of_mem _ hq) (List.mem_cons_self ..) (IntsAre.cons _ _ IntsAre.nil)
  | @map i h1 =>
    intro A env outer A₀ base h₀ L m news s nr u Q E hh hA hf hk hdp B F X N T hpre hR hwt ret
    rcases A with ⟨ah, dp, afr, gd, un⟩
    dsimp only at hh hA hdp
    subst hh
    subst hA
    refine wpAny_call ?_
    k_dflt (refine' code_def B F X N T rfl hf hk ?k6 ?k7 ?k8 ?k9 ?kB ?_ ?c2 ?c3 ?c4 ?c5; (case k6 => k_is); (case k7 => k_is); (case k8 => dsimp only; lia); (case k9 => exact BindsTo.of_eq rfl); (case c5 => decide); (case kB => exact locs rfl); (case c2 => exact rfl); (case c3 => exact rfl); (case c4 => exact rfl); k_whole)
    intro g' L' h' FG' F' N' B' X' T'
    dsimp only
    k_fold
    k_steps
    exact ret _ [_] _ _ _ _ (by assumption) (by assumption) (fun q hq => List.mem_cons_of_mem _ hq) (List.mem_cons_self ..) (IntsAre.cons _ _ IntsAre.nil)
  | @demo j tr b c ub uc t1 t2 cb cc hj hr htr hb hc ib ic =>
    intro A env outer A₀ base h₀ L m news s nr u Q E hh hA hf hk hdp B F X N T hpre hR hwt ret
    rcases A with ⟨ah, dp, afr, gd, un⟩
    dsimp only at hh hA hdp
    subst hh
    subst hA
    refine wpAny_call ?_
    k_dflt (refine' code_def B F X N T rfl hf hk ?k6 ?k7 ?k8 ?k9 ?kB ?_ ?c2 ?c3 ?c4 ?c5; (case k6 => k_is); (case k7 => k_is); (case k8 => dsimp only; lia); (case k9 => exact BindsTo.of_eq rfl); (case c5 => decide); (case kB => exact locs rfl); (case c2 => exact rfl); (case c3 => exact rfl); (case c4 => exact rfl); k_whole)
    intro g' L' h' FG' F' N' B' X' T'
    dsimp only
    k_fold
    have htr' := hpre _ htr rfl
    have hwt' : (Th.demo t1 t2 cb cc).weight = t1.weight + t2.weight := rfl
    have hdt : (Th.demo t1 t2 cb cc).depth = max t1.depth t2.depth + 1 := rfl
    k_steps
    · refine of_stop (reads_use ib rfl rfl rfl rfl ?_ B' (by assumption) X' (by assumption) T' hpre hR ?_ ?_)
      · show dp + 1 + _ < _; lia
      · lia
      intro l1 vs1 nl1 news1 h1 tk1 F1 N1 S1 hl1 hi1
      have hR1 := S1 _ hR
      have hpre1 : ∀ q ∈ news₀, q.2.cls = Value.type "tuple" → q ∈ news1 := fun q hq hc => S1 _ (hpre q hq hc)
      k_steps
      · refine of_stop (reads_use ic rfl rfl rfl rfl ?_ B' (by assumption) X' (by assumption) T' hpre1 hR1 ?_ ?_)
        · show dp + 1 + _ < _; lia
        · lia
        intro l2 vs2 nl2 news2 h2 tk2 F2 N2 S2 hl2 hi2
        have hl1' := S2 _ hl1
        k_steps
        have hz : t1.closed.length + t2.closed.length ≤ sizeLine := by rw [sizeLine_eq]; have := t1.closed_len; have := t2.closed_len; lia
        refine kmk_add_ints (by assumption) (by assumption) (News.isList N2 hl1') (News.isList N2 hl2) hi1 hi2 ?_ hz
        intro D us h3 F3 N3 _ hi3
        k_steps
        exact ret _ us _ _ _ _ (by assumption) (by assumption) (fun q hq => List.mem_cons_of_mem _ (S2 _ (S1 _ hq))) (List.mem_cons_self ..) (by simpa only [Th.closed, *, if_true] using hi3)
      · rename News _ _ _ _ => N2
        have hz : t1.closed.length + ([] : List Int).length ≤ sizeLine := by rw [sizeLine_eq]; have := t1.closed_len; simp only [List.length_nil]; lia
        refine kmk_add_ints (by assumption) N2 (News.isList N2 (List.mem_cons_of_mem _ hl1)) (News.isList N2 (List.mem_cons_self ..)) hi1 .nil ?_ hz
        intro D us h3 F3 N3 _ hi3
        k_steps
        exact ret _ us _ _ _ _ (by assumption) (by assumption) (fun q hq => List.mem_cons_of_mem _ (List.mem_cons_of_mem _ (S1 _ hq))) (List.mem_cons_self ..) (by simpa only [Th.closed, *, if_true, if_false, Bool.false_eq_true] using hi3)
    · rename News _ _ _ (_ :: _) => N1
      refine of_stop (reads_use ic rfl rfl rfl rfl ?_ B' (by assumption) X' N1 T' (fun q hq hc => List.mem_cons_of_mem _ (hpre q hq hc)) (List.mem_cons_of_mem _ hR) ?_ ?_)
      · show dp + 1 + _ < _; lia
      · lia
      intro l2 vs2 nl2 news2 h2 tk2 F2 N2 S2 hl2 hi2
      have hl1' := S2 _ (List.mem_cons_self ..)
      k_steps
      have hz : ([] : List Int).length + t2.closed.length ≤ sizeLine := by rw [sizeLine_eq]; have := t2.closed_len; simp only [List.length_nil]; lia
      refine kmk_add_ints (by assumption) N2 (News.isList N2 hl1') (News.isList N2 hl2) .nil hi2 ?_ hz
      intro D us h3 F3 N3 _ hi3
      k_steps
      exact ret _ us _ _ _ _ (by assumption) (by assumption) (fun q hq => List.mem_cons_of_mem _ (S2 _ (List.mem_cons_of_mem _ hq))) (List.mem_cons_self ..) (by simpa only [Th.closed, *, if_true, if_false, Bool.false_eq_true] using hi3)
    · refine ret _ [] _ _ _ _ (by assumption) (by assumption) (fun q hq => List.mem_cons_of_mem _ (List.mem_cons_of_mem _ (List.mem_cons_of_mem _ hq))) (List.mem_cons_self ..) ?_
      simpa only [Th.closed, *, if_false, Bool.false_eq_true, List.append_nil] using IntsAre.nil

theorem law_cleaned {w : World} {p : Program} {loose : List Str} {mean : ExcName → Option Value} {mg mb : Str → Option Value} {aR : Addr} {rvs : List Value} {news₀ : List (Addr × Obj)} {i : Int} {t : Th}
    (h : RB rvs news₀ i t) : Reads w p loose mean mg mb 535 Th.cleaned aR rvs news₀ i t := by
  induction h with
  | @leaf i h1 h2 =>
    intro A env outer A₀ base h₀ L m news s nr u Q E hh hA hf hk hdp B F X N T hpre hR hwt ret
    rcases A with ⟨ah, dp, afr, gd, un⟩
    dsimp only at hh hA hdp
    subst hh
    subst hA
    refine wpAny_call ?_
    k_dflt (refine' code_def B F X N T rfl hf hk ?k6 ?k7 ?k8 ?k9 ?kB ?_ ?c2 ?c3 ?c4 ?c5; (case k6 => k_is); (case k7 => k_is); (case k8 => dsimp only; lia); (case k9 => exact BindsTo.of_eq rfl); (case c5 => decide); (case kB => exact locs rfl); (case c2 => exact rfl); (case c3 => exact rfl); (case c4 => exact rfl); k_whole)
    intro g' L' h' FG' F' N' B' X' T'
    dsimp only
    k_fold
    k_steps
    exact ret _ [_] _ _ _ _ (by assumption) (by assumption) (fun q hq => List.mem_cons_of_mem _ hq) (List.mem_cons_self ..) (IntsAre.cons _ _ IntsAre.nil)
  | @map i h1 =>
    intro A env outer A₀ base h₀ L m news s nr u Q E hh hA hf hk hdp B F X N T hpre hR hwt ret
    rcases A with ⟨ah, dp, afr, gd, un⟩
    dsimp only at hh hA hdp
    subst hh
    subst hA
    refine wpAny_call ?_
    k_dflt (refine' code_def B F X N T rfl hf hk ?k6 ?k7 ?k8 ?k9 ?kB ?_ ?c2 ?c3 ?c4 ?c5; (case k6 => k_is); (case k7 => k_is); (case k8 => dsimp only; lia); (case k9 => exact BindsTo.of_eq rfl); (case c5 => decide); (case kB => exact locs rfl); (case c2 => exact rfl); (case c3 => exact rfl); (case c4 => exact rfl); k_whole)
    intro g' L' h' FG' F' N' B' X' T'
    dsimp only
    k_fold
    k_steps
    exact ret _ [] _ _ _ _ (by assumption) (by assumption) (fun q hq => List.mem_cons_of_mem _ hq) (List.mem_cons_self ..) IntsAre.nil
  | @demo j tr b c ub uc t1 t2 cb cc hj hr htr hb hc ib ic =>
    intro A env outer A₀ base h₀ L m news s nr u Q E hh hA hf hk hdp B F X N T hpre hR hwt ret
    rcases A with ⟨ah, dp, afr, gd, un⟩
    dsimp only at hh hA hdp
    subst hh
    subst hA
    refine wpAny_call ?_
    k_dflt (refine' code_def B F X N T rfl hf hk ?k6 ?k7 ?k8 ?k9 ?kB ?_ ?c2 ?c3 ?c4 ?c5; (case k6 => k_is); (case k7 => k_is); (case k8 => dsimp only; lia); (case k9 => exact BindsTo.of_eq rfl); (case c5 => decide); (case kB => exact locs rfl); (case c2 => exact rfl); (case c3 => exact rfl); (case c4 => exact rfl); k_whole)
    intro g' L' h' FG' F' N' B' X' T'
    dsimp only
    k_fold
    have htr' := hpre _ htr rfl
    have hwt' : (Th.demo t1 t2 cb cc).weight = t1.weight + t2.weight := rfl
    have hdt : (Th.demo t1 t2 cb cc).depth = max t1.depth t2.depth + 1 := rfl
    k_steps
    refine of_stop (reads_use ib rfl rfl rfl rfl ?_ B' (by assumption) X' (by assumption) T' hpre hR ?_ ?_)
    · show dp + 1 + _ < _; lia
    · lia
    intro l1 vs1 nl1 news1 h1 tk1 F1 N1 S1 hl1 hi1
    have hR1 := S1 _ hR
    have htr1 := S1 _ htr'
    have hpre1 : ∀ q ∈ news₀, q.2.cls = Value.type "tuple" → q ∈ news1 := fun q hq hc => S1 _ (hpre q hq hc)
    clear F' N'
    k_steps
    refine of_stop (reads_use ic rfl rfl rfl rfl ?_ B' (by assumption) X' (by assumption) T' hpre1 hR1 ?_ ?_)
    · show dp + 1 + _ < _; lia
    · lia
    intro l2 vs2 nl2 news2 h2 tk2 F2 N2 S2 hl2 hi2
    have hl1' := S2 _ hl1
    k_steps
    have hz : t1.cleaned.length + t2.cleaned.length ≤ sizeLine := by rw [sizeLine_eq]; have := t1.cleaned_len; have := t2.cleaned_len; lia
    refine kmk_add_ints (by assumption) (by assumption) (News.isList N2 hl1') (News.isList N2 hl2) hi1 hi2 ?_ hz
    intro D us h3 F3 N3 _ hi3
    k_steps
    exact ret _ us _ _ _ _ (by assumption) (by assumption) (fun q hq => List.mem_cons_of_mem _ (S2 _ (S1 _ hq))) (List.mem_cons_self ..) hi3
end

section
open PySem PySem.W PySem.Calls PyProof.Rows Builtin
set_option Elab.async false
set_option maxRecDepth 100000
set_option maxHeartbeats 8000000
noncomputable def OwnEnd (h₀ : Heap) (L : Addr) (s₁ : Shared) (I : Addr) (oI : Obj) (J : (Str → Option Value) → List (Addr × Obj) → Prop) (s₂ : Shared) : Prop :=
  ∃ h' tk m' news', s₂ = { s₁ with heap := h', toks := tk } ∧ Fr h₀ L h' m' ∧ News h₀ L h' ((I, oI) :: news') ∧ (∀ p ∈ news', p.1 ≠ I) ∧ J m' news'
noncomputable def OwnPost (h₀ : Heap) (L : Addr) (s₁ : Shared) (I : Addr) (oI : Obj) (J : (Str → Option Value) → List (Addr × Obj) → Prop) (Q : Flow → Shared → Prop) (f : Flow) (s₂ : Shared) : Prop :=
  match f with
  | .ret v => Q (.ret v) s₂
  | .brk => Q .next s₂
  | _ => OwnEnd h₀ L s₁ I oI J s₂
noncomputable def OwnAt (prog : Program) (w : World) (A : Around) (h₀ : Heap) (env : Env) (target : PySem.Expr) (body : List Stmt) (Q : Flow → Shared → Prop) (E : Value → Shared → Prop) (it : Value) (s₂ : Shared) : Prop :=
  ∃ (I : Addr) (fp : List Addr) (n : Nat) (P : Nat → Value → Prop) (St : Nat → Heap → Prop) (m : Str → Option Value) (news : List (Addr × Obj)) (J : Nat → (Str → Option Value) → List (Addr × Obj) → Prop),
    it = .ref I ∧ Walks prog w A I fp [I] n P St ∧ h₀.get? I = none ∧ I ≠ env.locals ∧ (∀ b ∈ fp, b = I ∨ ∃ o, ∀ i m news, J i m news → (b, o) ∈ news) ∧ St 0 s₂.heap ∧ (∃ o, s₂.heap.get? I = some o) ∧
    Fr h₀ env.locals s₂.heap m ∧ News h₀ env.locals s₂.heap news ∧ (∀ p ∈ news, p.1 ≠ I) ∧ J 0 m news ∧
    (∀ i h h', St i h → St (i + 1) h' → (∃ o, h.get? I = some o) → ∃ o, h'.get? I = some o) ∧
    (∀ i v m₁ news₁ h tk oI, i < n → P i v → J i m₁ news₁ → (∀ p ∈ news₁, p.1 ≠ I) → Fr h₀ env.locals h m₁ → News h₀ env.locals h ((I, oI) :: news₁) →
      wpAny (model prog w) A (assign target env v) (fun _ s₃ => wpAny (model prog w) A (execs body env) (OwnPost h₀ env.locals { s₂ with heap := h, toks := tk } I oI (J (i + 1)) Q) E s₃) E { s₂ with heap := h, toks := tk }) ∧
    ∀ h' tk m' news', Fr h₀ env.locals h' m' → News h₀ env.locals h' news' → J n m' news' → Q .next { s₂ with heap := h', toks := tk }

theorem For_own {prog : Program} {w : World} {A : Around} {E : Value → Shared → Prop} {s : Shared} {env : Env} {h₀ : Heap} {Q : Flow → Shared → Prop} {x : Str} {px pos : Pos} {iter : PySem.Expr} {body : List Stmt} {m : Str → Option Value} (_F : Fr h₀ env.locals s.heap m)
    (h : wpAny (model prog w) A (eval iter env) (fun xv s₁ => wpAny (model prog w) A (pyIter xv) (fun it s₂ => OwnAt prog w A h₀ env (.Name x px) body Q E it s₂) E s₁) E s)
    (hs : ∀ x, foldedSetIterable iter env x = pure x := by intro _; rfl)
    (hE : PassesOwn (model prog w) A env E := by passes_own) :
    wpAny (model prog w) A (exec (.For (.Name x px) iter body [] pos) env) Q E s := by
  refine wpAny_For (wpAny_mono h (fun xv s₁ h₁ => wpAny_mono h₁ (fun it s₂ h₂ => ?_) fun _ _ e => e) fun _ _ e => e) hs
  obtain ⟨I, fp, n, P, St, m, news, J, rfl, W, hI0, hIL, hfp, hst, hIo, F, N, hnI, hJ, hIon, turn, done⟩ := h₂
  refine codeAny_forLoop_any
    (fun k s' => ∃ h' tk m' news' i, s' = { s₂ with heap := h', toks := tk } ∧ St i h' ∧ (∃ o, h'.get? I = some o) ∧ Fr h₀ env.locals h' m' ∧ News h₀ env.locals h' news' ∧ (∀ p ∈ news', p.1 ≠ I) ∧ J i m' news' ∧ i ≤ n ∧ k = n + 1 - i) ?_ (n + 1)
    ⟨s₂.heap, s₂.toks, m, news, 0, rfl, hst, hIo, F, N, hnI, hJ, Nat.zero_le _, rfl⟩
  rintro k s' ⟨h', tk, m', news', i, rfl, hst', hIo', F', N', hn', hJ', hi, rfl⟩
  have next : ∀ h₁ : Heap, (∀ b o, b ∉ [I] → h'.get? b = some o → h₁.get? b = some o) → Fr h₀ env.locals h₁ m' ∧ News h₀ env.locals h₁ news' := fun h₁ hk₁ => by
    refine ⟨⟨F'.ns.at' fun o e => hk₁ _ o (by simpa using Ne.symm hIL) e, fun b o e => hk₁ b o (fun hb => ?_) (F'.keep b o e), F'.above⟩, fun p hp => ⟨hk₁ _ _ (by simpa using hn' p hp) (N' p hp).1, (N' p hp).2⟩⟩
    rw [List.mem_singleton.mp hb, hI0] at e; cases e
  by_cases hlt : i < n
  · refine W.item i _ _ _ hlt hst' fun v h₁ tk₁ hP hst₁ hk₁ => ?_
    obtain ⟨F₁, N₁⟩ := next h₁ hk₁
    obtain ⟨oI, hoI⟩ := hIon i h' h₁ hst' hst₁ hIo'
    refine wpAny_pure ?_
    have N₂ : News h₀ env.locals h₁ ((I, oI) :: news') := fun p hp => by
      rcases List.mem_cons.mp hp with rfl | hp
      · exact ⟨hoI, hIL, hI0⟩
      · exact N₁ p hp
    refine wpAny_passesOwn hE (wpAny_mono (turn i v m' news' h₁ tk₁ oI hlt hP hJ' hn' F₁ N₂) (fun _ s₃ h₃ => ?_) fun _ _ e => e)
    refine wpAny_passesOwn hE (wpAny_mono h₃ (fun f s₄ h₄ => ?_) fun _ _ e => e)
    have fin : OwnEnd h₀ env.locals { s₂ with heap := h₁, toks := tk₁ } I oI (J (i + 1)) s₄ → ∃ m_1, m_1 < n + 1 - i ∧ ∃ h' tk m' news' i', s₄ = { s₂ with heap := h', toks := tk } ∧ St i' h' ∧ (∃ o, h'.get? I = some o) ∧ Fr h₀ env.locals h' m' ∧ News h₀ env.locals h' news' ∧ (∀ p ∈ news', p.1 ≠ I) ∧ J i' m' news' ∧ i' ≤ n ∧ m_1 = n + 1 - i' := by
      rintro ⟨h₄', tk₄, m₄, news₄, rfl, F₄, N₄, hn₄, hJ₄⟩
      have hI4 := (N₄ _ (List.mem_cons_self ..)).1
      refine ⟨n + 1 - (i + 1), by omega, h₄', tk₄, m₄, news₄, i + 1, rfl, W.frame _ _ _ hst₁ fun b hb o e => ?_, ⟨_, hI4⟩, F₄, fun p hp => N₄ p (List.mem_cons_of_mem _ hp), hn₄, hJ₄, hlt, rfl⟩
      rcases hfp b hb with rfl | ⟨ob, hob⟩
      · rw [hoI] at e; rw [← e]; exact hI4
      · have h1 := (N₁ _ (hob _ _ _ hJ')).1
        have h2 := (N₄ _ (List.mem_cons_of_mem _ (hob _ _ _ hJ₄))).1
        rw [h1] at e; rw [← e]; exact h2
    cases f with
    | ret v => exact h₄
    | brk => exact h₄
    | next => exact fin h₄
    | cont => exact fin h₄
  · have hin : i = n := by omega
    subst hin
    refine W.done _ _ _ hst' fun h₁ tk₁ hk₁ => wpAny_execs_nil ?_
    obtain ⟨F₁, N₁⟩ := next h₁ hk₁
    exact done h₁ tk₁ m' news' F₁ N₁ hJ'

section
variable {prog : Program} {w : World} {A : Around} {E : Value → Shared → Prop} {s : Shared} {env : Env} {h₀ : Heap} {target : PySem.Expr} {body : List Stmt} {Q : Flow → Shared → Prop}
theorem own_range {r : Addr} {a₀ b₀ : Int} {t₀ u₀ v₀ : Tok} {n : Nat} {m₀ : Str → Option Value} {news : List (Addr × Obj)} (J : Nat → (Str → Option Value) → List (Addr × Obj) → Prop)
    (hh : A.handled = none) (hr : IsRange s.heap r a₀ b₀ 1 t₀ u₀ v₀) (hsmall : Builtin.Range.small a₀ b₀ 1 = true) (hn : Builtin.Range.rangeSize a₀ b₀ 1 = (n : Int)) (F : Fr h₀ env.locals s.heap m₀) (N : News h₀ env.locals s.heap news) (hJ : J 0 m₀ news)
    (turn : ∀ I i t m₁ news₁ h tk oI, i < n → J i m₁ news₁ → (∀ p ∈ news₁, p.1 ≠ I) → Fr h₀ env.locals h m₁ → News h₀ env.locals h ((I, oI) :: news₁) →
      wpAny (model prog w) A (assign target env (.int (a₀ + (i : Int)) t)) (fun _ s₃ => wpAny (model prog w) A (execs body env) (OwnPost h₀ env.locals { s with heap := h, toks := tk } I oI (J (i + 1)) Q) E s₃) E { s with heap := h, toks := tk })
    (done : ∀ h' tk m' news', Fr h₀ env.locals h' m' → News h₀ env.locals h' news' → J n m' news' → Q .next { s with heap := h', toks := tk }) :
    wpAny (model prog w) A (pyIter (.ref r)) (fun it s₂ => OwnAt prog w A h₀ env target body Q E it s₂) E s := by
  refine wpAny_pyIter_range hr hsmall ?_
  have W := Walks.range (prog := prog) (w := w) hh s.heap.objs.size a₀ 1 n
  have W' : Walks prog w A s.heap.objs.size [s.heap.objs.size] [s.heap.objs.size] n (fun i v => ∃ t, v = .int (a₀ + (i : Int)) t) (fun i h => IsRangeIter h s.heap.objs.size (a₀ + (i : Nat) * 1) ((n : Int) - (i : Nat)) 1) := by
    simpa only [Int.mul_one] using W
  have hnew := next_is_new F
  refine ⟨_, _, n, _, _, m₀, news, fun i m nw => J i m nw, rfl, W', hnew, ?_, fun b hb => .inl (List.mem_singleton.mp hb), (by show IsRangeIter _ _ _ _ _; rw [hn]; simpa using Heap.get?_push_size _ rfl), ⟨_, Heap.get?_push_size _ rfl⟩, F.push _, (fun p hp => ⟨Heap.get?_push_of_some _ (N p hp).1, (N p hp).2⟩), ?_, hJ, ?_, ?_, ?_⟩
  · exact fun e => absurd F.ns.lt (e ▸ Nat.lt_irrefl _)
  · exact fun p hp e => absurd (Heap.lt_size (N p hp).1) (e ▸ Nat.lt_irrefl _)
  · intro i h h' _ h2 _; exact ⟨_, h2⟩
  · rintro i v m₁ news₁ h tk oI hlt ⟨t, rfl⟩ hJ1 hn1 F1 N1
    exact turn _ i t m₁ news₁ h tk oI hlt hJ1 hn1 F1 N1
  · intro h' tk m' news' F' N' hJ'
    exact done h' tk m' news' F' N' hJ'

theorem own_list {l : Addr} {vs : List Value} {nl : Nat} {m₀ : Str → Option Value} {news : List (Addr × Obj)} (J : Nat → (Str → Option Value) → List (Addr × Obj) → Prop)
    (hh : A.handled = none) (F : Fr h₀ env.locals s.heap m₀) (N : News h₀ env.locals s.heap news) (hJ : J 0 m₀ news) (hl : ∀ i m nw, J i m nw → (l, W.listOf vs.toArray nl) ∈ nw)
    (turn : ∀ I i v m₁ news₁ h tk oI, vs[i]? = some v → J i m₁ news₁ → (∀ p ∈ news₁, p.1 ≠ I) → Fr h₀ env.locals h m₁ → News h₀ env.locals h ((I, oI) :: news₁) →
      wpAny (model prog w) A (assign target env v) (fun _ s₃ => wpAny (model prog w) A (execs body env) (OwnPost h₀ env.locals { s with heap := h, toks := tk } I oI (J (i + 1)) Q) E s₃) E { s with heap := h, toks := tk })
    (done : ∀ h' tk m' news', Fr h₀ env.locals h' m' → News h₀ env.locals h' news' → J vs.length m' news' → Q .next { s with heap := h', toks := tk }) :
    wpAny (model prog w) A (pyIter (.ref l)) (fun it s₂ => OwnAt prog w A h₀ env target body Q E it s₂) E s := by
  have hls : s.heap.IsList l vs.toArray := News.isList N (hl _ _ _ hJ)
  refine wpAny_pyIter_list hls ?_
  have hne : l ≠ s.heap.objs.size := Nat.ne_of_lt (Heap.lt_size (N _ (hl _ _ _ hJ)).1)
  have W := Walks.list (prog := prog) (w := w) hh s.heap.objs.size l hne vs.toArray
  have hnew := next_is_new F
  refine ⟨_, _, _, _, _, m₀, news, fun i m nw => J i m nw, rfl, W, hnew, ?_, ?_, ⟨⟨_, Heap.get?_push_size _ rfl, rfl, rfl⟩, hls.push _⟩, ⟨_, Heap.get?_push_size _ rfl⟩, F.push _, (fun p hp => ⟨Heap.get?_push_of_some _ (N p hp).1, (N p hp).2⟩), ?_, hJ, ?_, ?_, ?_⟩
  · exact fun e => absurd F.ns.lt (e ▸ Nat.lt_irrefl _)
  · intro b hb
    rcases List.mem_cons.mp hb with rfl | hb
    · exact .inl rfl
    · exact .inr ⟨_, fun i m nw hj => (List.mem_singleton.mp hb) ▸ hl i m nw hj⟩
  · exact fun p hp e => absurd (Heap.lt_size (N p hp).1) (e ▸ Nat.lt_irrefl _)
  · intro i h h' _ h2 _; exact ⟨_, h2.1.choose_spec.1⟩
  · rintro i v m₁ news₁ h tk oI hlt hv hJ1 hn1 F1 N1
    exact turn _ i v m₁ news₁ h tk oI (by simpa using hv) hJ1 hn1 F1 N1
  · intro h' tk m' news' F' N' hJ'
    exact done h' tk m' news' F' N' (by simpa using hJ')
end
end

section
open PySem PySem.W PySem.Calls PyProof.Rows Builtin
set_option Elab.async false
set_option maxRecDepth 100000
set_option maxHeartbeats 8000000
noncomputable def lawDef : Stmt := (Challenge.rw_la0046_01.row.prog.main.body.getLast?).getD (.Pass ⟨0,0,0,0⟩)
noncomputable def lawBody : List Stmt := match lawDef with | .FunctionDef (body := b) .. => b | _ => []
noncomputable def lawScope : Scope := match lawDef with | .FunctionDef (scope := b) .. => b | _ => { kind := .module, names := [], isGenerator := false, isCoroutine := false, more := [] }
noncomputable def stmtAt (l : List Stmt) (i : Nat) : Stmt := (l[i]?).getD (.Pass ⟨0,0,0,0⟩)
noncomputable def bodyOf : Stmt → List Stmt
  | .For _ _ b _ _ => b
  | .If _ b _ _ => b
  | _ => []
noncomputable def turn1Body : List Stmt := bodyOf (stmtAt lawBody 5)
noncomputable def turn2Body : List Stmt := bodyOf (stmtAt lawBody 9)
noncomputable abbrev lawEnv (L fa : Addr) (cd : Value) : Env := envOfC (Str.ofString "law") lawScope L fa cd


noncomputable def p1A : List Stmt := match turn1Body with | a :: b :: c :: d :: e :: _ => [a, b, c, d, e] | _ => []
noncomputable def p1B : List Stmt := match turn1Body with | _ :: _ :: _ :: _ :: _ :: a :: _ => [a] | _ => []
noncomputable def p1C : List Stmt := match turn1Body with | _ :: _ :: _ :: _ :: _ :: _ :: a :: b :: _ => [a, b] | _ => []
noncomputable def p1D : List Stmt := match turn1Body with | _ :: _ :: _ :: _ :: _ :: _ :: _ :: _ :: a :: _ => [a] | _ => []
noncomputable def p1E : List Stmt := match turn1Body with | _ :: _ :: _ :: _ :: _ :: _ :: _ :: _ :: _ :: a :: _ => [a] | _ => []
noncomputable def p1F : List Stmt := match turn1Body with | _ :: _ :: _ :: _ :: _ :: _ :: _ :: _ :: _ :: _ :: a :: b :: _ => [a, b] | _ => []
theorem turn1_parts : turn1Body = p1A ++ (p1B ++ (p1C ++ (p1D ++ (p1E ++ p1F)))) := by kernel_rfl

theorem lt_raw {news : List (Addr × Obj)} {d : Addr} {p : Addr × Obj} (h : ∀ q ∈ news, q.1 < d) (hm : p ∈ news) : p.1 < d := h p hm

theorem execs_app_wp {M : Model} {Γ : Ctx} {env : Env} {Q : Flow → Pos → Shared → Prop} {E : Value → Pos → Shared → Prop} {b : List Stmt} : ∀ {a : List Stmt} {p : Pos} {s : Shared},
    Sem.wp M Γ (execs a env) (fun f p' s' => match f with | .next => Sem.wp M Γ (execs b env) Q E p' s' | f => Q f p' s') E p s → Sem.wp M Γ (execs (a ++ b) env) Q E p s
  | [], p, s, h => by
    have e : execs [] env = (pure .next : Sem Flow) := by unfold execs; rfl
    rw [e, Sem.wp_pure'] at h
    exact h
  | x :: r, p, s, h => by
    rw [List.cons_append]
    rw [execs_cons, Sem.wp_bind'] at h ⊢
    refine Sem.wp_mono M Γ _ (fun f p' s' h' => ?_) (fun _ _ _ h' => h') _ _ h
    cases f with
    | next => exact execs_app_wp h'
    | brk => exact h'
    | cont => exact h'
    | ret v => exact h'
theorem execs_app {M : Model} {A : Around} {E : Value → Shared → Prop} {env : Env} {Q : Flow → Shared → Prop} {a b : List Stmt} {s : Shared}
    (h : wpAny M A (execs a env) (fun f s' => match f with | .next => wpAny M A (execs b env) Q E s' | f => Q f s') E s) : wpAny M A (execs (a ++ b) env) Q E s := fun Γ p hΓ => by
  refine execs_app_wp (Sem.wp_mono M Γ _ (fun f p' s' h' => ?_) (fun _ _ _ h' => h') _ _ (h Γ p hΓ))
  cases f with
  | next => exact h' Γ p' hΓ
  | brk => exact h'
  | cont => exact h'
  | ret v => exact h'
section
variable {prog : Program} {w : World} {A : Around} {E : Value → Shared → Prop} {s : Shared} {h₀ : Heap} {L : Addr} {news : List (Addr × Obj)}
theorem len_at {l : Addr} {vs : List Value} {n k : Nat} {Q : Value → Shared → Prop} (N : News h₀ L s.heap news) (hm : (l, W.listOf vs.toArray n) ∈ news) (hl : vs.length = k) (hk : k ≤ 1000000) (h : Q (.int (k : Int) (s.toks + 1)) { s with toks := s.toks + 1 + 1 }) :
    wpAny (model prog w) A (call (.builtin "len") [.ref l]) Q E s := by
  have e : vs.toArray.size = k := by simpa using hl
  refine len_list (News.isList N hm) (by rw [e]; lia) ?_
  rw [e]; exact h
theorem fmod_range (x : Int) {k : Int} (hk : 0 < k) : 0 ≤ Int.fmod x k ∧ Int.fmod x k < k := ⟨Int.fmod_nonneg_of_pos _ hk, Int.fmod_lt_of_pos _ hk⟩
noncomputable def flagV : Option Bool → Value
  | none => .none
  | some b => .bool b
theorem sub_flag {value slice : PySem.Expr} {l : Addr} {n : Nat} {x : Int} {u : Tok} {Q : Value → Shared → Prop}
    (N : News h₀ L s.heap news) (hm : (l, W.listOf (List.toArray [.none, .bool true, .bool false]) n) ∈ news) (h : ∀ f, Q (flagV f) s)
    (hs : subscripted slice false (.ref l) (.int (Int.fmod x 3) u) = operate [.ref l, .int (Int.fmod x 3) u] (getItem (.ref l) (.int (Int.fmod x 3) u)) := by with_unfolding_all rfl) :
    wpAny (model prog w) A (subscriptTail value slice (.ref l) (.int (Int.fmod x 3) u)) Q E s := by
  obtain ⟨h0, h3⟩ := fmod_range x (k := 3) (by lia)
  have hk : Int.fmod x 3 = (((Int.fmod x 3).toNat : Nat) : Int) := by lia
  have hj : (Int.fmod x 3).toNat = 0 ∨ (Int.fmod x 3).toNat = 1 ∨ (Int.fmod x 3).toNat = 2 := by lia
  rcases hj with hj | hj | hj
  · exact sub_at N hm (j := 0) (v := .none) rfl (by lia) (by lia) (h none) hs
  · exact sub_at N hm (j := 1) (v := .bool true) rfl (by lia) (by lia) (h (some true)) hs
  · exact sub_at N hm (j := 2) (v := .bool false) rfl (by lia) (by lia) (h (some false)) hs
noncomputable def Pick (vs : List Value) (k : Int) (v : Value) : Prop := ∃ j : Nat, vs[j]? = some v ∧ k = (j : Int) ∧ j < 1000000
theorem sub_pick {value slice : PySem.Expr} {l : Addr} {vs : List Value} {n : Nat} {k : Int} {u : Tok} {v : Value} {Q : Value → Shared → Prop}
    (N : News h₀ L s.heap news) (hm : (l, W.listOf vs.toArray n) ∈ news) (hx : Pick vs k v) (h : Q v s)
    (hs : subscripted slice false (.ref l) (.int k u) = operate [.ref l, .int k u] (getItem (.ref l) (.int k u)) := by with_unfolding_all rfl) :
    wpAny (model prog w) A (subscriptTail value slice (.ref l) (.int k u)) Q E s := by
  obtain ⟨j, h1, h2, h3⟩ := hx
  exact sub_at N hm h1 h2 h3 h hs
theorem sub_lit {value slice : PySem.Expr} {l : Addr} {vs : List Value} {n : Nat} {k : Int} {u : Tok} {v : Value} {Q : Value → Shared → Prop}
    (N : News h₀ L s.heap news) (hm : (l, W.listOf vs.toArray n) ∈ news) (h0 : 0 ≤ k) (h1 : k < 1000000) (hx : vs[k.toNat]? = some v) (h : Q v s)
    (hs : subscripted slice false (.ref l) (.int k u) = operate [.ref l, .int k u] (getItem (.ref l) (.int k u)) := by with_unfolding_all rfl) :
    wpAny (model prog w) A (subscriptTail value slice (.ref l) (.int k u)) Q E s :=
  sub_at N hm hx (by lia) (by lia) h hs
end
section
variable {M : Model} {A : Around} {E : Value → Shared → Prop} {s : Shared} {h₀ : Heap} {L a : Addr} {m : Str → Option Value} {cn : Str} {cs : Scope} {ccd : Value} {cl : List (Str × Addr)} {x : Str} {v : Value} {Q : Value → Shared → Prop} {news : List (Addr × Obj)} {c : Addr} {o : Obj}
theorem loadX_L (F : Fr h₀ L s.heap m) (hv : m x = some v) (h : Q v s) (hk : cs.kind = .function := by rfl) (hx : (envX cn cs L a ccd cl).kindOf x = some .local := by rfl) : wpAny M A (loadName (envX cn cs L a ccd cl) x) Q E s :=
  wpAny_loadName_local hk hx F.ns hv h
theorem loadX_C (N : News h₀ L s.heap news) (hc : cl.lookup x = some c) (hm : (c, o) ∈ news) (hd : o.data = .cell (some v)) (h : Q v s)
    (hk : cs.kind = .function := by rfl) (hx : (envX cn cs L a ccd cl).kindOf x = some .cell := by rfl) : wpAny M A (loadName (envX cn cs L a ccd cl) x) Q E s := wpAny_loadName_cell hk hx hc ⟨o, N.get hm, hd⟩ h
end
section
variable {prog : Program} {w : World} {A : Around} {E : Value → Shared → Prop} {s : Shared} {h₀ : Heap} {L : Addr} {m : Str → Option Value} {news news' : List (Addr × Obj)}
theorem iadd_road {a b : Addr} {Q : Value → Shared → Prop} (ha : s.TypeIs (.ref a) "list") (hb : s.TypeIs (.ref b) "list") (hc : wpAny (model prog w) A (call (.builtin "list.__iadd__") [.ref a, .ref b]) Q E s) :
    wpAny (model prog w) A (inplaceOp .Add (.ref a) (.ref b)) Q E s := by
  unfold inplaceOp
  refine wpAny_holding ?_
  have hsq : isSeqSlot (some (.builtin "list.__iadd__")) = true := by decide +kernel
  have hfi : fillsInplaceSlot (.type "list") "add" (Operator.Add == .Add) = pure false := by
    unfold fillsInplaceSlot
    show (typeLookup (.type "list") (dunderI "add") >>= fun fi => pure (fi.isSome && !isSeqSlot fi)) = pure false
    rw [F.slot_list_iadd.lookup]
    simp only [pure_bind, hsq]; rfl
  have hsi : seqSlot? (.type "list") (dunderI "add") = pure (some (.builtin "list.__iadd__")) := PySem.seqSlot_of F.slot_list_iadd.lookup hsq
  refine wpAny_bind (wpAny_typeOf ha (wpAny_bind (wpAny_of_eq hfi ?_)))
  show wpAny _ A (if false = true then _ else _) Q E s
  rw [if_neg Bool.false_ne_true]
  refine wpAny_bind (wpAny_binaryOp1_none (nm := "add") ha hb noFill_list_add ?_)
  refine wpAny_bind (wpAny_of_eq hsi ?_)
  exact wpAny_bind (wpAny_rule hc)
theorem iadd_K {a b : Addr} {its its2 : Array Value} {n n2 : Nat} {Q : Value → Shared → Prop} (F : Fr h₀ L s.heap m) (N : News h₀ L s.heap news) (U : Upd a (W.listOf its n) (W.listOf (its ++ its2) (if (its ++ its2).size == its.size then n else n + 1)) news news') (hb : (b, W.listOf its2 n2) ∈ news)
    (h : ∀ h', Fr h₀ L h' m → News h₀ L h' news' → Q (.ref a) { s with heap := h' }) (hsz : its.size + its2.size ≤ 1000000) : wpAny (model prog w) A (inplaceOp .Add (.ref a) (.ref b)) Q E s := by
  obtain ⟨pre, post, rfl, rfl, c, d⟩ := U.split
  have z := N (a, W.listOf its n) (List.mem_append.mpr (.inr (.head _)))
  have y := N _ hb
  refine iadd_road ⟨_, z.1, rfl⟩ ⟨_, y.1, rfl⟩ ?_
  obtain ⟨F', N'⟩ := news_upd F N c d (f := Obj.mapSeq fun x => x ++ its2) (o' := W.listOf (its ++ its2) (if (its ++ its2).size == its.size then n else n + 1)) rfl rfl
  refine call_meets PySem.F.slot_list_iadd ⟨_, z.1, rfl⟩ PySem.F.entry_list_iadd (PySem.F.args_list_iadd_2 _ _) (AutoSeq1.list___iadd___list_list_0 a its n b its2 n2 ?_ ?_ ?_) ⟨z.1, y.1, h _ F' N'⟩
  · simp only [Builtin.List.listTooLong, sizeLine_eq]
    simp only [Bool.and_eq_true, decide_eq_true_eq, not_and]
    intro _; lia
  · rw [sizeLine_eq]; lia
  · rw [sizeLine_eq]; lia
end
end

section
open PySem PySem.W PySem.Calls PyProof.Rows Builtin
set_option Elab.async false
set_option maxRecDepth 100000
set_option maxHeartbeats 8000000
example : ∀ w : World, (hd.heap_39 w.params).In default → Challenge.rw_la0046_01.Holds → True := by k_fill; intros; trivial
example : True := by
  k_with_none
  trivial
local macro_rules | `(tactic| k_lt $h:ident) => `(tactic| (have kRaw := $h; replace $h := allLt_of $h; simp only [AllLt, and_true] at $h:ident))
local macro_rules | `(tactic| k_all) => `(tactic| (intro q hq; exact Nat.ne_of_lt (lt_raw (by assumption) (by k_ownIn))))
example : True := by
  k_with "eval Name" => ((k_here; k_dflt (refine' nameX_L ?F ?v ?_ ?a ?b; (case F => k_asm); (case a => rfl); (case b => rfl); (case v => assumption); k_whole)))
  trivial
example : True := by
  k_with "call builtin:len" => ((k_here; (with_reducible show wpAny _ _ (call (Value.builtin "len") [Value.ref _]) _ _ _); (refine len_at (by k_asm) (by k_mem) (by assumption) (by omega) ?_)))
  trivial
example : True := by
  k_with "subscriptTail" => ((k_here; (with_reducible show wpAny _ _ (subscriptTail _ _ (Value.ref _) (Value.int (Int.fmod _ 3) _)) _ _ _); (refine sub_flag (by k_asm) (by k_mem) (fun fl' => ?_))))
  trivial
local macro_rules | `(tactic| k_allIn) => `(tactic| (intro p hp; k_ownIn))
theorem part1A {w : World} {p : Program} {loose : List Str} {mean : ExcName → Option Value} {mg mb : Str → Option Value} {h₀ : Heap} {L fa : Addr} {cd : Value} {s : Shared} {lS aT : Addr} {tvs svs : List Value} {nt : Nat} {ns : List Int} {of ok : Obj} {own : List (Addr × Obj)} {m : Str → Option Value} {i : Nat} {t : Tok} {px : Pos} {Q : Flow → Shared → Prop} {E : Value → Shared → Prop} {zf zk : Option Value}
    (X : (hd.heap_39 w.params).In h₀) (T : Top p loose mean mg mb h₀) (B : Below callerA h₀ [] h₀) (hS : h₀.IsList lS svs.toArray) (hI : IntsAre svs ns) (hlen : ns.length ≤ 63) (hi : i < 4)
    (F : Fr h₀ L s.heap m) (hm1 : m (Str.ofString "things") = some (.ref aT)) (hm2 : m (Str.ofString "script") = some (.ref lS))
    (N : News h₀ L s.heap ((aT, W.listOf tvs.toArray nt) :: (L + 1 + 1, of) :: (L + 1, ok) :: own))
    (hf : of.data = .cell zf) (hk : ok.data = .cell zk)
    (o1 : @LT.lt Nat _ (L + 1 + 1) aT) (hoff : OwnOff own [aT, L + 1 + 1, L + 1])
    (htl : tvs.length = 3 + i)
    (ret : ∀ {b c : Int} {f0 f1 : Option Bool} {lf : Addr} {h' : Heap} {tk' : Nat} {m' : Str → Option Value} {of' ok' : Obj} {tb tc tk : Tok}, Fr h₀ L h' m' → of'.data = .cell (some (.ref lf)) → ok'.data = .cell (some (.int (0 + (i : Int)) tk)) → m' (Str.ofString "base") = some (.int b tb) → m' (Str.ofString "changes") = some (.int c tc) →
      News h₀ L h' ((lf, W.listOf (List.toArray [flagV f0, flagV f1]) 0) :: (aT, W.listOf tvs.toArray nt) :: (L + 1 + 1, of') :: (L + 1, ok') :: own) → (∀ q ∈ own, q.1 < lf) → @LT.lt Nat _ aT lf →
      0 ≤ b → b < ((3 + i : Nat) : Int) → 0 ≤ c → c < ((3 + i : Nat) : Int) →
      (∀ x, x ≠ Str.ofString "base" → x ≠ Str.ofString "changes" → x ≠ Str.ofString "size" → x ≠ Str.ofString "drawn" → m' x = m x) → Q .next { s with heap := h', toks := tk' }) :
    wpAny (model Challenge.rw_la0046_01.row.prog w) (callerA.deeper (lawEnv L fa cd)) (assign (.Name (Str.ofString "k") px) (lawEnv L fa cd) (.int (0 + (i : Int)) t)) (fun _ s₃ =>
      wpAny (model Challenge.rw_la0046_01.row.prog w) (callerA.deeper (lawEnv L fa cd)) (execs p1A (lawEnv L fa cd)) Q E s₃) E s := by
  conv in p1A => whnf
  unfold lawEnv
  conv in (occs := *) lawScope => all_goals whnf
  k_fold
  k_steps
  all_goals (
    refine' ret ?F ?d ?e ?b ?c ?N ?o ?o2 ?b0 ?b1 ?c0 ?c1 ?m
    (case F => k_asm)
    (case d => assumption)
    (case e => assumption)
    (case b => exact rfl)
    (case c => exact rfl)
    (case b0 => exact (fmod_range _ (by omega)).1)
    (case b1 => exact (fmod_range _ (by omega)).2)
    (case c0 => exact (fmod_range _ (by omega)).1)
    (case c1 => exact (fmod_range _ (by omega)).2)
    (case m => intro x h1 h2 h3 h4; simp only [h1, h2, h3, h4, if_false])
    (case N => exact News.perm (by k_asm) (by k_allIn))
    (case o2 => omega)
    (case o => intro q hq; exact lt_raw (by assumption) (by k_ownIn)))
end

section
open PySem PySem.W PySem.Calls PyProof.Rows Builtin
set_option Elab.async false
set_option maxRecDepth 100000
set_option maxHeartbeats 8000000
example : ∀ w : World, (hd.heap_39 w.params).In default → Challenge.rw_la0046_01.Holds → True := by k_fill; intros; trivial
noncomputable def Hold (p : Prop) : Prop := p
example : True := by
  k_with_none
  trivial
theorem hold {p : Prop} (h : p) : Hold p := h
theorem execs_cut {M : Model} {A : Around} {E : Value → Shared → Prop} {env : Env} {Q : Flow → Shared → Prop} {l : List Stmt} {s : Shared} (n : Nat) (P : Shared → Prop)
    (h1 : wpAny M A (execs (l.take n) env) (fun f s' => Hold (f = .next ∧ P s')) E s) (h2 : ∀ s', P s' → wpAny M A (execs (l.drop n) env) Q E s') : wpAny M A (execs l env) Q E s := by
  rw [← List.take_append_drop n l]
  refine execs_app (wpAny_mono h1 (fun f s' h => ?_) fun _ _ h => h)
  obtain ⟨rfl, h⟩ := h
  exact h2 s' h

noncomputable def sideB (f : Option Bool) (v : Value) : Bool := match f with
  | some b => b
  | none => match v with | .none => false | _ => true
noncomputable def FlagIs (v : Value) (f : Option Bool) : Prop := (v = .none ∧ f = none) ∨ ∃ b, v = .bool b ∧ f = some b
theorem flagIs : ∀ f, FlagIs (flagV f) f
  | none => .inl ⟨rfl, rfl⟩
  | some b => .inr ⟨b, rfl, rfl⟩
noncomputable def SideOK (nw : List (Addr × Obj)) (v bv : Value) (mx md : Addr) : Prop :=
  (v = .none ∧ bv = .ref mx ∧ (mx, instObj 205 md) ∈ nw ∧ ∃ o, (md, o) ∈ nw ∧ MapD o true) ∨ (v ≠ .none ∧ bv = v)

local macro_rules | `(tactic| k_lt $h:ident) => `(tactic| (have kRaw := $h; replace $h := allLt_of $h; simp only [AllLt, and_true] at $h:ident))
local macro_rules | `(tactic| k_all) => `(tactic| (intro q hq; exact Nat.ne_of_lt (lt_raw (by assumption) (by k_ownIn))))
local macro_rules | `(tactic| k_allIn) => `(tactic| (intro p hp; k_ownIn))
theorem mk_map {w : World} {p : Program} {loose : List Str} {mean : ExcName → Option Value} {mg mb : Str → Option Value} {A : Around} {env : Env} {outer : List Env} {A₀ : Around} {base h₀ : Heap} {L : Addr} {m : Str → Option Value} {news : List (Addr × Obj)} {s : Shared} {Q E : Value → Shared → Prop}
    (hh : A.handled = none) (hA : A.frames = some (env :: outer)) (hf : env.frame = some L) (hk : env.scope.kind = .function) (hdp : A.depth + 5 < recursionLimit)
    (B : Below A₀ base outer h₀) (F : Fr h₀ L s.heap m) (X : (hd.heap_39 w.params).In h₀) (N : News h₀ L s.heap news) (T : Top p loose mean mg mb h₀)
    (ret : ∀ {x dx : Addr} {o : Obj} {h' : Heap} {tk' : Nat}, Fr h₀ L h' m → News h₀ L h' ((x, instObj 205 dx) :: (dx, o) :: news) → (∀ q ∈ news, q.1 < dx) → dx < x → MapD o true → Q (.ref x) { s with heap := h', toks := tk' }) :
    wpAny (model Challenge.rw_la0046_01.row.prog w) A (call (.ref 205) ([] ++ [])) Q E s := by
  rcases A with ⟨ah, dp, afr, gd, un⟩
  dsimp only at hh hA hdp
  subst hh
  subst hA
  refine' call_cls F X N ?k4 ?k5 ?k6 ?_; (case k4 => k_is); (case k5 => k_is); (case k6 => k_is)
  intro x dx h1 F1 N1 l1 l2
  k_dflt (refine' code_def B F1 X N1 T rfl hf hk ?k6 ?k7 ?k8 ?k9 ?kB ?_ ?c2 ?c3 ?c4 ?c5; (case k6 => k_is); (case k7 => k_is); (case k8 => ktr_room); (case k9 => exact binds_K (by k_in) rfl (by k_is) rfl rfl rfl); (case c5 => decide); (case kB => exact locs rfl); (case c2 => exact rfl); (case c3 => exact rfl); (case c4 => exact rfl); k_whole)
  intro g' L' h2 FG' F' N' B' X' T'
  dsimp only
  k_fold
  replace l2 := ltN l2
  k_steps
  refine' ret ?F ?N l1 l2 ?D
  (case F => k_asm)
  (case N => exact News.perm (by k_asm) (by k_allIn))
  (case D => exact ⟨_, _, rfl, by k_get, by k_get, by k_get, by k_get, Nat.le_of_ble_eq_true rfl⟩)

example : True := by
  k_with "call ref" => (((with_reducible show wpAny _ _ (call (Value.ref 205) _ _) _ _ _); (refine' mk_map rfl rfl rfl rfl ?d ?B ?F ?X ?N ?T ?_; (case d => ktr_room); (case B => k_asm); (case F => k_asm); (case X => k_asm); (case N => k_asm); (case T => k_asm)); intro zzx' zzdx' zzo' zzh' zztk' zzF' zzN' zzl1 zzl2 zzhD'; (try k_lt zzl1); (try replace zzl2 := ltN zzl2)))
  trivial
theorem perm4 {a b c d : Addr × Obj} {r : List (Addr × Obj)} : ∀ p ∈ a :: b :: ([c, d] ++ r), p ∈ c :: d :: a :: b :: r := by
  intro p hp
  simp only [List.cons_append, List.nil_append, List.mem_cons] at hp ⊢
  rcases hp with h | h | h | h | h <;> simp [h]
theorem perm5 {z a b c d : Addr × Obj} {nw r : List (Addr × Obj)} : ∀ p ∈ ([a, b, c, d] ++ nw) ++ r, p ∈ z :: a :: b :: c :: d :: (nw ++ r) := by
  intro p hp
  simp only [List.cons_append, List.nil_append, List.mem_cons, List.mem_append] at hp ⊢
  rcases hp with h | h | h | h | h | h <;> simp [h]
theorem perm3 {z a b : Addr × Obj} {nw r : List (Addr × Obj)} : ∀ p ∈ ([a, b] ++ nw) ++ r, p ∈ z :: a :: b :: (nw ++ r) := by
  intro p hp
  simp only [List.cons_append, List.nil_append, List.mem_cons, List.mem_append] at hp ⊢
  rcases hp with h | h | h | h <;> simp [h]
theorem off2 {q dx x : Nat} (h : q < dx ∨ x < q) (h2 : dx < x) : q ≠ x ∧ q ≠ dx := by omega
theorem SideOK.mono {nw nw' : List (Addr × Obj)} {v bv : Value} {mx md : Addr} (h : SideOK nw v bv mx md) (k : ∀ q ∈ nw, q ∈ nw') : SideOK nw' v bv mx md := by
  rcases h with ⟨a, b, c, o, d, e⟩ | h
  · exact .inl ⟨a, b, k _ c, o, k _ d, e⟩
  · exact .inr h
theorem ord2 {x dx : Nat} {o1 o2 : Obj} {nw news : List (Addr × Obj)} (l1 : ∀ q ∈ news, q.1 < dx) (l2 : @LT.lt Nat _ dx x) (h : ∀ q ∈ news, ∀ z ∈ nw, q.1 < z.1) : ∀ q ∈ news, ∀ z ∈ [(x, o1), (dx, o2)] ++ nw, q.1 < z.1 := by
  intro q hq z hz
  simp only [List.cons_append, List.nil_append, List.mem_cons] at hz
  rcases hz with rfl | rfl | hz
  · exact Nat.lt_trans (l1 q hq) l2
  · exact l1 q hq
  · exact h q hq z hz
theorem ord4 {x dx x' dx' : Nat} {o1 o2 o3 o4 : Obj} {nw news : List (Addr × Obj)} (l1 : ∀ q ∈ news, q.1 < dx) (l2 : @LT.lt Nat _ dx x) (l3 : @LT.lt Nat _ x dx') (l4 : @LT.lt Nat _ dx' x') (h : ∀ q ∈ news, ∀ z ∈ nw, q.1 < z.1) :
    ∀ q ∈ news, ∀ z ∈ [(x', o1), (dx', o2), (x, o3), (dx, o4)] ++ nw, q.1 < z.1 := by
  intro q hq z hz
  simp only [List.cons_append, List.nil_append, List.mem_cons] at hz
  have := l1 q hq
  rcases hz with rfl | rfl | rfl | rfl | hz
  · exact Nat.lt_trans this (Nat.lt_trans l2 (Nat.lt_trans l3 l4))
  · exact Nat.lt_trans this (Nat.lt_trans l2 l3)
  · exact Nat.lt_trans this l2
  · exact this
  · exact h q hq z hz
theorem neL {a b : Nat} (h : a < b) : a < b := h
local macro_rules | `(tactic| k_all) => `(tactic| exact OwnOff.ne (by assumption) (by k_memK))
example : True := by
  k_with "eval Name" => ((k_here; k_dflt (refine' nameX_L ?F ?v ?_ ?a ?b; (case F => k_asm); (case a => rfl); (case b => rfl); (case v => assumption); k_whole)))
  trivial
theorem ctor {w : World} {p : Program} {loose : List Str} {mean : ExcName → Option Value} {mg mb : Str → Option Value} {A : Around} {env : Env} {outer : List Env} {A₀ : Around} {base h₀ : Heap} {L : Addr} {m : Str → Option Value} {news : List (Addr × Obj)} {s : Shared} {Q E : Value → Shared → Prop} {v0 v1 w0 w1 : Value} {f0 f1 : Option Bool}
    (hw0 : FlagIs w0 f0) (hw1 : FlagIs w1 f1)
    (hh : A.handled = none) (hA : A.frames = some (env :: outer)) (hf : env.frame = some L) (hk : env.scope.kind = .function) (hdp : A.depth + 10 < recursionLimit)
    (B : Below A₀ base outer h₀) (F : Fr h₀ L s.heap m) (X : (hd.heap_39 w.params).In h₀) (N : News h₀ L s.heap news) (T : Top p loose mean mg mb h₀)
    (hv0 : v0 = .none ∨ ∃ a, v0 = .ref a) (hv1 : v1 = .none ∨ ∃ a, v1 = .ref a)
    (ret : ∀ {x dx mx0 md0 mx1 md1 : Addr} {o : Obj} {bv cv : Value} {nw : List (Addr × Obj)} {h' : Heap} {tk' : Nat}, Fr h₀ L h' m → News h₀ L h' (nw ++ news) → (∀ q ∈ news, ∀ p ∈ nw, q.1 < p.1) → (x, instObj 372 dx) ∈ nw → (dx, o) ∈ nw → DemoD o bv cv (sideB f0 v0) (sideB f1 v1) →
      SideOK nw v0 bv mx0 md0 → SideOK nw v1 cv mx1 md1 → (v0 = .none → v1 = .none → md0 ≠ md1) → Q (.ref x) { s with heap := h', toks := tk' }) :
    wpAny (model Challenge.rw_la0046_01.row.prog w) A (call (.ref 372) [.none, v0, v1, w0, w1]) Q E s := by
  rcases A with ⟨ah, dp, afr, gd, un⟩
  dsimp only at hh hA hdp
  subst hh
  subst hA
  refine call_cls (fI := 246) F X N (by k_is) (by k_is) (by k_is) ?_
  intro x dx h1 F1 N1 l1 l2
  k_dflt (refine' code_def B F1 X N1 T rfl hf hk ?k6 ?k7 ?k8 ?k9 ?kB ?_ ?c2 ?c3 ?c4 ?c5; (case k6 => k_is); (case k7 => k_is); (case k8 => ktr_room); (case k9 => exact binds_K (by k_in) rfl (by k_is) rfl rfl rfl); (case c5 => decide); (case kB => exact locs rfl); (case c2 => exact rfl); (case c3 => exact rfl); (case c4 => exact rfl); k_whole)
  intro g' L' h2 FG' F' N' B' X' T'
  dsimp only
  k_fold
  refine execs_cut 3 (fun s' => ∃ h' tk' m' nw bv mx md t1 t2, s' = { s with heap := h', toks := tk' } ∧ Fr g' L' h' m' ∧
    News g' L' h' ((x, instObj 372 dx) :: (dx, dictOf [⟨PyData.keyHash w.params (Str.ofString "base"), .str (Str.ofString "base") t1, bv⟩, ⟨PyData.keyHash w.params (Str.ofString "close_base_on_close"), .str (Str.ofString "close_base_on_close") t2, .bool (sideB f0 v0)⟩] 2) :: (nw ++ news)) ∧
    (∀ p ∈ nw, x < p.1) ∧ SideOK nw v0 bv mx md ∧ (∃ ab, bv = .ref ab) ∧ m' (Str.ofString "self") = some (.ref x) ∧ m' (Str.ofString "changes") = some v1 ∧ m' (Str.ofString "close_changes_on_close") = some w1) ?_ ?_
  · dsimp only [List.take]
    replace l2 := ltN l2
    obtain ⟨rfl, rfl⟩ | ⟨b0, rfl, rfl⟩ := hw0 <;> obtain rfl | ⟨a0, rfl⟩ := hv0
    all_goals k_steps
    all_goals (simp only [sideB]; rename Fr _ _ _ _ => Fz; rename News _ _ _ _ => Nz)
    · refine hold ⟨(by trivial), _, _, _, [_, _], _, _, _, _, _, rfl, Fz, News.perm Nz perm4, ?_, .inl ⟨rfl, rfl, .head _, _, .tail _ (.head _), by assumption⟩, ⟨_, rfl⟩, rfl, rfl, rfl⟩
      intro q hq
      rcases List.mem_cons.mp hq with rfl | hq
      · refine neL ?_; omega
      · rw [List.mem_singleton.mp hq]; refine neL ?_; omega
    · exact hold ⟨(by trivial), _, _, _, [], _, 0, 0, _, _, rfl, Fz, Nz, (fun q hq => nomatch hq), .inr ⟨(fun e => nomatch e), rfl⟩, ⟨_, rfl⟩, rfl, rfl, rfl⟩
    · refine hold ⟨(by trivial), _, _, _, [_, _], _, _, _, _, _, rfl, Fz, News.perm Nz perm4, ?_, .inl ⟨rfl, rfl, .head _, _, .tail _ (.head _), by assumption⟩, ⟨_, rfl⟩, rfl, rfl, rfl⟩
      intro q hq
      rcases List.mem_cons.mp hq with rfl | hq
      · refine neL ?_; omega
      · rw [List.mem_singleton.mp hq]; refine neL ?_; omega
    · exact hold ⟨(by trivial), _, _, _, [], _, 0, 0, _, _, rfl, Fz, Nz, (fun q hq => nomatch hq), .inr ⟨(fun e => nomatch e), rfl⟩, ⟨_, rfl⟩, rfl, rfl, rfl⟩
  · rintro s' ⟨h3, tk3, m3, nw, bv, mx0, md0, t1, t2, rfl, F3, N3, hnw, hside, ⟨ab, rfl⟩, hm1, hm2, hm3⟩
    dsimp only [List.drop]
    clear F' N'
    have hoff : OwnOff (nw ++ news) [x, dx] := by
      intro q hq b hb
      have : q.1 < dx ∨ x < q.1 := (List.mem_append.mp hq).elim (fun h => .inr (hnw q h)) fun h => .inl (l1 q h)
      have h2 := off2 this l2
      rcases List.mem_cons.mp hb with rfl | hb
      · exact h2.1
      · rw [List.mem_singleton.mp hb]; exact h2.2
    have hbig : ∀ q ∈ nw, q ∈ nw ++ news := fun q hq => List.mem_append_left _ hq
    have hbig2 : ∀ q ∈ news, q ∈ nw ++ news := fun q hq => List.mem_append_right _ hq
    have hord : ∀ q ∈ news, ∀ z ∈ nw, q.1 < z.1 := fun q hq z hz => Nat.lt_trans (l1 q hq) (Nat.lt_trans l2 (hnw z hz))
    generalize hown : nw ++ news = own at N3 hoff hbig hbig2
    replace l2 := ltN l2
    obtain ⟨rfl, rfl⟩ | ⟨b1, rfl, rfl⟩ := hw1 <;> obtain rfl | ⟨a1, rfl⟩ := hv1
    all_goals k_steps
    all_goals (rename News _ _ _ _ => kN; rename Fr _ _ _ _ => kF; subst hown)
    · refine ret (nw := [_, _, _, _] ++ nw) kF (News.perm kN perm5) ?_ (List.mem_append_left _ (.tail _ (.tail _ (.head _)))) (List.mem_append_left _ (.tail _ (.tail _ (.tail _ (.head _))))) ⟨_, _, rfl, by k_get, by k_get, by k_get, by k_get, by k_get, by k_get, by k_get, by k_get, by k_get⟩
        (hside.mono fun q hq => List.mem_append_right _ hq) (.inl ⟨rfl, rfl, .head _, _, .tail _ (.head _), by assumption⟩) ?_
      · exact ord4 l1 l2 (by omega) (by omega) hord
      · intro e1 _
        obtain ⟨_, _, _, o0, ho0, _⟩ | ⟨ne, _⟩ := hside
        · exact Nat.ne_of_lt (lt_raw (p := (md0, o0)) (by assumption) (.tail _ (.tail _ (hbig _ ho0))))
        · exact absurd e1 ne
    · refine ret (mx1 := 0) (md1 := 0) (nw := [_, _] ++ nw) kF (News.perm kN perm3) ?_ (List.mem_append_left _ (.head _)) (List.mem_append_left _ (.tail _ (.head _))) ⟨_, _, rfl, by k_get, by k_get, by k_get, by k_get, by k_get, by k_get, by k_get, by k_get, by k_get⟩
        (hside.mono fun q hq => List.mem_append_right _ hq) (.inr ⟨(fun e => nomatch e), rfl⟩) (fun _ e => nomatch e)
      exact ord2 l1 l2 hord
    · refine ret (nw := [_, _, _, _] ++ nw) kF (News.perm kN perm5) ?_ (List.mem_append_left _ (.tail _ (.tail _ (.head _)))) (List.mem_append_left _ (.tail _ (.tail _ (.tail _ (.head _))))) ⟨_, _, rfl, by k_get, by k_get, by k_get, by k_get, by k_get, by k_get, by k_get, by k_get, by k_get⟩
        (hside.mono fun q hq => List.mem_append_right _ hq) (.inl ⟨rfl, rfl, .head _, _, .tail _ (.head _), by assumption⟩) ?_
      · exact ord4 l1 l2 (by omega) (by omega) hord
      · intro e1 _
        obtain ⟨_, _, _, o0, ho0, _⟩ | ⟨ne, _⟩ := hside
        · exact Nat.ne_of_lt (lt_raw (p := (md0, o0)) (by assumption) (.tail _ (.tail _ (hbig _ ho0))))
        · exact absurd e1 ne
    · refine ret (mx1 := 0) (md1 := 0) (nw := [_, _] ++ nw) kF (News.perm kN perm3) ?_ (List.mem_append_left _ (.head _)) (List.mem_append_left _ (.tail _ (.head _))) ⟨_, _, rfl, by k_get, by k_get, by k_get, by k_get, by k_get, by k_get, by k_get, by k_get, by k_get⟩
        (hside.mono fun q hq => List.mem_append_right _ hq) (.inr ⟨(fun e => nomatch e), rfl⟩) (fun _ e => nomatch e)
      exact ord2 l1 l2 hord
end

section
open PySem PySem.W PySem.Calls PyProof.Rows Builtin
set_option Elab.async false
set_option maxRecDepth 100000
set_option maxHeartbeats 8000000
example : ∀ w : World, (hd.heap_39 w.params).In default → Challenge.rw_la0046_01.Holds → True := by k_fill; intros; trivial
example : True := by
  k_with_none
  trivial
local macro_rules | `(tactic| k_lt $h:ident) => `(tactic| (have kRaw := $h; replace $h := allLt_of $h; simp only [AllLt, and_true] at $h:ident))
local macro_rules | `(tactic| k_all) => `(tactic| (intro q hq; exact Nat.ne_of_lt (lt_raw (by assumption) (by k_ownIn))))
example : True := by
  k_with "eval Name" => ((k_here; k_dflt (refine' nameX_L ?F ?v ?_ ?a ?b; (case F => k_asm); (case a => rfl); (case b => rfl); (case v => assumption); k_whole)))
  trivial
example : True := by
  k_with "call builtin:len" => ((k_here; (with_reducible show wpAny _ _ (call (Value.builtin "len") [Value.ref _]) _ _ _); (refine len_at (by k_asm) (by k_mem) (by assumption) (by omega) ?_)))
  trivial
example : True := by
  k_with "subscriptTail Name Name ref int" => ((k_here; (refine sub_pick (by k_asm) (by k_mem) (by assumption) ?_)))
  trivial
local macro_rules | `(tactic| k_allIn) => `(tactic| (intro p hp; k_ownIn))
local macro_rules | `(tactic| k_all) => `(tactic| exact OwnOff.ne (by assumption) (by k_memK))
example : True := by
  k_with "call ref" => (((with_reducible show wpAny _ _ (call (Value.ref 372) _ _) _ _ _); refine stop_of ?_))
  trivial
theorem permB {a b c d : Addr × Obj} {nw r : List (Addr × Obj)} : ∀ p ∈ a :: b :: c :: d :: (nw ++ r), p ∈ nw ++ (a :: b :: c :: d :: r) := by
  intro p hp
  simp only [List.mem_cons, List.mem_append] at hp ⊢
  rcases hp with h | h | h | h | h | h <;> simp [h]
theorem part1B {w : World} {p : Program} {loose : List Str} {mean : ExcName → Option Value} {mg mb : Str → Option Value} {h₀ : Heap} {L fa : Addr} {cd : Value} {s : Shared} {aT lf : Addr} {tvs : List Value} {nt : Nat} {oe of : Obj} {own : List (Addr × Obj)} {m : Str → Option Value} {b c : Int} {ub uc : Tok} {f0 f1 : Option Bool} {v0 v1 : Value} {Q : Flow → Shared → Prop} {E : Value → Shared → Prop} {ze : Option Value}
    (X : (hd.heap_39 w.params).In h₀) (T : Top p loose mean mg mb h₀) (B : Below callerA h₀ [] h₀)
    (F : Fr h₀ L s.heap m) (hm1 : m (Str.ofString "things") = some (.ref aT)) (hm2 : m (Str.ofString "base") = some (.int b ub)) (hm3 : m (Str.ofString "changes") = some (.int c uc))
    (N : News h₀ L s.heap ((lf, W.listOf (List.toArray [flagV f0, flagV f1]) 0) :: (aT, W.listOf tvs.toArray nt) :: (L + 1 + 1 + 1, oe) :: (L + 1 + 1, of) :: own))
    (hf : of.data = .cell (some (.ref lf))) (he : oe.data = .cell ze)
    (o1 : @LT.lt Nat _ (L + 1 + 1 + 1) aT) (o2 : @LT.lt Nat _ aT lf) (hoff : OwnOff own [lf, aT, L + 1 + 1 + 1, L + 1 + 1])
    (hp0 : Pick tvs b v0) (hp1 : Pick tvs c v1) (hv0 : v0 = .none ∨ ∃ a, v0 = .ref a) (hv1 : v1 = .none ∨ ∃ a, v1 = .ref a)
    (ret : ∀ {x dx mx0 md0 mx1 md1 : Addr} {o oe' : Obj} {bv cv : Value} {nw : List (Addr × Obj)} {h' : Heap} {tk' : Nat}, Fr h₀ L h' m → oe'.data = .cell (some (.ref x)) → News h₀ L h' ((lf, W.listOf (List.toArray [flagV f0, flagV f1]) 0) :: (aT, W.listOf tvs.toArray nt) :: (L + 1 + 1 + 1, oe') :: (L + 1 + 1, of) :: (nw ++ own)) →
      (∀ q ∈ own, ∀ z ∈ nw, q.1 < z.1) → (∀ z ∈ nw, lf < z.1) → (x, instObj 372 dx) ∈ nw → (dx, o) ∈ nw → DemoD o bv cv (sideB f0 v0) (sideB f1 v1) →
      SideOK nw v0 bv mx0 md0 → SideOK nw v1 cv mx1 md1 → (v0 = .none → v1 = .none → md0 ≠ md1) → Q .next { s with heap := h', toks := tk' }) :
    wpAny (model Challenge.rw_la0046_01.row.prog w) (callerA.deeper (lawEnv L fa cd)) (execs p1B (lawEnv L fa cd)) Q E s := by
  conv in p1B => whnf
  unfold lawEnv
  conv in (occs := *) lawScope => all_goals whnf
  try k_fold
  k_steps
  rename Fr _ _ _ _ => F1
  rename News _ _ _ _ => N1
  refine of_stop (ctor (flagIs f0) (flagIs f1) rfl rfl rfl rfl (by ktr_room) B F1 X N1 T hv0 hv1 ?_)
  intro x dx mx0 md0 mx1 md1 o bv cv nw h' tk' F2 N2 hord hx hd hD hs0 hs1 hap
  have N3 := News.perm (news' := (lf, W.listOf (List.toArray [flagV f0, flagV f1]) 0) :: (aT, W.listOf tvs.toArray nt) :: (L + 1 + 1 + 1, oe) :: (L + 1 + 1, of) :: (nw ++ own)) N2 (permB)
  have hoff2 : OwnOff (nw ++ own) [lf, aT, L + 1 + 1 + 1, L + 1 + 1] := by
    intro q hq
    rcases List.mem_append.mp hq with hq | hq
    · intro z hz
      have h1 := hord _ (List.mem_cons_self ..) q hq
      have h2 := hord _ (List.mem_cons_of_mem _ (List.mem_cons_self ..)) q hq
      have h3 := hord _ (List.mem_cons_of_mem _ (List.mem_cons_of_mem _ (List.mem_cons_self ..))) q hq
      have h4 := hord _ (List.mem_cons_of_mem _ (List.mem_cons_of_mem _ (List.mem_cons_of_mem _ (List.mem_cons_self ..)))) q hq
      simp only [List.mem_cons, List.not_mem_nil, or_false] at hz
      rcases hz with rfl | rfl | rfl | rfl
      · exact (Nat.ne_of_lt h1).symm
      · exact (Nat.ne_of_lt h2).symm
      · exact (Nat.ne_of_lt h3).symm
      · exact (Nat.ne_of_lt h4).symm
    · exact hoff q hq
  have hord2 : ∀ q ∈ own, ∀ z ∈ nw, q.1 < z.1 := fun q hq z hz => hord q (.tail _ (.tail _ (.tail _ (.tail _ hq)))) z hz
  have hlf : ∀ z ∈ nw, lf < z.1 := fun z hz => hord _ (List.mem_cons_self ..) z hz
  clear N1 F1 N2 hord
  k_steps
  exact ret (by k_asm) (by assumption) (by k_asm) hord2 hlf hx hd hD hs0 hs1 hap
end

section
open PySem PySem.W PySem.Calls PyProof.Rows Builtin
set_option Elab.async false
set_option maxRecDepth 100000
set_option maxHeartbeats 8000000
example : ∀ w : World, (hd.heap_39 w.params).In default → Challenge.rw_la0046_01.Holds → True := by k_fill; intros; trivial
example : True := by
  k_with_none
  trivial
local macro_rules | `(tactic| k_lt $h:ident) => `(tactic| (have kRaw := $h; replace $h := allLt_of $h; simp only [AllLt, and_true] at $h:ident))
local macro_rules | `(tactic| k_all) => `(tactic| (intro q hq; exact Nat.ne_of_lt (lt_raw (by assumption) (by k_ownIn))))
example : True := by
  k_with "eval Name" => ((k_here; k_dflt (refine' nameX_L ?F ?v ?_ ?a ?b; (case F => k_asm); (case a => rfl); (case b => rfl); (case v => assumption); k_whole)))
  trivial
example : True := by
  k_with "call builtin:len" => ((k_here; (with_reducible show wpAny _ _ (call (Value.builtin "len") [Value.ref _]) _ _ _); (refine len_at (by k_asm) (by k_mem) (by assumption) (by omega) ?_)))
  trivial
example : True := by
  k_with "subscriptTail Name Name ref int" => ((k_here; (refine sub_pick (by k_asm) (by k_mem) (by assumption) ?_)))
  trivial
local macro_rules | `(tactic| k_allIn) => `(tactic| (intro p hp; k_ownIn))
local macro_rules | `(tactic| k_all) => `(tactic| exact OwnOff.ne (by assumption) (by k_memK))

example : True := by
  k_with "eval ListComp" => ((k_here; k_dflt (refine LCg.ListComp_U (F₀ := by k_asm) (by with_unfolding_all rfl) (by decide) (by rfl) (by decide) (by rfl) ?_)))
  trivial
example : True := by
  k_with "CompSrc" => ((k_here; k_dflt (refine LCg.CompSrc.range (by rfl) (by k_asm) (by k_asm) (by assumption) (by first | decide | rfl) (by first | rfl | decide) (by exact Nat.le_of_ble_eq_true rfl) ?_; intro zzg'; lcg_lit)))
  trivial
example : True := by
  k_with "CompRest" => ((with_unfolding_all first
      | (refine LCg.CompRest.succ ?_; intro zzv' zzI' zzoI' zzC' zzoC' zzD' zzm' zzh' zztk' zzE' zzhv' zzhC' zzhx' zzF' zzN' zzoff' zzne'; (obtain ⟨zzt9', zzhv9'⟩ := zzhv'; subst zzhv9'))
      | refine LCg.CompRest.zero ?_))
  trivial
example : True := by
  k_with "CompEnd" => ((refine LCg.CompEnd.intro (by k_asm) (by k_asm) _ (fun p hp => hp) (by assumption) (by lcg_src) ?_))
  trivial
example : True := by
  k_with "exec Assign cons ListComp" => (((with_reducible show wpAny _ _ (exec (Stmt.Assign [Expr.Tuple _ _ _] _ _) _) _ _ _); k_dflt (refine Assign_Tuple ?_)))
  trivial
example : True := by
  k_with "subscriptTail Name Name ref int" => ((k_here; k_dflt (refine sub_lit (by k_asm) (by k_mem) (by decide) (by decide) (by rfl) ?_)))
  trivial
noncomputable def FB (f : Option Bool) (g : Bool) : Bool := match f with | none => g | some x => x
theorem part1C {w : World} {p : Program} {loose : List Str} {mean : ExcName → Option Value} {mg mb : Str → Option Value} {h₀ : Heap} {L fa : Addr} {cd : Value} {s : Shared} {lf : Addr} {og of : Obj} {own : List (Addr × Obj)} {m : Str → Option Value} {b c : Int} {ub uc : Tok} {f0 f1 : Option Bool} {w0 w1 : Value} {Q : Flow → Shared → Prop} {E : Value → Shared → Prop} {zg : Option Value}
    (X : (hd.heap_39 w.params).In h₀) (T : Top p loose mean mg mb h₀) (B : Below callerA h₀ [] h₀) (hw0 : FlagIs w0 f0) (hw1 : FlagIs w1 f1)
    (F : Fr h₀ L s.heap m) (hm2 : m (Str.ofString "base") = some (.int b ub)) (hm3 : m (Str.ofString "changes") = some (.int c uc))
    (N : News h₀ L s.heap ((lf, W.listOf (List.toArray [w0, w1]) 0) :: (L + 1 + 1 + 1 + 1, og) :: (L + 1 + 1, of) :: own))
    (hf : of.data = .cell (some (.ref lf))) (hg : og.data = .cell zg)
    (o1 : @LT.lt Nat _ (L + 1 + 1 + 1 + 1) lf) (hoff : OwnOff own [lf, L + 1 + 1 + 1 + 1, L + 1 + 1])
    (ret : ∀ {lg : Addr} {og' : Obj} {h' : Heap} {tk' : Nat} {m' : Str → Option Value}, Fr h₀ L h' m' → og'.data = .cell (some (.ref lg)) → News h₀ L h' ((lg, W.listOf (List.toArray [.bool (b != 0), .bool (c != 0)]) 0) :: (lf, W.listOf (List.toArray [w0, w1]) 0) :: (L + 1 + 1 + 1 + 1, og') :: (L + 1 + 1, of) :: own) →
      (∀ q ∈ own, q.1 < lg) → @LT.lt Nat _ lf lg → m' (Str.ofString "first") = some (.bool (FB f0 (b != 0))) → m' (Str.ofString "second") = some (.bool (FB f1 (c != 0))) →
      (∀ x, x ≠ Str.ofString "first" → x ≠ Str.ofString "second" → m' x = m x) → Q .next { s with heap := h', toks := tk' }) :
    wpAny (model Challenge.rw_la0046_01.row.prog w) (callerA.deeper (lawEnv L fa cd)) (execs p1C (lawEnv L fa cd)) Q E s := by
  conv in p1C => whnf
  unfold lawEnv
  conv in (occs := *) lawScope => all_goals whnf
  obtain ⟨rfl, rfl⟩ | ⟨b0, rfl, rfl⟩ := hw0 <;> obtain ⟨rfl, rfl⟩ | ⟨b1, rfl, rfl⟩ := hw1
  all_goals try k_fold
  all_goals k_steps
  all_goals (
    refine' ret ?F ?d ?N ?o ?o2 ?m1 ?m2 ?m
    (case F => k_asm)
    (case d => assumption)
    (case m1 => exact rfl)
    (case m2 => exact rfl)
    (case m => intro x h1 h2; simp only [h1, h2, if_false])
    (case N => exact News.perm (by k_asm) (by k_allIn))
    (case o2 => omega)
    (case o => intro q hq; exact lt_raw (by assumption) (by k_ownIn)))
end

section
open PySem PySem.W PySem.Calls PyProof.Rows Builtin
set_option Elab.async false
set_option maxRecDepth 100000
set_option maxHeartbeats 8000000
example : ∀ w : World, (hd.heap_39 w.params).In default → Challenge.rw_la0046_01.Holds → True := by k_fill; intros; trivial
example : True := by
  k_with_none
  trivial
local macro_rules | `(tactic| k_lt $h:ident) => `(tactic| (have kRaw := $h; replace $h := allLt_of $h; simp only [AllLt, and_true] at $h:ident))
local macro_rules | `(tactic| k_all) => `(tactic| (intro q hq; exact Nat.ne_of_lt (lt_raw (by assumption) (by k_ownIn))))
example : True := by
  k_with "eval Name" => ((k_here; k_dflt (refine' nameX_L ?F ?v ?_ ?a ?b; (case F => k_asm); (case a => rfl); (case b => rfl); (case v => assumption); k_whole)))
  trivial
example : True := by
  k_with "call builtin:len" => ((k_here; (with_reducible show wpAny _ _ (call (Value.builtin "len") [Value.ref _]) _ _ _); (refine len_at (by k_asm) (by k_mem) (by assumption) (by omega) ?_)))
  trivial
example : True := by
  k_with "subscriptTail Name Name ref int" => ((k_here; (refine sub_pick (by k_asm) (by k_mem) (by assumption) ?_)))
  trivial
local macro_rules | `(tactic| k_allIn) => `(tactic| (intro p hp; k_ownIn))
local macro_rules | `(tactic| k_all) => `(tactic| exact OwnOff.ne (by assumption) (by k_memK))


noncomputable def PlaceOf (b d : Int) : Int := if b = 0 then d else b
theorem part1D {w : World} {p : Program} {loose : List Str} {mean : ExcName → Option Value} {mg mb : Str → Option Value} {h₀ : Heap} {L fa : Addr} {cd : Value} {s : Shared} {aR : Addr} {rvs : List Value} {nr : Nat} {ok : Obj} {own : List (Addr × Obj)} {m : Str → Option Value} {b c : Int} {ub uc tk : Tok} {fb sb : Bool} {i : Nat} {Q : Flow → Shared → Prop} {E : Value → Shared → Prop}
    (X : (hd.heap_39 w.params).In h₀) (T : Top p loose mean mg mb h₀) (B : Below callerA h₀ [] h₀) (hi : i < 4)
    (F : Fr h₀ L s.heap m) (hm1 : m (Str.ofString "rows") = some (.ref aR)) (hm2 : m (Str.ofString "base") = some (.int b ub)) (hm3 : m (Str.ofString "changes") = some (.int c uc))
    (hm4 : m (Str.ofString "first") = some (.bool fb)) (hm5 : m (Str.ofString "second") = some (.bool sb))
    (N : News h₀ L s.heap ((aR, W.listOf rvs.toArray nr) :: (L + 1, ok) :: own))
    (hk : ok.data = .cell (some (.int (0 + (i : Int)) tk)))
    (o1 : @LT.lt Nat _ (L + 1) aR) (hoff : OwnOff own [aR, L + 1]) (hrl : rvs.length = i)
    (ret : ∀ {tr : Addr} {h' : Heap} {tk' : Nat} {ub' uc' : Tok}, Fr h₀ L h' m → News h₀ L h' ((tr, tupObj [.int (PlaceOf b (100 + 2 * (0 + (i : Int)))) ub', .int (PlaceOf c (101 + 2 * (0 + (i : Int)))) uc', .bool fb, .bool sb]) :: (aR, W.listOf (rvs ++ [Value.ref tr]).toArray (nr + 1)) :: (L + 1, ok) :: own) →
      (∀ q ∈ own, q.1 < tr) → @LT.lt Nat _ aR tr → Q .next { s with heap := h', toks := tk' }) :
    wpAny (model Challenge.rw_la0046_01.row.prog w) (callerA.deeper (lawEnv L fa cd)) (execs p1D (lawEnv L fa cd)) Q E s := by
  conv in p1D => whnf
  unfold lawEnv
  conv in (occs := *) lawScope => all_goals whnf
  try k_fold
  k_steps
  all_goals (
    rename News _ _ _ _ => Nz
    rw [List.push_toArray] at Nz
    first
      | rw [show PlaceOf b (100 + 2 * (0 + (i : Int))) = b from if_neg (by assumption)] at ret
      | rw [show PlaceOf b (100 + 2 * (0 + (i : Int))) = 100 + 2 * (0 + (i : Int)) from if_pos (by assumption)] at ret
    first
      | rw [show PlaceOf c (101 + 2 * (0 + (i : Int))) = c from if_neg (by assumption)] at ret
      | rw [show PlaceOf c (101 + 2 * (0 + (i : Int))) = 101 + 2 * (0 + (i : Int)) from if_pos (by assumption)] at ret
    refine' ret ?F Nz ?o ?o2
    (case F => k_asm)
    (case o2 => omega)
    (case o => intro q hq; exact lt_raw (by assumption) (by k_ownIn)))
end

section
open PySem PySem.W PySem.Calls PyProof.Rows Builtin
set_option Elab.async false
set_option maxRecDepth 100000
set_option maxHeartbeats 8000000
example : ∀ w : World, (hd.heap_39 w.params).In default → Challenge.rw_la0046_01.Holds → True := by k_fill; intros; trivial
example : True := by
  k_with_none
  trivial
local macro_rules | `(tactic| k_lt $h:ident) => `(tactic| (have kRaw := $h; replace $h := allLt_of $h; simp only [AllLt, and_true] at $h:ident))
local macro_rules | `(tactic| k_all) => `(tactic| (intro q hq; exact Nat.ne_of_lt (lt_raw (by assumption) (by k_ownIn))))
example : True := by
  k_with "eval Name" => ((k_here; k_dflt (refine' nameX_L ?F ?v ?_ ?a ?b; (case F => k_asm); (case a => rfl); (case b => rfl); (case v => assumption); k_whole)))
  trivial
example : True := by
  k_with "call builtin:len" => ((k_here; (with_reducible show wpAny _ _ (call (Value.builtin "len") [Value.ref _]) _ _ _); (refine len_at (by k_asm) (by k_mem) (by assumption) (by omega) ?_)))
  trivial
example : True := by
  k_with "subscriptTail Name Name ref int" => ((k_here; (refine sub_pick (by k_asm) (by k_mem) (by assumption) ?_)))
  trivial
local macro_rules | `(tactic| k_allIn) => `(tactic| (intro p hp; k_ownIn))
local macro_rules | `(tactic| k_all) => `(tactic| exact OwnOff.ne (by assumption) (by k_memK))

example : True := by
  k_with "eval ListComp" => ((k_here; k_dflt (refine LCt.ListComp_T (F₀ := by k_asm) (by with_unfolding_all rfl) (by decide) (by rfl) (by decide) (by rfl) ?_)))
  trivial
example : True := by
  k_with "CompSrcT" => ((k_here; k_dflt (refine LCt.CompSrcT.range (by rfl) (by k_asm) (by k_asm) (by assumption) (by first | decide | rfl) (by first | rfl | decide) (by exact Nat.le_of_ble_eq_true rfl) ?_; intro zzg'; lct_lit)))
  trivial
example : True := by
  k_with "CompRestT" => ((with_unfolding_all first
      | (refine LCt.CompRestT.succ ?_; intro zzv' zzI' zzoI' zzC' zzoC' zzD' zzm' zzh' zztk' zzE' zzhv' zzhC' zzhx' zzF' zzN' zzoff' zzne'; (obtain ⟨zzt9', zzhv9'⟩ := zzhv'; subst zzhv9'))
      | refine LCt.CompRestT.zero ?_))
  trivial
example : True := by
  k_with "CompEnd" => ((refine LCg.CompEnd.intro (by k_asm) (by k_asm) _ (fun p hp => hp) (by assumption) (by lcg_src) ?_))
  trivial
example : True := by
  k_with "exec Assign cons ListComp" => (((with_reducible show wpAny _ _ (exec (Stmt.Assign [Expr.Tuple _ _ _] _ _) _) _ _ _); k_dflt (refine Assign_Tuple ?_)))
  trivial
example : True := by
  k_with "subscriptTail Name Name ref int" => ((k_here; k_dflt (refine sub_lit (by k_asm) (by k_mem) (by decide) (by decide) (by rfl) ?_)))
  trivial

example : True := by
  k_with "loadName" => ((k_here; k_dflt (first
      | (refine' loadX_L ?F ?v ?_ ?a ?b; (case F => k_asm); (case a => rfl); (case b => rfl); (case v => assumption); k_whole)
      | (refine' loadX_C ?N ?c ?m ?d ?_ ?a ?b; (case a => rfl); (case b => rfl); (case N => k_asm); (case c => rfl); (case m => k_mem); (case d => k_asm); k_whole))))
  trivial
noncomputable def Made2 (nwt : List (Addr × Obj)) (gb gc : Bool) (d : Int) (ab ac : Addr) (ms : List Value) : Prop :=
  ∃ t0 t1 u0 u1, ms = (if gb then [] else [Value.ref t0]) ++ (if gc then [] else [Value.ref t1]) ∧ (gb = false → (t0, tupObj [.int (d + (0 + ((0 : Nat) : Int))) u0, .ref ab]) ∈ nwt) ∧ (gc = false → (t1, tupObj [.int (d + (0 + ((0 + 1 : Nat) : Int))) u1, .ref ac]) ∈ nwt)
local macro_rules | `(tactic| k_get) => `(tactic| assumption)
example : True := by
  k_with "inplaceOp Add ref ref" => ((k_here; k_dflt (refine' iadd_K ?F ?N ?U ?b ?_ ?z; (case F => k_asm); (case N => k_asm); (case U => k_upd); (case b => k_mem); (case z => (simp only [List.size_toArray, List.length_cons, List.length_nil, List.length_append]; omega))); intro zzh' zzF' zzN'))
  trivial
local macro_rules | `(tactic| k_mem) => `(tactic| assumption)
theorem compEnd2 {h₀ : Heap} {L I C D a b : Addr} {oa ob oI oC oD : Obj} {m : Str → Option Value} {s₁ : Shared} {S : List (Addr × Obj) → Prop} {rest : Value → List (Addr × Obj) → Prop} {y : Value} {h' : Heap} {tk : Nat} {r : List (Addr × Obj)}
    (F : Fr h₀ L h' m) (N : News h₀ L h' ((a, oa) :: (b, ob) :: (I, oI) :: (C, oC) :: (D, oD) :: r)) (off : LCg.Off3 I C D r) (h1 : @LT.lt Nat _ I a) (h2 : @LT.lt Nat _ C a) (h3 : @LT.lt Nat _ D a) (hS : S ((a, oa) :: r)) (q : rest y ((a, oa) :: r)) :
    LCg.CompEnd h₀ L m s₁ I oI C oC D oD S rest y { s₁ with heap := h', toks := tk } := by
  refine LCg.CompEnd.intro F N ((a, oa) :: r) (fun p hp => ?_) ⟨⟨Nat.ne_of_gt h1, Nat.ne_of_gt h2, Nat.ne_of_gt h3⟩, off⟩ hS q
  simp only [List.mem_cons] at hp ⊢
  rcases hp with h | h | h | h | h <;> simp [h]
example : True := by
  k_with "CompEnd" => ((k_dflt (refine compEnd2 (by k_asm) (by k_asm) (by assumption) (by omega) (by omega) (by omega) trivial ?_)))
  trivial
theorem part1E {w : World} {p : Program} {loose : List Str} {mean : ExcName → Option Value} {mg mb : Str → Option Value} {h₀ : Heap} {L fa : Addr} {cd : Value} {s : Shared} {aM lg x dx : Addr} {mvs : List Value} {nm : Nat} {og oe ok : Obj} {own : List (Addr × Obj)} {m : Str → Option Value} {tk : Tok} {gb gc : Bool} {i : Nat} {ab ac : Addr} {cb cc : Bool} {es : List DictEntry} {nd : Nat} {Q : Flow → Shared → Prop} {E : Value → Shared → Prop}
    (X : (hd.heap_39 w.params).In h₀) (T : Top p loose mean mg mb h₀) (B : Below callerA h₀ [] h₀) (hi : i < 4)
    (F : Fr h₀ L s.heap m) (hm1 : m (Str.ofString "made") = some (.ref aM))
    (N : News h₀ L s.heap ((lg, W.listOf (List.toArray [.bool gb, .bool gc]) 0) :: (aM, W.listOf mvs.toArray nm) :: (L + 1 + 1 + 1 + 1, og) :: (L + 1 + 1 + 1, oe) :: (L + 1, ok) :: own))
    (hg : og.data = .cell (some (.ref lg))) (he : oe.data = .cell (some (.ref x))) (hk : ok.data = .cell (some (.int (0 + (i : Int)) tk)))
    (hx : (x, instObj 372 dx) ∈ own) (hd : (dx, dictOf es nd) ∈ own) (hD : DemoD (dictOf es nd) (.ref ab) (.ref ac) cb cc)
    (hb1 : getL (Str.ofString "base") es = some (some (.ref ab))) (hb2 : getL (Str.ofString "changes") es = some (some (.ref ac)))
    (o1 : @LT.lt Nat _ (L + 1 + 1 + 1 + 1) aM) (o2 : @LT.lt Nat _ aM lg) (hoff : OwnOff own [lg, aM, L + 1 + 1 + 1 + 1, L + 1 + 1 + 1, L + 1]) (hml : mvs.length ≤ 8)
    (ret : ∀ {ms : List Value} {nwt : List (Addr × Obj)} {nm' : Nat} {h' : Heap} {tk' : Nat} {m' : Str → Option Value}, Fr h₀ L h' m' → News h₀ L h' ((lg, W.listOf (List.toArray [.bool gb, .bool gc]) 0) :: (aM, W.listOf (mvs ++ ms).toArray nm') :: (L + 1 + 1 + 1 + 1, og) :: (L + 1 + 1 + 1, oe) :: (L + 1, ok) :: (nwt ++ own)) →
      (∀ q ∈ own, ∀ z ∈ nwt, q.1 < z.1) → (∀ z ∈ nwt, @LT.lt Nat _ lg z.1) → Made2 nwt gb gc (100 + 2 * (0 + (i : Int))) ab ac ms → m' (Str.ofString "made") = some (.ref aM) → (∀ y, y ≠ Str.ofString "made" → m' y = m y) → Q .next { s with heap := h', toks := tk' }) :
    wpAny (model Challenge.rw_la0046_01.row.prog w) (callerA.deeper (lawEnv L fa cd)) (execs p1E (lawEnv L fa cd)) Q E s := by
  conv in p1E => whnf
  unfold lawEnv
  conv in (occs := *) lawScope => all_goals whnf
  try k_fold
  k_steps
  all_goals (
    rename News _ _ _ _ => Nz
    rename Fr _ _ _ _ => Fz
    simp only [List.append_toArray] at Nz)
  all_goals first
    | refine ret (ms := []) (nwt := []) Fz (News.perm Nz (by k_allIn)) (fun _ _ _ h => nomatch h) (fun _ h => nomatch h) ⟨0, 0, 0, 0, by simp only [*, if_true, List.append_nil], by simp [*], by simp [*]⟩ rfl ?_
    | refine ret (ms := [_]) (nwt := [(_, _)]) Fz (News.perm Nz (by k_allIn)) ?_ ?_ ⟨_, 0, _, 0, by simp only [*, if_true, if_false, List.append_nil, Bool.false_eq_true], fun _ => .head _, by simp [*]⟩ rfl ?_
    | refine ret (ms := [_]) (nwt := [(_, _)]) Fz (News.perm Nz (by k_allIn)) ?_ ?_ ⟨0, _, 0, _, by simp only [*, if_true, if_false, List.nil_append, Bool.false_eq_true], by simp [*], fun _ => .head _⟩ rfl ?_
    | refine ret (ms := [_, _]) (nwt := [(_, _), (_, _)]) Fz (News.perm Nz (by k_allIn)) ?_ ?_ ⟨_, _, _, _, by simp only [*, if_false, List.cons_append, List.nil_append, Bool.false_eq_true], fun _ => .tail _ (.head _), fun _ => .head _⟩ rfl ?_
  all_goals first
    | (intro y hy; simp only [hy, if_false]; done)
    | (intro q hq z hz; simp only [List.mem_cons, List.not_mem_nil, or_false] at hz; rcases hz with rfl | rfl <;> exact lt_raw (by assumption) (by k_ownIn))
    | (intro q hq z hz; simp only [List.mem_cons, List.not_mem_nil, or_false] at hz; subst hz; exact lt_raw (by assumption) (by k_ownIn))
    | (intro z hz; simp only [List.mem_cons, List.not_mem_nil, or_false] at hz; rcases hz with rfl | rfl <;> (dsimp only; omega))
    | (intro z hz; simp only [List.mem_cons, List.not_mem_nil, or_false] at hz; subst hz; dsimp only; omega)
end

section
open PySem PySem.W PySem.Calls PyProof.Rows Builtin
set_option Elab.async false
set_option maxRecDepth 100000
set_option maxHeartbeats 8000000
example : ∀ w : World, (hd.heap_39 w.params).In default → Challenge.rw_la0046_01.Holds → True := by k_fill; intros; trivial
example : True := by
  k_with_none
  trivial
local macro_rules | `(tactic| k_lt $h:ident) => `(tactic| (have kRaw := $h; replace $h := allLt_of $h; simp only [AllLt, and_true] at $h:ident))
local macro_rules | `(tactic| k_all) => `(tactic| (intro q hq; exact Nat.ne_of_lt (lt_raw (by assumption) (by k_ownIn))))
example : True := by
  k_with "eval Name" => ((k_here; k_dflt (refine' nameX_L ?F ?v ?_ ?a ?b; (case F => k_asm); (case a => rfl); (case b => rfl); (case v => assumption); k_whole)))
  trivial
example : True := by
  k_with "call builtin:len" => ((k_here; (with_reducible show wpAny _ _ (call (Value.builtin "len") [Value.ref _]) _ _ _); (refine len_at (by k_asm) (by k_mem) (by assumption) (by omega) ?_)))
  trivial
example : True := by
  k_with "subscriptTail Name Name ref int" => ((k_here; (refine sub_pick (by k_asm) (by k_mem) (by assumption) ?_)))
  trivial
local macro_rules | `(tactic| k_allIn) => `(tactic| (intro p hp; k_ownIn))
local macro_rules | `(tactic| k_all) => `(tactic| exact OwnOff.ne (by assumption) (by k_memK))

local macro_rules | `(tactic| k_get) => `(tactic| assumption)
local macro_rules | `(tactic| k_mem) => `(tactic| assumption)
example : True := by
  k_with "subscriptTail Name Name ref int" => ((k_here; k_dflt (refine sub_pick (by k_asm) (by k_mem) (by assumption) ?_)))
  trivial
theorem part1F {w : World} {p : Program} {loose : List Str} {mean : ExcName → Option Value} {mg mb : Str → Option Value} {h₀ : Heap} {L fa : Addr} {cd : Value} {s : Shared} {aB aT lg x dx : Addr} {bvs tvs : List Value} {nb nt : Nat} {og oe : Obj} {own : List (Addr × Obj)} {m : Str → Option Value} {gb gc : Bool} {b : Int} {ub : Tok} {ab : Addr} {es : List DictEntry} {nd : Nat} {Q : Flow → Shared → Prop} {E : Value → Shared → Prop}
    (X : (hd.heap_39 w.params).In h₀) (T : Top p loose mean mg mb h₀) (B : Below callerA h₀ [] h₀)
    (F : Fr h₀ L s.heap m) (hm1 : m (Str.ofString "bases") = some (.ref aB)) (hm2 : m (Str.ofString "things") = some (.ref aT)) (hm3 : m (Str.ofString "base") = some (.int b ub))
    (N : News h₀ L s.heap ((lg, W.listOf (List.toArray [.bool gb, .bool gc]) 0) :: (aB, W.listOf bvs.toArray nb) :: (aT, W.listOf tvs.toArray nt) :: (L + 1 + 1 + 1 + 1, og) :: (L + 1 + 1 + 1, oe) :: own))
    (hg : og.data = .cell (some (.ref lg))) (he : oe.data = .cell (some (.ref x)))
    (hx : (x, instObj 372 dx) ∈ own) (hd : (dx, dictOf es nd) ∈ own) (hb1 : getL (Str.ofString "base") es = some (some (.ref ab)))
    (hp : gb = true → Pick tvs b (.ref ab))
    (o1 : @LT.lt Nat _ (L + 1 + 1 + 1 + 1) aT) (o2 : @LT.lt Nat _ aT aB) (o3 : @LT.lt Nat _ aB lg) (hoff : OwnOff own [lg, aB, aT, L + 1 + 1 + 1 + 1, L + 1 + 1 + 1]) (hbl : bvs.length ≤ 8) (htl : tvs.length ≤ 8)
    (ret : ∀ {h' : Heap} {tk' : Nat}, Fr h₀ L h' m → News h₀ L h' ((lg, W.listOf (List.toArray [.bool gb, .bool gc]) 0) :: (aB, W.listOf (bvs ++ [Value.ref ab]).toArray (nb + 1)) :: (aT, W.listOf (tvs ++ [Value.ref x]).toArray (nt + 1)) :: (L + 1 + 1 + 1 + 1, og) :: (L + 1 + 1 + 1, oe) :: own) → Q .next { s with heap := h', toks := tk' }) :
    wpAny (model Challenge.rw_la0046_01.row.prog w) (callerA.deeper (lawEnv L fa cd)) (execs p1F (lawEnv L fa cd)) Q E s := by
  conv in p1F => whnf
  unfold lawEnv
  conv in (occs := *) lawScope => all_goals whnf
  cases gb
  all_goals try k_fold
  · k_steps
    rename News _ _ _ _ => Nz
    rename Fr _ _ _ _ => Fz
    simp only [List.push_toArray] at Nz
    exact ret Fz Nz
  · have hp' := hp rfl
    k_steps
    rename News _ _ _ _ => Nz
    rename Fr _ _ _ _ => Fz
    simp only [List.push_toArray] at Nz
    exact ret Fz Nz
end

section
open PySem PySem.W PySem.Calls PyProof.Rows Builtin
set_option Elab.async false
set_option maxRecDepth 100000
set_option maxHeartbeats 8000000
noncomputable def offs (G : List (Addr × Obj)) (l : List Addr) : List (Addr × Obj) := G.filter fun p => decide (p.1 ∉ l)
theorem offs_mem {G : List (Addr × Obj)} {l : List Addr} {p : Addr × Obj} (h : p ∈ G) (hn : p.1 ∉ l) : p ∈ offs G l := List.mem_filter.mpr ⟨h, by simpa using hn⟩
theorem offs_in {G : List (Addr × Obj)} {l : List Addr} {p : Addr × Obj} (h : p ∈ offs G l) : p ∈ G ∧ p.1 ∉ l := ⟨(List.mem_filter.mp h).1, by simpa using (List.mem_filter.mp h).2⟩
theorem offs_off (G : List (Addr × Obj)) (l : List Addr) : OwnOff (offs G l) l := fun _ hp _ hb e => (offs_in hp).2 (e ▸ hb)
theorem offs_news {h₀ h : Heap} {L : Addr} {G pre : List (Addr × Obj)} {l : List Addr} (N : News h₀ L h G) (hp : ∀ p ∈ pre, p ∈ G) : News h₀ L h (pre ++ offs G l) :=
  News.perm N fun p h => (List.mem_append.mp h).elim (hp p) fun h => (offs_in h).1
noncomputable def Safe (L : Addr) (p : Addr × Obj) : Prop := @LT.lt Nat _ (L + 1 + 1 + 1 + 1 + 1) p.1 ∧ NoL p.2
structure Demo where
  x : Addr
  dx : Addr
  ab : Addr
  ac : Addr
  cb : Bool
  cc : Bool
  bp : Int
  cp : Int
  tb : Th
  tc : Th
structure DemoOK (w : World) (p : Program) (loose : List Str) (mean : ExcName → Option Value) (mg mb : Str → Option Value) (aH : Addr) (maps : List Rec) (rvs : List Value) (own : List (Addr × Obj)) (k : Nat) (d : Demo) : Prop where
  inst : (d.x, instObj 372 d.dx) ∈ own
  dict : ∃ o, (d.dx, o) ∈ own ∧ DemoD o (.ref d.ab) (.ref d.ac) d.cb d.cc
  bb : Bears w p loose mean mg mb aH maps own (.ref d.ab) d.tb
  bc : Bears w p loose mean mg mb aH maps own (.ref d.ac) d.tc
  rb : RB rvs own d.bp d.tb
  rc : RB rvs own d.cp d.tc
  row : ∃ tr ub uc, rvs[k]? = some (.ref tr) ∧ (tr, tupObj [.int d.bp ub, .int d.cp uc, .bool d.cb, .bool d.cc]) ∈ own
  db : d.tb.depth ≤ k
  dc : d.tc.depth ≤ k
  wb : d.tb.weight ≤ 2 ^ k
  wc : d.tc.weight ≤ 2 ^ k
noncomputable def MapsOK (maps : List Rec) (own : List (Addr × Obj)) (top : Int) : Prop :=
  (∀ r ∈ maps, (r.x, instObj 205 r.dx) ∈ own ∧ (∃ o, (r.dx, o) ∈ own ∧ MapD o true) ∧ 100 ≤ r.place ∧ r.place < top) ∧ maps.Pairwise (fun r q => r.place ≠ q.place ∧ r.dx ≠ q.dx)
noncomputable def MadeAre (own : List (Addr × Obj)) : List Value → List Rec → Prop
  | [], [] => True
  | v :: vs, r :: rs => (∃ t u, v = .ref t ∧ (t, tupObj [.int r.place u, .ref r.x]) ∈ own) ∧ MadeAre own vs rs
  | _, _ => False
structure J1P (w : World) (p : Program) (loose : List Str) (mean : ExcName → Option Value) (mg mb : Str → Option Value) (L lS aH aT aR aM aB l1 l2 : Addr) (own₀ ext : List (Addr × Obj)) (i : Nat) (m : Str → Option Value) (G : List (Addr × Obj))
    (ds : List Demo) (rvs mvs : List Value) (maps : List Rec) (nB nM nR nT : Nat) (og oe of ok : Obj) (zg ze zf zk : Option Value) (own : List (Addr × Obj)) : Prop where
  nm : m (Str.ofString "bases") = some (.ref aB) ∧ m (Str.ofString "made") = some (.ref aM) ∧ m (Str.ofString "rows") = some (.ref aR) ∧ m (Str.ofString "things") = some (.ref aT) ∧ m (Str.ofString "heard") = some (.ref aH) ∧ m (Str.ofString "script") = some (.ref lS)
  ls : (aB, W.listOf (ds.map fun d => Value.ref d.ab).toArray nB) ∈ G ∧ (aM, W.listOf mvs.toArray nM) ∈ G ∧ (aR, W.listOf rvs.toArray nR) ∈ G ∧ (aT, W.listOf (Value.none :: Value.ref l1 :: Value.ref l2 :: ds.map fun d => Value.ref d.x).toArray nT) ∈ G
  cs : (L + 1 + 1 + 1 + 1, og) ∈ G ∧ (L + 1 + 1 + 1, oe) ∈ G ∧ (L + 1 + 1, of) ∈ G ∧ (L + 1, ok) ∈ G
  cd : og.data = .cell zg ∧ oe.data = .cell ze ∧ of.data = .cell zf ∧ ok.data = .cell zk
  ex : ∀ q ∈ ext, q ∈ G
  o0 : ∀ q ∈ own₀, q ∈ own
  oG : ∀ q ∈ own, q ∈ G
  os : ∀ q ∈ own, Safe L q
  dl : ds.length = i
  rl : rvs.length = i
  ok' : ∀ k d, ds[k]? = some d → DemoOK w p loose mean mg mb aH maps rvs own k d
  mo : MapsOK maps own (100 + 2 * (i : Int))
  ma : MadeAre own mvs maps
  ml : maps.length ≤ 2 * i
noncomputable def J1 (w : World) (p : Program) (loose : List Str) (mean : ExcName → Option Value) (mg mb : Str → Option Value) (L lS aH aT aR aM aB l1 l2 : Addr) (own₀ ext : List (Addr × Obj)) (i : Nat) (m : Str → Option Value) (G : List (Addr × Obj)) : Prop :=
  ∃ (ds : List Demo) (rvs mvs : List Value) (maps : List Rec) (nB nM nR nT : Nat) (og oe of ok : Obj) (zg ze zf zk : Option Value) (own : List (Addr × Obj)), J1P w p loose mean mg mb L lS aH aT aR aM aB l1 l2 own₀ ext i m G ds rvs mvs maps nB nM nR nT og oe of ok zg ze zf zk own

section
variable {w : World} {p : Program} {loose : List Str} {mean : ExcName → Option Value} {mg mb : Str → Option Value}
theorem pick {aH l1 l2 : Addr} {maps : List Rec} {rvs : List Value} {own : List (Addr × Obj)} {ds : List Demo} {i : Nat} {b : Int}
    (hl1 : Bears w p loose mean mg mb aH maps own (.ref l1) (.leaf 1)) (hl2 : Bears w p loose mean mg mb aH maps own (.ref l2) (.leaf 2)) (hlen : ds.length = i) (hi : i ≤ 4)
    (hds : ∀ k d, ds[k]? = some d → DemoOK w p loose mean mg mb aH maps rvs own k d) (h0 : 0 ≤ b) (hb : b < ((3 + i : Nat) : Int)) :
    ∃ v, Pick (Value.none :: Value.ref l1 :: Value.ref l2 :: ds.map fun d => Value.ref d.x) b v ∧
      ((b = 0 ∧ v = .none) ∨ (b ≠ 0 ∧ ∃ a t, v = .ref a ∧ Bears w p loose mean mg mb aH maps own (.ref a) t ∧ RB rvs own b t ∧ t.depth ≤ i ∧ t.weight ≤ 2 ^ i)) := by
  obtain ⟨j, rfl⟩ : ∃ j : Nat, b = (j : Int) := ⟨b.toNat, by lia⟩
  have hj : j < 3 + i := by lia
  have h1w : 1 ≤ 2 ^ i := Nat.one_le_two_pow
  match j, hj with
  | 0, _ => exact ⟨.none, ⟨0, rfl, rfl, by lia⟩, .inl ⟨rfl, rfl⟩⟩
  | 1, _ => exact ⟨_, ⟨1, rfl, rfl, by lia⟩, .inr ⟨by decide, _, _, rfl, hl1, .leaf (by decide) (by decide), Nat.zero_le _, h1w⟩⟩
  | 2, _ => exact ⟨_, ⟨2, rfl, rfl, by lia⟩, .inr ⟨by decide, _, _, rfl, hl2, .leaf (by decide) (by decide), Nat.zero_le _, h1w⟩⟩
  | k + 3, hj =>
    have hk : k < ds.length := by lia
    have hd := hds k ds[k] (by simp [hk])
    obtain ⟨hx, ⟨o, ho, hD⟩, hb1, hb2, hr1, hr2, ⟨tr, ub, uc, htr, hm⟩, hd1, hd2, hw1, hw2⟩ := hd
    refine ⟨.ref ds[k].x, ⟨k + 3, by simp [hk], rfl, by lia⟩, .inr ⟨by lia, _, _, rfl, .demo hx ho hD hb1 hb2, ?_, ?_, ?_⟩⟩
    · have := RB.demo (by lia : k < 90) htr hm hr1 hr2
      have e : ((k + 3 : Nat) : Int) = 3 + (k : Int) := by lia
      rw [e]; exact this
    · show max _ _ + 1 ≤ i
      lia
    · show _ + _ ≤ 2 ^ i
      have : 2 ^ (k + 1) ≤ 2 ^ i := Nat.pow_le_pow_right (by lia) (by lia)
      rw [Nat.pow_succ] at this
      lia
theorem DemoOK.mono {aH : Addr} {maps maps' : List Rec} {rvs rvs' : List Value} {own own' : List (Addr × Obj)} {k : Nat} {d : Demo} (h : DemoOK w p loose mean mg mb aH maps rvs own k d) (ho : ∀ q ∈ own, q ∈ own') (hm : ∀ r ∈ maps, r ∈ maps')
    (hr : ∀ (j : Nat) (v : Value), rvs[j]? = some v → rvs'[j]? = some v) : DemoOK w p loose mean mg mb aH maps' rvs' own' k d := by
  obtain ⟨hx, ⟨o, h1, h2⟩, h3, h4, h5, h6, ⟨tr, ub, uc, h7, h8⟩, h9, h10, h11, h12⟩ := h
  exact ⟨ho _ hx, ⟨o, ho _ h1, h2⟩, h3.mono (Keeps.of_sub ho) hm, h4.mono (Keeps.of_sub ho) hm, h5.mono (fun q hq _ => ho q hq) hr, h6.mono (fun q hq _ => ho q hq) hr, ⟨tr, ub, uc, hr _ _ h7, ho _ h8⟩, h9, h10, h11, h12⟩
theorem MadeAre.mono {own own' : List (Addr × Obj)} (ho : ∀ q ∈ own, q ∈ own') : ∀ {vs : List Value} {rs : List Rec}, MadeAre own vs rs → MadeAre own' vs rs
  | [], [], _ => trivial
  | _ :: _, _ :: _, ⟨⟨t, u, e, hm⟩, h⟩ => ⟨⟨t, u, e, ho _ hm⟩, MadeAre.mono ho h⟩
theorem MadeAre.append {own : List (Addr × Obj)} : ∀ {vs ws : List Value} {rs qs : List Rec}, MadeAre own vs rs → MadeAre own ws qs → MadeAre own (vs ++ ws) (rs ++ qs)
  | [], _, [], _, _, h => h
  | _ :: _, _, _ :: _, _, ⟨a, h⟩, k => ⟨a, h.append k⟩
theorem MadeAre.length {own : List (Addr × Obj)} : ∀ {vs : List Value} {rs : List Rec}, MadeAre own vs rs → vs.length = rs.length
  | [], [], _ => rfl
  | _ :: _, _ :: _, ⟨_, h⟩ => by simp [h.length]
end
end

section
open PySem PySem.W PySem.Calls PyProof.Rows Builtin
set_option Elab.async false
set_option maxRecDepth 100000
set_option maxHeartbeats 8000000
theorem notin_lt {l : List Addr} {a : Addr} (h : ∀ b ∈ l, @LT.lt Nat _ b a) : a ∉ l := fun hm => Nat.lt_irrefl _ (h a hm)
theorem notin_ne {l : List Addr} {a : Addr} (h : ∀ b ∈ l, a ≠ b) : a ∉ l := fun hm => h a hm rfl
theorem all_nil {P : Addr → Prop} : ∀ b ∈ ([] : List Addr), P b := fun _ h => nomatch h
theorem all_cons {P : Addr → Prop} {a : Addr} {l : List Addr} (h : P a) (k : ∀ b ∈ l, P b) : ∀ b ∈ a :: l, P b := fun b hb => by
  rcases List.mem_cons.mp hb with rfl | hb
  · exact h
  · exact k b hb
theorem sideB_FB {f : Option Bool} {b : Int} {v : Value} (h : (b = 0 ∧ v = .none) ∨ (b ≠ 0 ∧ v ≠ .none)) : sideB f v = FB f (b != 0) := by
  cases f with
  | some x => rfl
  | none =>
    rcases h with ⟨rfl, rfl⟩ | ⟨h1, h2⟩
    · rfl
    · have : (b != 0) = true := by simpa using h1
      rw [FB, this]
      cases v <;> first | rfl | exact absurd rfl h2
theorem bne_true {b : Int} (h : b ≠ 0) : (b != 0) = true := by simpa using h
theorem bne_false {b : Int} (h : b = 0) : (b != 0) = false := by simp [h]
noncomputable def newRecs (b c d0 d1 : Int) (mx0 md0 mx1 md1 : Addr) : List Rec := (if b = 0 then [⟨d0, mx0, md0⟩] else []) ++ (if c = 0 then [⟨d1, mx1, md1⟩] else [])
theorem newRecs_fst {b c d0 d1 : Int} {mx0 md0 mx1 md1 : Addr} (h : b = 0) : (⟨d0, mx0, md0⟩ : Rec) ∈ newRecs b c d0 d1 mx0 md0 mx1 md1 := by
  unfold newRecs; rw [if_pos h]; exact List.mem_append_left _ (.head _)
theorem newRecs_snd {b c d0 d1 : Int} {mx0 md0 mx1 md1 : Addr} (h : c = 0) : (⟨d1, mx1, md1⟩ : Rec) ∈ newRecs b c d0 d1 mx0 md0 mx1 md1 := by
  unfold newRecs; rw [if_pos h]; exact List.mem_append_right _ (.head _)
theorem newRecs_of {b c d0 d1 : Int} {mx0 md0 mx1 md1 : Addr} {r : Rec} (h : r ∈ newRecs b c d0 d1 mx0 md0 mx1 md1) : (b = 0 ∧ r = ⟨d0, mx0, md0⟩) ∨ (c = 0 ∧ r = ⟨d1, mx1, md1⟩) := by
  unfold newRecs at h
  rcases List.mem_append.mp h with h | h
  · by_cases hb : b = 0
    · rw [if_pos hb] at h; exact .inl ⟨hb, List.mem_singleton.mp h⟩
    · rw [if_neg hb] at h; cases h
  · by_cases hc : c = 0
    · rw [if_pos hc] at h; exact .inr ⟨hc, List.mem_singleton.mp h⟩
    · rw [if_neg hc] at h; cases h
theorem newRecs_len {b c d0 d1 : Int} {mx0 md0 mx1 md1 : Addr} : (newRecs b c d0 d1 mx0 md0 mx1 md1).length ≤ 2 := by
  unfold newRecs; split <;> split <;> simp
theorem newRecs_apart {b c d0 d1 : Int} {mx0 md0 mx1 md1 : Addr} (h : d0 ≠ d1) (k : b = 0 → c = 0 → md0 ≠ md1) : (newRecs b c d0 d1 mx0 md0 mx1 md1).Pairwise (fun r q => r.place ≠ q.place ∧ r.dx ≠ q.dx) := by
  unfold newRecs
  by_cases hb : b = 0 <;> by_cases hc : c = 0 <;> simp only [hb, hc, if_true, if_false, List.append_nil, List.nil_append, List.cons_append]
  · simp [h, k hb hc]
  · simp
  · simp
  · simp
theorem made_new {own : List (Addr × Obj)} {b c d0 d1 : Int} {mx0 md0 mx1 md1 t0 t1 : Addr} {u0 u1 : Tok} (h0 : b = 0 → (t0, tupObj [.int d0 u0, .ref mx0]) ∈ own) (h1 : c = 0 → (t1, tupObj [.int d1 u1, .ref mx1]) ∈ own) :
    MadeAre own ((if (b != 0) = true then [] else [Value.ref t0]) ++ (if (c != 0) = true then [] else [Value.ref t1])) (newRecs b c d0 d1 mx0 md0 mx1 md1) := by
  unfold newRecs
  refine MadeAre.append ?_ ?_
  · by_cases hb : b = 0
    · rw [if_pos hb, if_neg (by simp [hb])]; exact ⟨⟨t0, u0, rfl, h0 hb⟩, trivial⟩
    · rw [if_neg hb, if_pos (by simpa using hb)]; trivial
  · by_cases hb : c = 0
    · rw [if_pos hb, if_neg (by simp [hb])]; exact ⟨⟨t1, u1, rfl, h1 hb⟩, trivial⟩
    · rw [if_neg hb, if_pos (by simpa using hb)]; trivial
theorem side_ok {w : World} {p : Program} {loose : List Str} {mean : ExcName → Option Value} {mg mb : Str → Option Value} {aH : Addr} {maps maps' : List Rec} {rvs rvs' : List Value} {own own' nw : List (Addr × Obj)} {i : Nat} {b d : Int} {v : Value} {ab mx md : Addr}
    (hd : 100 ≤ d) (cs : (b = 0 ∧ v = .none) ∨ (b ≠ 0 ∧ ∃ a t, v = .ref a ∧ Bears w p loose mean mg mb aH maps own (.ref a) t ∧ RB rvs own b t ∧ t.depth ≤ i ∧ t.weight ≤ 2 ^ i)) (hs : SideOK nw v (.ref ab) mx md) (hrec : b = 0 → (⟨d, mx, md⟩ : Rec) ∈ maps')
    (ho : ∀ q ∈ own, q ∈ own') (hm : ∀ r ∈ maps, r ∈ maps') (hr : ∀ (j : Nat) (v : Value), rvs[j]? = some v → rvs'[j]? = some v) :
    ∃ t, Bears w p loose mean mg mb aH maps' own' (.ref ab) t ∧ RB rvs' own' (PlaceOf b d) t ∧ t.depth ≤ i ∧ t.weight ≤ 2 ^ i := by
  rcases cs with ⟨rfl, rfl⟩ | ⟨hb, a, t, rfl, h1, h2, h3, h4⟩
  · rcases hs with ⟨_, e, _⟩ | ⟨h, _⟩
    · cases e
      exact ⟨.map d, .map (hrec rfl), by rw [PlaceOf, if_pos rfl]; exact .map hd, Nat.zero_le _, Nat.one_le_two_pow⟩
    · exact absurd rfl h
  · rcases hs with ⟨h, _⟩ | ⟨_, e⟩
    · cases h
    · cases e
      exact ⟨t, h1.mono (Keeps.of_sub ho) hm, by rw [PlaceOf, if_neg hb]; exact h2.mono (fun q hq _ => ho q hq) hr, h3, h4⟩

theorem notin_apart {l : List Addr} {a : Addr} (h : ∀ b ∈ l, @LT.lt Nat _ b a ∨ @LT.lt Nat _ a b) : a ∉ l := fun hm => (h a hm).elim (Nat.lt_irrefl _) (Nat.lt_irrefl _)
theorem in_nil {W : List (Addr × Obj)} : ∀ q ∈ ([] : List (Addr × Obj)), q ∈ W := fun _ h => nomatch h
theorem in_cons {W l : List (Addr × Obj)} {a : Addr × Obj} (h : a ∈ W) (k : ∀ q ∈ l, q ∈ W) : ∀ q ∈ a :: l, q ∈ W := fun q hq => by
  rcases List.mem_cons.mp hq with rfl | hq
  · exact h
  · exact k q hq
noncomputable def thenQ (M : Model) (A : Around) (b : List Stmt) (env : Env) (E : Value → Shared → Prop) (Q : Flow → Shared → Prop) (f : Flow) (s' : Shared) : Prop :=
  match f with | .next => wpAny M A (execs b env) Q E s' | f => Q f s'
theorem execs_then {M : Model} {A : Around} {E : Value → Shared → Prop} {env : Env} {Q : Flow → Shared → Prop} {a b : List Stmt} {s : Shared} (h : wpAny M A (execs a env) (thenQ M A b env E Q) E s) : wpAny M A (execs (a ++ b) env) Q E s :=
  execs_app (wpAny_mono h (fun f _ h => by cases f <;> exact h) fun _ _ h => h)
theorem pw_snoc {ch : List Nat} {l x : Nat} (h : ch.Pairwise fun a b => a < b) (hl : ch.getLast? = some l) (hx : l < x) : (ch ++ [x]).Pairwise fun a b => a < b := by
  rw [List.pairwise_append]
  refine ⟨h, List.pairwise_singleton .., fun a ha b hb => ?_⟩
  rw [List.mem_singleton.mp hb]
  obtain ⟨ys, rfl⟩ := List.getLast?_eq_some_iff.mp hl
  rcases List.mem_append.mp ha with h1 | h1
  · exact Nat.lt_trans ((List.pairwise_append.mp h).2.2 a h1 l (List.mem_singleton_self _)) hx
  · rw [List.mem_singleton.mp h1]; exact hx
theorem chain0 {L aT aR aM aB : Nat} (s1 : L + 1 + 1 + 1 + 1 + 1 < aT) (s2 : aT < aR) (s3 : aR < aM) (s4 : aM < aB) : List.Pairwise (fun a b : Nat => a < b) [L + 1, L + 1 + 1, L + 1 + 1 + 1, L + 1 + 1 + 1 + 1, aT, aR, aM, aB] := by
  simp only [List.pairwise_cons, List.mem_cons, List.not_mem_nil, or_false, forall_eq_or_imp, forall_eq, List.Pairwise.nil, and_true, false_implies, implies_true]
  omega
noncomputable def Ap (x y : Nat) : Prop := x < y ∨ y < x
theorem Ap.of {x y : Nat} (h : x < y ∨ y < x) : Ap x y := h
theorem Ap.symm {x y : Nat} (h : Ap x y) : Ap y x := Or.symm h
theorem ap_at {ch : List Nat} (h : ch.Pairwise fun a b => a < b) (i j : Nat) {x y : Nat} (hx : ch[i]? = some x) (hy : ch[j]? = some y) (hij : i < j) : Ap x y := by
  obtain ⟨h1, e1⟩ := List.getElem?_eq_some_iff.mp hx
  obtain ⟨h2, e2⟩ := List.getElem?_eq_some_iff.mp hy
  have := List.pairwise_iff_getElem.mp h i j h1 h2 hij
  rw [e1, e2] at this
  exact .inl this
theorem notin_ap {l : List Addr} {a : Addr} (h : ∀ b ∈ l, Ap b a) : a ∉ l := notin_apart h
set_option linter.unusedVariables false in
theorem turn1 {w : World} {p : Program} {loose : List Str} {mean : ExcName → Option Value} {mg mb : Str → Option Value} {h₀ : Heap} {L fa : Addr} {cd : Value} {s : Shared} {lS aH aT aR aM aB l1 l2 I : Addr} {svs : List Value} {ns : List Int} {oI : Obj} {own₀ ext G : List (Addr × Obj)} {m : Str → Option Value} {i : Nat} {t : Tok} {px : Pos} {Q : Flow → Shared → Prop} {E : Value → Shared → Prop}
    (X : (hd.heap_39 w.params).In h₀) (T : Top p loose mean mg mb h₀) (B : Below callerA h₀ [] h₀) (hS : h₀.IsList lS svs.toArray) (hI : IntsAre svs ns) (hlen : ns.length ≤ 63) (hi : i < 4)
    (s1 : @LT.lt Nat _ (L + 1 + 1 + 1 + 1 + 1) aT) (s2 : @LT.lt Nat _ aT aR) (s3 : @LT.lt Nat _ aR aM) (s4 : @LT.lt Nat _ aM aB)
    (hl1 : ∀ maps, Bears w p loose mean mg mb aH maps own₀ (.ref l1) (.leaf 1)) (hl2 : ∀ maps, Bears w p loose mean mg mb aH maps own₀ (.ref l2) (.leaf 2))
    (F : Fr h₀ L s.heap m) (N : News h₀ L s.heap ((I, oI) :: G)) (hnI : ∀ q ∈ G, q.1 ≠ I) (hex : ∀ q ∈ ext, q.1 ≠ aT ∧ q.1 ≠ aR ∧ q.1 ≠ aM ∧ q.1 ≠ aB ∧ q.1 ≠ L + 1 + 1 + 1 + 1 ∧ q.1 ≠ L + 1 + 1 + 1 ∧ q.1 ≠ L + 1 + 1 ∧ q.1 ≠ L + 1) (hJ : J1 w p loose mean mg mb L lS aH aT aR aM aB l1 l2 own₀ ext i m G) :
    wpAny (model Challenge.rw_la0046_01.row.prog w) (callerA.deeper (lawEnv L fa cd)) (assign (.Name (Str.ofString "k") px) (lawEnv L fa cd) (.int (0 + (i : Int)) t)) (fun _ s₃ =>
      wpAny (model Challenge.rw_la0046_01.row.prog w) (callerA.deeper (lawEnv L fa cd)) (execs turn1Body (lawEnv L fa cd)) (OwnPost h₀ L s I oI (J1 w p loose mean mg mb L lS aH aT aR aM aB l1 l2 own₀ ext (i + 1)) Q) E s₃) E s := by
  obtain ⟨ds, rvs, mvs, maps, nB, nM, nR, nT, og, oe, of, ok, zg, ze, zf, zk, own, ⟨mB, mM, mR, mT, mH, mS⟩, ⟨gB, gM, gR, gT⟩, ⟨gg, ge, gf, gk⟩, ⟨dg, de, df, dk⟩, hext, hown0, hownG, hsafe, hdl, hrl, hds, hmaps, hmade, hml⟩ := hJ
  have hch := chain0 s1 s2 s3 s4
  have p0x1 := ap_at hch 0 1 rfl rfl (Nat.le_of_ble_eq_true rfl)
  have q0x1 := p0x1.symm
  have p0x2 := ap_at hch 0 2 rfl rfl (Nat.le_of_ble_eq_true rfl)
  have q0x2 := p0x2.symm
  have p0x3 := ap_at hch 0 3 rfl rfl (Nat.le_of_ble_eq_true rfl)
  have q0x3 := p0x3.symm
  have p0x4 := ap_at hch 0 4 rfl rfl (Nat.le_of_ble_eq_true rfl)
  have q0x4 := p0x4.symm
  have p0x5 := ap_at hch 0 5 rfl rfl (Nat.le_of_ble_eq_true rfl)
  have q0x5 := p0x5.symm
  have p0x6 := ap_at hch 0 6 rfl rfl (Nat.le_of_ble_eq_true rfl)
  have q0x6 := p0x6.symm
  have p0x7 := ap_at hch 0 7 rfl rfl (Nat.le_of_ble_eq_true rfl)
  have q0x7 := p0x7.symm
  have p1x2 := ap_at hch 1 2 rfl rfl (Nat.le_of_ble_eq_true rfl)
  have q1x2 := p1x2.symm
  have p1x3 := ap_at hch 1 3 rfl rfl (Nat.le_of_ble_eq_true rfl)
  have q1x3 := p1x3.symm
  have p1x4 := ap_at hch 1 4 rfl rfl (Nat.le_of_ble_eq_true rfl)
  have q1x4 := p1x4.symm
  have p1x5 := ap_at hch 1 5 rfl rfl (Nat.le_of_ble_eq_true rfl)
  have q1x5 := p1x5.symm
  have p1x6 := ap_at hch 1 6 rfl rfl (Nat.le_of_ble_eq_true rfl)
  have q1x6 := p1x6.symm
  have p1x7 := ap_at hch 1 7 rfl rfl (Nat.le_of_ble_eq_true rfl)
  have q1x7 := p1x7.symm
  have p2x3 := ap_at hch 2 3 rfl rfl (Nat.le_of_ble_eq_true rfl)
  have q2x3 := p2x3.symm
  have p2x4 := ap_at hch 2 4 rfl rfl (Nat.le_of_ble_eq_true rfl)
  have q2x4 := p2x4.symm
  have p2x5 := ap_at hch 2 5 rfl rfl (Nat.le_of_ble_eq_true rfl)
  have q2x5 := p2x5.symm
  have p2x6 := ap_at hch 2 6 rfl rfl (Nat.le_of_ble_eq_true rfl)
  have q2x6 := p2x6.symm
  have p2x7 := ap_at hch 2 7 rfl rfl (Nat.le_of_ble_eq_true rfl)
  have q2x7 := p2x7.symm
  have p3x4 := ap_at hch 3 4 rfl rfl (Nat.le_of_ble_eq_true rfl)
  have q3x4 := p3x4.symm
  have p3x5 := ap_at hch 3 5 rfl rfl (Nat.le_of_ble_eq_true rfl)
  have q3x5 := p3x5.symm
  have p3x6 := ap_at hch 3 6 rfl rfl (Nat.le_of_ble_eq_true rfl)
  have q3x6 := p3x6.symm
  have p3x7 := ap_at hch 3 7 rfl rfl (Nat.le_of_ble_eq_true rfl)
  have q3x7 := p3x7.symm
  have p4x5 := ap_at hch 4 5 rfl rfl (Nat.le_of_ble_eq_true rfl)
  have q4x5 := p4x5.symm
  have p4x6 := ap_at hch 4 6 rfl rfl (Nat.le_of_ble_eq_true rfl)
  have q4x6 := p4x6.symm
  have p4x7 := ap_at hch 4 7 rfl rfl (Nat.le_of_ble_eq_true rfl)
  have q4x7 := p4x7.symm
  have p5x6 := ap_at hch 5 6 rfl rfl (Nat.le_of_ble_eq_true rfl)
  have q5x6 := p5x6.symm
  have p5x7 := ap_at hch 5 7 rfl rfl (Nat.le_of_ble_eq_true rfl)
  have q5x7 := p5x7.symm
  have p6x7 := ap_at hch 6 7 rfl rfl (Nat.le_of_ble_eq_true rfl)
  have q6x7 := p6x7.symm
  have hb1 := (hl1 maps).mono (Keeps.of_sub hown0) fun _ h => h
  have hb2 := (hl2 maps).mono (Keeps.of_sub hown0) fun _ h => h
  have tl : (Value.none :: Value.ref l1 :: Value.ref l2 :: ds.map fun d => Value.ref d.x).length = 3 + i := by simp only [List.length_cons, List.length_map, hdl]; lia
  have nI := fun {q : Addr × Obj} (hq : q ∈ G) => hnI q hq
  -- the lists and cells of the law
  generalize hTV : (Value.none :: Value.ref l1 :: Value.ref l2 :: ds.map fun d => Value.ref d.x) = tvs at gT tl
  generalize hBV : (ds.map fun d => Value.ref d.ab) = bvs at gB
  have bl : bvs.length = i := by rw [← hBV]; simpa using hdl
  have GI : ∀ q ∈ G, q ∈ (I, oI) :: G := fun q h => .tail _ h
  have NA : News h₀ L s.heap ((aT, W.listOf tvs.toArray nT) :: (L + 1 + 1, of) :: (L + 1, ok) :: offs ((I, oI) :: G) [aT, L + 1 + 1, L + 1]) :=
    offs_news (pre := [(aT, W.listOf tvs.toArray nT), (L + 1 + 1, of), (L + 1, ok)]) N (in_cons (GI _ gT) (in_cons (GI _ gf) (in_cons (GI _ gk) in_nil)))
  rw [turn1_parts]
  refine wpAny_mono (part1A (Q := thenQ (model Challenge.rw_la0046_01.row.prog w) (callerA.deeper (lawEnv L fa cd)) (p1B ++ (p1C ++ (p1D ++ (p1E ++ p1F)))) (lawEnv L fa cd) E (OwnPost h₀ L s I oI (J1 w p loose mean mg mb L lS aH aT aR aM aB l1 l2 own₀ ext (i + 1)) Q))
    X T B hS hI hlen hi F mT mS NA df dk (by lia) (offs_off _ _) tl ?_) (fun _ s₃ h => execs_then h) (fun _ _ h => h)
  intro b c f0 f1 lf h1 tk1 m1 of1 ok1 ub uc tkk F1 df1 dk1 mb1 mc1 N1 lA lTf b0 b1 c0 c1 mA
  show wpAny _ _ (execs (p1B ++ _) _) _ _ _
  refine execs_then ?_
  obtain ⟨v0, pk0, cs0⟩ := pick (b := b) hb1 hb2 hdl (by lia) hds b0 b1
  obtain ⟨v1, pk1, cs1⟩ := pick (b := c) hb1 hb2 hdl (by lia) hds c0 c1
  rw [hTV] at pk0 pk1
  have hv0 : v0 = .none ∨ ∃ a, v0 = .ref a := cs0.elim (fun h => .inl h.2) fun ⟨_, a, _, h, _⟩ => .inr ⟨a, h⟩
  have hv1 : v1 = .none ∨ ∃ a, v1 = .ref a := cs1.elim (fun h => .inl h.2) fun ⟨_, a, _, h, _⟩ => .inr ⟨a, h⟩
  have pA : ∀ q ∈ (I, oI) :: G, q.1 ∉ [aT, L + 1 + 1, L + 1] → q ∈ (lf, W.listOf (List.toArray [flagV f0, flagV f1]) 0) :: (aT, W.listOf tvs.toArray nT) :: (L + 1 + 1, of1) :: (L + 1, ok1) :: offs ((I, oI) :: G) [aT, L + 1 + 1, L + 1] := fun q h n => .tail _ (.tail _ (.tail _ (.tail _ (offs_mem h n))))
  have qA : ∀ q ∈ (I, oI) :: G, q.1 ∉ [aT, L + 1 + 1, L + 1] → @LT.lt Nat _ q.1 lf := fun q h n => lA q (offs_mem h n)
  have hlf : @LT.lt Nat _ aB lf := qA (aB, _) (GI _ gB) (notin_ap (all_cons (by first | assumption | exact Ap.of (by lia)) (all_cons (by first | assumption | exact Ap.of (by lia)) (all_cons (by first | assumption | exact Ap.of (by lia)) all_nil))))
  replace hch := pw_snoc hch rfl hlf
  have p0x8 := ap_at hch 0 8 rfl rfl (Nat.le_of_ble_eq_true rfl)
  have q0x8 := p0x8.symm
  have p1x8 := ap_at hch 1 8 rfl rfl (Nat.le_of_ble_eq_true rfl)
  have q1x8 := p1x8.symm
  have p2x8 := ap_at hch 2 8 rfl rfl (Nat.le_of_ble_eq_true rfl)
  have q2x8 := p2x8.symm
  have p3x8 := ap_at hch 3 8 rfl rfl (Nat.le_of_ble_eq_true rfl)
  have q3x8 := p3x8.symm
  have p4x8 := ap_at hch 4 8 rfl rfl (Nat.le_of_ble_eq_true rfl)
  have q4x8 := p4x8.symm
  have p5x8 := ap_at hch 5 8 rfl rfl (Nat.le_of_ble_eq_true rfl)
  have q5x8 := p5x8.symm
  have p6x8 := ap_at hch 6 8 rfl rfl (Nat.le_of_ble_eq_true rfl)
  have q6x8 := p6x8.symm
  have p7x8 := ap_at hch 7 8 rfl rfl (Nat.le_of_ble_eq_true rfl)
  have q7x8 := p7x8.symm
  have gA1 : (lf, W.listOf (List.toArray [flagV f0, flagV f1]) 0) ∈ (lf, W.listOf (List.toArray [flagV f0, flagV f1]) 0) :: (aT, W.listOf tvs.toArray nT) :: (L + 1 + 1, of1) :: (L + 1, ok1) :: offs ((I, oI) :: G) [aT, L + 1 + 1, L + 1] := .head _
  have gA2 : (aT, W.listOf tvs.toArray nT) ∈ (lf, W.listOf (List.toArray [flagV f0, flagV f1]) 0) :: (aT, W.listOf tvs.toArray nT) :: (L + 1 + 1, of1) :: (L + 1, ok1) :: offs ((I, oI) :: G) [aT, L + 1 + 1, L + 1] := .tail _ (.head _)
  have gA3 : (L + 1 + 1, of1) ∈ (lf, W.listOf (List.toArray [flagV f0, flagV f1]) 0) :: (aT, W.listOf tvs.toArray nT) :: (L + 1 + 1, of1) :: (L + 1, ok1) :: offs ((I, oI) :: G) [aT, L + 1 + 1, L + 1] := .tail _ (.tail _ (.head _))
  have gA4 : (L + 1, ok1) ∈ (lf, W.listOf (List.toArray [flagV f0, flagV f1]) 0) :: (aT, W.listOf tvs.toArray nT) :: (L + 1 + 1, of1) :: (L + 1, ok1) :: offs ((I, oI) :: G) [aT, L + 1 + 1, L + 1] := .tail _ (.tail _ (.tail _ (.head _)))
  generalize ((lf, W.listOf (List.toArray [flagV f0, flagV f1]) 0) :: (aT, W.listOf tvs.toArray nT) :: (L + 1 + 1, of1) :: (L + 1, ok1) :: offs ((I, oI) :: G) [aT, L + 1 + 1, L + 1]) = GA at N1 pA gA1 gA2 gA3 gA4
  have NB : News h₀ L h1 ((lf, W.listOf (List.toArray [flagV f0, flagV f1]) 0) :: (aT, W.listOf tvs.toArray nT) :: (L + 1 + 1 + 1, oe) :: (L + 1 + 1, of1) :: offs GA [lf, aT, L + 1 + 1 + 1, L + 1 + 1]) :=
    offs_news (pre := [(lf, W.listOf (List.toArray [flagV f0, flagV f1]) 0), (aT, W.listOf tvs.toArray nT), (L + 1 + 1 + 1, oe), (L + 1 + 1, of1)]) N1 (in_cons gA1 (in_cons gA2 (in_cons (pA _ (GI _ ge) (notin_ap (all_cons (by first | assumption | exact Ap.of (by lia)) (all_cons (by first | assumption | exact Ap.of (by lia)) (all_cons (by first | assumption | exact Ap.of (by lia)) all_nil))))) (in_cons gA3 in_nil))))
  have mT1 : m1 (Str.ofString "things") = some (.ref aT) := (mA _ (by decide) (by decide) (by decide) (by decide)).trans mT
  refine part1B X T B F1 mT1 mb1 mc1 NB df1 de (by lia) lTf (offs_off _ _) pk0 pk1 hv0 hv1 ?_
  intro x dx mx0 md0 mx1 md1 o oe1 bv cv nw h2 tk2 F2 de1 N2 nw1 nw2 hx hd hD hs0 hs1 hap
  show wpAny _ _ (execs (p1C ++ _) _) _ _ _
  refine execs_then ?_
  obtain ⟨ab, rfl⟩ : ∃ ab, bv = .ref ab := by
    rcases hs0 with ⟨_, e, _⟩ | ⟨hn, e⟩
    · exact ⟨_, e⟩
    · rcases hv0 with h | ⟨a, h⟩
      · exact absurd h hn
      · exact ⟨a, e.trans h⟩
  obtain ⟨ac, rfl⟩ : ∃ ac, cv = .ref ac := by
    rcases hs1 with ⟨_, e, _⟩ | ⟨hn, e⟩
    · exact ⟨_, e⟩
    · rcases hv1 with h | ⟨a, h⟩
      · exact absurd h hn
      · exact ⟨a, e.trans h⟩
  have pB : ∀ q ∈ GA, q.1 ∉ [lf, aT, L + 1 + 1 + 1, L + 1 + 1] → q ∈ (lf, W.listOf (List.toArray [flagV f0, flagV f1]) 0) :: (aT, W.listOf tvs.toArray nT) :: (L + 1 + 1 + 1, oe1) :: (L + 1 + 1, of1) :: (nw ++ offs GA [lf, aT, L + 1 + 1 + 1, L + 1 + 1]) := fun q h n => .tail _ (.tail _ (.tail _ (.tail _ (List.mem_append_right _ (offs_mem h n)))))
  have pB2 : ∀ q ∈ nw, q ∈ (lf, W.listOf (List.toArray [flagV f0, flagV f1]) 0) :: (aT, W.listOf tvs.toArray nT) :: (L + 1 + 1 + 1, oe1) :: (L + 1 + 1, of1) :: (nw ++ offs GA [lf, aT, L + 1 + 1 + 1, L + 1 + 1]) := fun q h => .tail _ (.tail _ (.tail _ (.tail _ (List.mem_append_left _ h))))
  have qB : ∀ q ∈ GA, q.1 ∉ [lf, aT, L + 1 + 1 + 1, L + 1 + 1] → ∀ z ∈ nw, @LT.lt Nat _ q.1 z.1 := fun q h n z hz => nw1 q (offs_mem h n) z hz
  have gB1 : (lf, W.listOf (List.toArray [flagV f0, flagV f1]) 0) ∈ (lf, W.listOf (List.toArray [flagV f0, flagV f1]) 0) :: (aT, W.listOf tvs.toArray nT) :: (L + 1 + 1 + 1, oe1) :: (L + 1 + 1, of1) :: (nw ++ offs GA [lf, aT, L + 1 + 1 + 1, L + 1 + 1]) := .head _
  have gB2 : (aT, W.listOf tvs.toArray nT) ∈ (lf, W.listOf (List.toArray [flagV f0, flagV f1]) 0) :: (aT, W.listOf tvs.toArray nT) :: (L + 1 + 1 + 1, oe1) :: (L + 1 + 1, of1) :: (nw ++ offs GA [lf, aT, L + 1 + 1 + 1, L + 1 + 1]) := .tail _ (.head _)
  have gB3 : (L + 1 + 1 + 1, oe1) ∈ (lf, W.listOf (List.toArray [flagV f0, flagV f1]) 0) :: (aT, W.listOf tvs.toArray nT) :: (L + 1 + 1 + 1, oe1) :: (L + 1 + 1, of1) :: (nw ++ offs GA [lf, aT, L + 1 + 1 + 1, L + 1 + 1]) := .tail _ (.tail _ (.head _))
  have gB4 : (L + 1 + 1, of1) ∈ (lf, W.listOf (List.toArray [flagV f0, flagV f1]) 0) :: (aT, W.listOf tvs.toArray nT) :: (L + 1 + 1 + 1, oe1) :: (L + 1 + 1, of1) :: (nw ++ offs GA [lf, aT, L + 1 + 1 + 1, L + 1 + 1]) := .tail _ (.tail _ (.tail _ (.head _)))
  generalize ((lf, W.listOf (List.toArray [flagV f0, flagV f1]) 0) :: (aT, W.listOf tvs.toArray nT) :: (L + 1 + 1 + 1, oe1) :: (L + 1 + 1, of1) :: (nw ++ offs GA [lf, aT, L + 1 + 1 + 1, L + 1 + 1])) = GB at N2 pB pB2 gB1 gB2 gB3 gB4
  have NC : News h₀ L h2 ((lf, W.listOf (List.toArray [flagV f0, flagV f1]) 0) :: (L + 1 + 1 + 1 + 1, og) :: (L + 1 + 1, of1) :: offs GB [lf, L + 1 + 1 + 1 + 1, L + 1 + 1]) :=
    offs_news (pre := [(lf, W.listOf (List.toArray [flagV f0, flagV f1]) 0), (L + 1 + 1 + 1 + 1, og), (L + 1 + 1, of1)]) N2 (in_cons gB1 (in_cons (pB _ (pA _ (GI _ gg) (notin_ap (all_cons (by first | assumption | exact Ap.of (by lia)) (all_cons (by first | assumption | exact Ap.of (by lia)) (all_cons (by first | assumption | exact Ap.of (by lia)) all_nil))))) (notin_ap (all_cons (by first | assumption | exact Ap.of (by lia)) (all_cons (by first | assumption | exact Ap.of (by lia)) (all_cons (by first | assumption | exact Ap.of (by lia)) (all_cons (by first | assumption | exact Ap.of (by lia)) all_nil)))))) (in_cons gB4 in_nil)))
  refine part1C X T B (flagIs f0) (flagIs f1) F2 mb1 mc1 NC df1 dg (by lia) (offs_off _ _) ?_
  intro lg og1 h3 tk3 m3 F3 dg1 N3 lC lfg mf3 ms3 mC
  replace hch := pw_snoc hch rfl lfg
  have p0x9 := ap_at hch 0 9 rfl rfl (Nat.le_of_ble_eq_true rfl)
  have q0x9 := p0x9.symm
  have p1x9 := ap_at hch 1 9 rfl rfl (Nat.le_of_ble_eq_true rfl)
  have q1x9 := p1x9.symm
  have p2x9 := ap_at hch 2 9 rfl rfl (Nat.le_of_ble_eq_true rfl)
  have q2x9 := p2x9.symm
  have p3x9 := ap_at hch 3 9 rfl rfl (Nat.le_of_ble_eq_true rfl)
  have q3x9 := p3x9.symm
  have p4x9 := ap_at hch 4 9 rfl rfl (Nat.le_of_ble_eq_true rfl)
  have q4x9 := p4x9.symm
  have p5x9 := ap_at hch 5 9 rfl rfl (Nat.le_of_ble_eq_true rfl)
  have q5x9 := p5x9.symm
  have p6x9 := ap_at hch 6 9 rfl rfl (Nat.le_of_ble_eq_true rfl)
  have q6x9 := p6x9.symm
  have p7x9 := ap_at hch 7 9 rfl rfl (Nat.le_of_ble_eq_true rfl)
  have q7x9 := p7x9.symm
  have p8x9 := ap_at hch 8 9 rfl rfl (Nat.le_of_ble_eq_true rfl)
  have q8x9 := p8x9.symm
  show wpAny _ _ (execs (p1D ++ _) _) _ _ _
  refine execs_then ?_
  have pC : ∀ q ∈ GB, q.1 ∉ [lf, L + 1 + 1 + 1 + 1, L + 1 + 1] → q ∈ (lg, W.listOf (List.toArray [.bool (b != 0), .bool (c != 0)]) 0) :: (lf, W.listOf (List.toArray [flagV f0, flagV f1]) 0) :: (L + 1 + 1 + 1 + 1, og1) :: (L + 1 + 1, of1) :: offs GB [lf, L + 1 + 1 + 1 + 1, L + 1 + 1] := fun q h n => .tail _ (.tail _ (.tail _ (.tail _ (offs_mem h n))))
  have qC : ∀ q ∈ GB, q.1 ∉ [lf, L + 1 + 1 + 1 + 1, L + 1 + 1] → @LT.lt Nat _ q.1 lg := fun q h n => lC q (offs_mem h n)
  have gC1 : (lg, W.listOf (List.toArray [.bool (b != 0), .bool (c != 0)]) 0) ∈ (lg, W.listOf (List.toArray [.bool (b != 0), .bool (c != 0)]) 0) :: (lf, W.listOf (List.toArray [flagV f0, flagV f1]) 0) :: (L + 1 + 1 + 1 + 1, og1) :: (L + 1 + 1, of1) :: offs GB [lf, L + 1 + 1 + 1 + 1, L + 1 + 1] := .head _
  have gC3 : (L + 1 + 1 + 1 + 1, og1) ∈ (lg, W.listOf (List.toArray [.bool (b != 0), .bool (c != 0)]) 0) :: (lf, W.listOf (List.toArray [flagV f0, flagV f1]) 0) :: (L + 1 + 1 + 1 + 1, og1) :: (L + 1 + 1, of1) :: offs GB [lf, L + 1 + 1 + 1 + 1, L + 1 + 1] := .tail _ (.tail _ (.head _))
  have gC4 : (L + 1 + 1, of1) ∈ (lg, W.listOf (List.toArray [.bool (b != 0), .bool (c != 0)]) 0) :: (lf, W.listOf (List.toArray [flagV f0, flagV f1]) 0) :: (L + 1 + 1 + 1 + 1, og1) :: (L + 1 + 1, of1) :: offs GB [lf, L + 1 + 1 + 1 + 1, L + 1 + 1] := .tail _ (.tail _ (.tail _ (.head _)))
  generalize ((lg, W.listOf (List.toArray [.bool (b != 0), .bool (c != 0)]) 0) :: (lf, W.listOf (List.toArray [flagV f0, flagV f1]) 0) :: (L + 1 + 1 + 1 + 1, og1) :: (L + 1 + 1, of1) :: offs GB [lf, L + 1 + 1 + 1 + 1, L + 1 + 1]) = GC at N3 pC gC1 gC3 gC4
  have ND : News h₀ L h3 ((aR, W.listOf rvs.toArray nR) :: (L + 1, ok1) :: offs GC [aR, L + 1]) :=
    offs_news (pre := [(aR, W.listOf rvs.toArray nR), (L + 1, ok1)]) N3 (in_cons (pC _ (pB _ (pA _ (GI _ gR) (notin_ap (all_cons (by first | assumption | exact Ap.of (by lia)) (all_cons (by first | assumption | exact Ap.of (by lia)) (all_cons (by first | assumption | exact Ap.of (by lia)) all_nil))))) (notin_ap (all_cons (by first | assumption | exact Ap.of (by lia)) (all_cons (by first | assumption | exact Ap.of (by lia)) (all_cons (by first | assumption | exact Ap.of (by lia)) (all_cons (by first | assumption | exact Ap.of (by lia)) all_nil)))))) (notin_ap (all_cons (by first | assumption | exact Ap.of (by lia)) (all_cons (by first | assumption | exact Ap.of (by lia)) (all_cons (by first | assumption | exact Ap.of (by lia)) all_nil))))) (in_cons (pC _ (pB _ gA4 (notin_ap (all_cons (by first | assumption | exact Ap.of (by lia)) (all_cons (by first | assumption | exact Ap.of (by lia)) (all_cons (by first | assumption | exact Ap.of (by lia)) (all_cons (by first | assumption | exact Ap.of (by lia)) all_nil)))))) (notin_ap (all_cons (by first | assumption | exact Ap.of (by lia)) (all_cons (by first | assumption | exact Ap.of (by lia)) (all_cons (by first | assumption | exact Ap.of (by lia)) all_nil))))) in_nil))
  have m3R : m3 (Str.ofString "rows") = some (.ref aR) := (mC _ (by decide) (by decide)).trans ((mA _ (by decide) (by decide) (by decide) (by decide)).trans mR)
  refine part1D X T B hi F3 m3R ((mC _ (by decide) (by decide)).trans mb1) ((mC _ (by decide) (by decide)).trans mc1) mf3 ms3 ND dk1 (by lia) (offs_off _ _) hrl ?_
  intro tr h4 tk4 ub' uc' F4 N4 lD lRt
  show wpAny _ _ (execs (p1E ++ _) _) _ _ _
  refine execs_then ?_
  have pD : ∀ q ∈ GC, q.1 ∉ [aR, L + 1] → q ∈ (tr, tupObj [.int (PlaceOf b (100 + 2 * (0 + (i : Int)))) ub', .int (PlaceOf c (101 + 2 * (0 + (i : Int)))) uc', .bool (FB f0 (b != 0)), .bool (FB f1 (c != 0))]) :: (aR, W.listOf (rvs ++ [Value.ref tr]).toArray (nR + 1)) :: (L + 1, ok1) :: offs GC [aR, L + 1] := fun q h n => .tail _ (.tail _ (.tail _ (offs_mem h n)))
  have qD : ∀ q ∈ GC, q.1 ∉ [aR, L + 1] → @LT.lt Nat _ q.1 tr := fun q h n => lD q (offs_mem h n)
  have gD1 : (tr, tupObj [.int (PlaceOf b (100 + 2 * (0 + (i : Int)))) ub', .int (PlaceOf c (101 + 2 * (0 + (i : Int)))) uc', .bool (FB f0 (b != 0)), .bool (FB f1 (c != 0))]) ∈ (tr, tupObj [.int (PlaceOf b (100 + 2 * (0 + (i : Int)))) ub', .int (PlaceOf c (101 + 2 * (0 + (i : Int)))) uc', .bool (FB f0 (b != 0)), .bool (FB f1 (c != 0))]) :: (aR, W.listOf (rvs ++ [Value.ref tr]).toArray (nR + 1)) :: (L + 1, ok1) :: offs GC [aR, L + 1] := .head _
  have gD2 : (aR, W.listOf (rvs ++ [Value.ref tr]).toArray (nR + 1)) ∈ (tr, tupObj [.int (PlaceOf b (100 + 2 * (0 + (i : Int)))) ub', .int (PlaceOf c (101 + 2 * (0 + (i : Int)))) uc', .bool (FB f0 (b != 0)), .bool (FB f1 (c != 0))]) :: (aR, W.listOf (rvs ++ [Value.ref tr]).toArray (nR + 1)) :: (L + 1, ok1) :: offs GC [aR, L + 1] := .tail _ (.head _)
  have gD3 : (L + 1, ok1) ∈ (tr, tupObj [.int (PlaceOf b (100 + 2 * (0 + (i : Int)))) ub', .int (PlaceOf c (101 + 2 * (0 + (i : Int)))) uc', .bool (FB f0 (b != 0)), .bool (FB f1 (c != 0))]) :: (aR, W.listOf (rvs ++ [Value.ref tr]).toArray (nR + 1)) :: (L + 1, ok1) :: offs GC [aR, L + 1] := .tail _ (.tail _ (.head _))
  generalize ((tr, tupObj [.int (PlaceOf b (100 + 2 * (0 + (i : Int)))) ub', .int (PlaceOf c (101 + 2 * (0 + (i : Int)))) uc', .bool (FB f0 (b != 0)), .bool (FB f1 (c != 0))]) :: (aR, W.listOf (rvs ++ [Value.ref tr]).toArray (nR + 1)) :: (L + 1, ok1) :: offs GC [aR, L + 1]) = GD at N4 pD gD1 gD2 gD3
  have ltr : @LT.lt Nat _ lg tr := qD _ gC1 (notin_ap (all_cons (by first | assumption | exact Ap.of (by lia)) (all_cons (by first | assumption | exact Ap.of (by lia)) all_nil)))
  replace hch := pw_snoc hch rfl ltr
  have p0x10 := ap_at hch 0 10 rfl rfl (Nat.le_of_ble_eq_true rfl)
  have q0x10 := p0x10.symm
  have p1x10 := ap_at hch 1 10 rfl rfl (Nat.le_of_ble_eq_true rfl)
  have q1x10 := p1x10.symm
  have p2x10 := ap_at hch 2 10 rfl rfl (Nat.le_of_ble_eq_true rfl)
  have q2x10 := p2x10.symm
  have p3x10 := ap_at hch 3 10 rfl rfl (Nat.le_of_ble_eq_true rfl)
  have q3x10 := p3x10.symm
  have p4x10 := ap_at hch 4 10 rfl rfl (Nat.le_of_ble_eq_true rfl)
  have q4x10 := p4x10.symm
  have p5x10 := ap_at hch 5 10 rfl rfl (Nat.le_of_ble_eq_true rfl)
  have q5x10 := p5x10.symm
  have p6x10 := ap_at hch 6 10 rfl rfl (Nat.le_of_ble_eq_true rfl)
  have q6x10 := p6x10.symm
  have p7x10 := ap_at hch 7 10 rfl rfl (Nat.le_of_ble_eq_true rfl)
  have q7x10 := p7x10.symm
  have p8x10 := ap_at hch 8 10 rfl rfl (Nat.le_of_ble_eq_true rfl)
  have q8x10 := p8x10.symm
  have p9x10 := ap_at hch 9 10 rfl rfl (Nat.le_of_ble_eq_true rfl)
  have q9x10 := p9x10.symm
  have xB : ∀ z ∈ nw, @LT.lt Nat _ aB z.1 := qB (aB, _) (pA _ (GI _ gB) (notin_ap (all_cons (by first | assumption | exact Ap.of (by lia)) (all_cons (by first | assumption | exact Ap.of (by lia)) (all_cons (by first | assumption | exact Ap.of (by lia)) all_nil))))) (notin_ap (all_cons (by first | assumption | exact Ap.of (by lia)) (all_cons (by first | assumption | exact Ap.of (by lia)) (all_cons (by first | assumption | exact Ap.of (by lia)) (all_cons (by first | assumption | exact Ap.of (by lia)) all_nil)))))
  have xl : ∀ z ∈ nw, @LT.lt Nat _ lf z.1 := nw2
  have xg : ∀ z ∈ nw, @LT.lt Nat _ z.1 lg := fun z hz => by
    have h1 := xl z hz
    have h2 := xB z hz
    exact qC z (pB2 z hz) (notin_ap (all_cons (by first | assumption | exact Ap.of (by lia)) (all_cons (by first | assumption | exact Ap.of (by lia)) (all_cons (by first | assumption | exact Ap.of (by lia)) all_nil))))
  have nwD : ∀ z ∈ nw, z ∈ GD := fun z hz => by
    have h1 := xl z hz
    have h2 := xB z hz
    exact pD z (pC z (pB2 z hz) (notin_ap (all_cons (by first | assumption | exact Ap.of (by lia)) (all_cons (by first | assumption | exact Ap.of (by lia)) (all_cons (by first | assumption | exact Ap.of (by lia)) all_nil))))) (notin_ap (all_cons (by first | assumption | exact Ap.of (by lia)) (all_cons (by first | assumption | exact Ap.of (by lia)) all_nil)))
  have nwE : ∀ z ∈ nw, z.1 ∉ [lg, aM, L + 1 + 1 + 1 + 1, L + 1 + 1 + 1, L + 1] := fun z hz => by
    have h1 := xl z hz
    have h2 := xB z hz
    have h3 := xg z hz
    exact (notin_ap (all_cons (by first | assumption | exact Ap.of (by lia)) (all_cons (by first | assumption | exact Ap.of (by lia)) (all_cons (by first | assumption | exact Ap.of (by lia)) (all_cons (by first | assumption | exact Ap.of (by lia)) (all_cons (by first | assumption | exact Ap.of (by lia)) all_nil))))))
  have NE : News h₀ L h4 ((lg, W.listOf (List.toArray [.bool (b != 0), .bool (c != 0)]) 0) :: (aM, W.listOf mvs.toArray nM) :: (L + 1 + 1 + 1 + 1, og1) :: (L + 1 + 1 + 1, oe1) :: (L + 1, ok1) :: offs GD [lg, aM, L + 1 + 1 + 1 + 1, L + 1 + 1 + 1, L + 1]) :=
    offs_news (pre := [(lg, W.listOf (List.toArray [.bool (b != 0), .bool (c != 0)]) 0), (aM, W.listOf mvs.toArray nM), (L + 1 + 1 + 1 + 1, og1), (L + 1 + 1 + 1, oe1), (L + 1, ok1)]) N4 (in_cons (pD _ gC1 (notin_ap (all_cons (by first | assumption | exact Ap.of (by lia)) (all_cons (by first | assumption | exact Ap.of (by lia)) all_nil)))) (in_cons (pD _ (pC _ (pB _ (pA _ (GI _ gM) (notin_ap (all_cons (by first | assumption | exact Ap.of (by lia)) (all_cons (by first | assumption | exact Ap.of (by lia)) (all_cons (by first | assumption | exact Ap.of (by lia)) all_nil))))) (notin_ap (all_cons (by first | assumption | exact Ap.of (by lia)) (all_cons (by first | assumption | exact Ap.of (by lia)) (all_cons (by first | assumption | exact Ap.of (by lia)) (all_cons (by first | assumption | exact Ap.of (by lia)) all_nil)))))) (notin_ap (all_cons (by first | assumption | exact Ap.of (by lia)) (all_cons (by first | assumption | exact Ap.of (by lia)) (all_cons (by first | assumption | exact Ap.of (by lia)) all_nil))))) (notin_ap (all_cons (by first | assumption | exact Ap.of (by lia)) (all_cons (by first | assumption | exact Ap.of (by lia)) all_nil))))
      (in_cons (pD _ gC3 (notin_ap (all_cons (by first | assumption | exact Ap.of (by lia)) (all_cons (by first | assumption | exact Ap.of (by lia)) all_nil)))) (in_cons (pD _ (pC _ gB3 (notin_ap (all_cons (by first | assumption | exact Ap.of (by lia)) (all_cons (by first | assumption | exact Ap.of (by lia)) (all_cons (by first | assumption | exact Ap.of (by lia)) all_nil))))) (notin_ap (all_cons (by first | assumption | exact Ap.of (by lia)) (all_cons (by first | assumption | exact Ap.of (by lia)) all_nil)))) (in_cons gD3 in_nil)))))
  obtain ⟨es, nd, rfl, hbs, hcs, hD'⟩ := id hD
  have m4M : m3 (Str.ofString "made") = some (.ref aM) := (mC _ (by decide) (by decide)).trans ((mA _ (by decide) (by decide) (by decide) (by decide)).trans mM)
  refine part1E X T B hi F4 m4M NE dg1 de1 dk1 (offs_mem (nwD _ hx) (nwE _ hx)) (offs_mem (nwD _ hd) (nwE _ hd)) hD hbs hcs (by lia) (by lia) (offs_off _ _) (by have := hmade.length; lia) ?_
  intro ms nwt nm1 h5 tk5 m5 F5 N5 nt1 nt2 hms mm5 mE
  show wpAny _ _ (execs p1F _) _ _ _
  have pE : ∀ q ∈ GD, q.1 ∉ [lg, aM, L + 1 + 1 + 1 + 1, L + 1 + 1 + 1, L + 1] → q ∈ (lg, W.listOf (List.toArray [.bool (b != 0), .bool (c != 0)]) 0) :: (aM, W.listOf (mvs ++ ms).toArray nm1) :: (L + 1 + 1 + 1 + 1, og1) :: (L + 1 + 1 + 1, oe1) :: (L + 1, ok1) :: (nwt ++ offs GD [lg, aM, L + 1 + 1 + 1 + 1, L + 1 + 1 + 1, L + 1]) := fun q h n => .tail _ (.tail _ (.tail _ (.tail _ (.tail _ (List.mem_append_right _ (offs_mem h n))))))
  have pE2 : ∀ q ∈ nwt, q ∈ (lg, W.listOf (List.toArray [.bool (b != 0), .bool (c != 0)]) 0) :: (aM, W.listOf (mvs ++ ms).toArray nm1) :: (L + 1 + 1 + 1 + 1, og1) :: (L + 1 + 1 + 1, oe1) :: (L + 1, ok1) :: (nwt ++ offs GD [lg, aM, L + 1 + 1 + 1 + 1, L + 1 + 1 + 1, L + 1]) := fun q h => .tail _ (.tail _ (.tail _ (.tail _ (.tail _ (List.mem_append_left _ h)))))
  have gE1 : (lg, W.listOf (List.toArray [.bool (b != 0), .bool (c != 0)]) 0) ∈ (lg, W.listOf (List.toArray [.bool (b != 0), .bool (c != 0)]) 0) :: (aM, W.listOf (mvs ++ ms).toArray nm1) :: (L + 1 + 1 + 1 + 1, og1) :: (L + 1 + 1 + 1, oe1) :: (L + 1, ok1) :: (nwt ++ offs GD [lg, aM, L + 1 + 1 + 1 + 1, L + 1 + 1 + 1, L + 1]) := .head _
  have gE2 : (aM, W.listOf (mvs ++ ms).toArray nm1) ∈ (lg, W.listOf (List.toArray [.bool (b != 0), .bool (c != 0)]) 0) :: (aM, W.listOf (mvs ++ ms).toArray nm1) :: (L + 1 + 1 + 1 + 1, og1) :: (L + 1 + 1 + 1, oe1) :: (L + 1, ok1) :: (nwt ++ offs GD [lg, aM, L + 1 + 1 + 1 + 1, L + 1 + 1 + 1, L + 1]) := .tail _ (.head _)
  have gE3 : (L + 1 + 1 + 1 + 1, og1) ∈ (lg, W.listOf (List.toArray [.bool (b != 0), .bool (c != 0)]) 0) :: (aM, W.listOf (mvs ++ ms).toArray nm1) :: (L + 1 + 1 + 1 + 1, og1) :: (L + 1 + 1 + 1, oe1) :: (L + 1, ok1) :: (nwt ++ offs GD [lg, aM, L + 1 + 1 + 1 + 1, L + 1 + 1 + 1, L + 1]) := .tail _ (.tail _ (.head _))
  have gE4 : (L + 1 + 1 + 1, oe1) ∈ (lg, W.listOf (List.toArray [.bool (b != 0), .bool (c != 0)]) 0) :: (aM, W.listOf (mvs ++ ms).toArray nm1) :: (L + 1 + 1 + 1 + 1, og1) :: (L + 1 + 1 + 1, oe1) :: (L + 1, ok1) :: (nwt ++ offs GD [lg, aM, L + 1 + 1 + 1 + 1, L + 1 + 1 + 1, L + 1]) := .tail _ (.tail _ (.tail _ (.head _)))
  have gE5 : (L + 1, ok1) ∈ (lg, W.listOf (List.toArray [.bool (b != 0), .bool (c != 0)]) 0) :: (aM, W.listOf (mvs ++ ms).toArray nm1) :: (L + 1 + 1 + 1 + 1, og1) :: (L + 1 + 1 + 1, oe1) :: (L + 1, ok1) :: (nwt ++ offs GD [lg, aM, L + 1 + 1 + 1 + 1, L + 1 + 1 + 1, L + 1]) := .tail _ (.tail _ (.tail _ (.tail _ (.head _))))
  generalize ((lg, W.listOf (List.toArray [.bool (b != 0), .bool (c != 0)]) 0) :: (aM, W.listOf (mvs ++ ms).toArray nm1) :: (L + 1 + 1 + 1 + 1, og1) :: (L + 1 + 1 + 1, oe1) :: (L + 1, ok1) :: (nwt ++ offs GD [lg, aM, L + 1 + 1 + 1 + 1, L + 1 + 1 + 1, L + 1])) = GE at N5 pE pE2 gE1 gE2 gE3 gE4 gE5
  have NF : News h₀ L h5 ((lg, W.listOf (List.toArray [.bool (b != 0), .bool (c != 0)]) 0) :: (aB, W.listOf bvs.toArray nB) :: (aT, W.listOf tvs.toArray nT) :: (L + 1 + 1 + 1 + 1, og1) :: (L + 1 + 1 + 1, oe1) :: offs GE [lg, aB, aT, L + 1 + 1 + 1 + 1, L + 1 + 1 + 1]) :=
    offs_news (pre := [(lg, W.listOf (List.toArray [.bool (b != 0), .bool (c != 0)]) 0), (aB, W.listOf bvs.toArray nB), (aT, W.listOf tvs.toArray nT), (L + 1 + 1 + 1 + 1, og1), (L + 1 + 1 + 1, oe1)]) N5 (in_cons gE1 (in_cons (pE _ (pD _ (pC _ (pB _ (pA _ (GI _ gB) (notin_ap (all_cons (by first | assumption | exact Ap.of (by lia)) (all_cons (by first | assumption | exact Ap.of (by lia)) (all_cons (by first | assumption | exact Ap.of (by lia)) all_nil))))) (notin_ap (all_cons (by first | assumption | exact Ap.of (by lia)) (all_cons (by first | assumption | exact Ap.of (by lia)) (all_cons (by first | assumption | exact Ap.of (by lia)) (all_cons (by first | assumption | exact Ap.of (by lia)) all_nil)))))) (notin_ap (all_cons (by first | assumption | exact Ap.of (by lia)) (all_cons (by first | assumption | exact Ap.of (by lia)) (all_cons (by first | assumption | exact Ap.of (by lia)) all_nil))))) (notin_ap (all_cons (by first | assumption | exact Ap.of (by lia)) (all_cons (by first | assumption | exact Ap.of (by lia)) all_nil)))) (notin_ap (all_cons (by first | assumption | exact Ap.of (by lia)) (all_cons (by first | assumption | exact Ap.of (by lia)) (all_cons (by first | assumption | exact Ap.of (by lia)) (all_cons (by first | assumption | exact Ap.of (by lia)) (all_cons (by first | assumption | exact Ap.of (by lia)) all_nil)))))))
      (in_cons (pE _ (pD _ (pC _ gB2 (notin_ap (all_cons (by first | assumption | exact Ap.of (by lia)) (all_cons (by first | assumption | exact Ap.of (by lia)) (all_cons (by first | assumption | exact Ap.of (by lia)) all_nil))))) (notin_ap (all_cons (by first | assumption | exact Ap.of (by lia)) (all_cons (by first | assumption | exact Ap.of (by lia)) all_nil)))) (notin_ap (all_cons (by first | assumption | exact Ap.of (by lia)) (all_cons (by first | assumption | exact Ap.of (by lia)) (all_cons (by first | assumption | exact Ap.of (by lia)) (all_cons (by first | assumption | exact Ap.of (by lia)) (all_cons (by first | assumption | exact Ap.of (by lia)) all_nil))))))) (in_cons gE3 (in_cons gE4 in_nil)))))
  have pk : (b != 0) = true → Pick tvs b (.ref ab) := fun hb => by
    rcases hs0 with ⟨hn, _⟩ | ⟨_, e⟩
    · rcases cs0 with ⟨h, _⟩ | ⟨_, a, _, h, _⟩
      · rw [bne_false h] at hb; cases hb
      · rw [h] at hn; cases hn
    · rw [e]; exact pk0
  refine part1F X T B F5 ((mE _ (by decide)).trans ((mC _ (by decide) (by decide)).trans ((mA _ (by decide) (by decide) (by decide) (by decide)).trans mB))) ((mE _ (by decide)).trans ((mC _ (by decide) (by decide)).trans ((mA _ (by decide) (by decide) (by decide) (by decide)).trans mT)))
    ((mE _ (by decide)).trans ((mC _ (by decide) (by decide)).trans mb1)) NF dg1 de1 (offs_mem (pE _ (nwD _ hx) (nwE _ hx)) ?_) (offs_mem (pE _ (nwD _ hd) (nwE _ hd)) ?_) hbs pk (by lia) (by lia) (by lia) (offs_off _ _) (by lia) (by lia) ?_
  · have h1 := xl _ hx
    have h2 := xB _ hx
    have h3 := xg _ hx
    dsimp only at h1 h2 h3
    exact (notin_ap (all_cons (by first | assumption | exact Ap.of (by lia)) (all_cons (by first | assumption | exact Ap.of (by lia)) (all_cons (by first | assumption | exact Ap.of (by lia)) (all_cons (by first | assumption | exact Ap.of (by lia)) (all_cons (by first | assumption | exact Ap.of (by lia)) all_nil))))))
  · have h1 := xl _ hd
    have h2 := xB _ hd
    have h3 := xg _ hd
    dsimp only at h1 h2 h3
    exact (notin_ap (all_cons (by first | assumption | exact Ap.of (by lia)) (all_cons (by first | assumption | exact Ap.of (by lia)) (all_cons (by first | assumption | exact Ap.of (by lia)) (all_cons (by first | assumption | exact Ap.of (by lia)) (all_cons (by first | assumption | exact Ap.of (by lia)) all_nil))))))
  intro h6 tk6 F6 N6
  have pF : ∀ q ∈ GE, q.1 ∉ [lg, aB, aT, L + 1 + 1 + 1 + 1, L + 1 + 1 + 1] → q ∈ (lg, W.listOf (List.toArray [.bool (b != 0), .bool (c != 0)]) 0) :: (aB, W.listOf (bvs ++ [Value.ref ab]).toArray (nB + 1)) :: (aT, W.listOf (tvs ++ [Value.ref x]).toArray (nT + 1)) :: (L + 1 + 1 + 1 + 1, og1) :: (L + 1 + 1 + 1, oe1) :: offs GE [lg, aB, aT, L + 1 + 1 + 1 + 1, L + 1 + 1 + 1] := fun q h n => .tail _ (.tail _ (.tail _ (.tail _ (.tail _ (offs_mem h n)))))
  have gF2 : (aB, W.listOf (bvs ++ [Value.ref ab]).toArray (nB + 1)) ∈ (lg, W.listOf (List.toArray [.bool (b != 0), .bool (c != 0)]) 0) :: (aB, W.listOf (bvs ++ [Value.ref ab]).toArray (nB + 1)) :: (aT, W.listOf (tvs ++ [Value.ref x]).toArray (nT + 1)) :: (L + 1 + 1 + 1 + 1, og1) :: (L + 1 + 1 + 1, oe1) :: offs GE [lg, aB, aT, L + 1 + 1 + 1 + 1, L + 1 + 1 + 1] := .tail _ (.head _)
  have gF3 : (aT, W.listOf (tvs ++ [Value.ref x]).toArray (nT + 1)) ∈ (lg, W.listOf (List.toArray [.bool (b != 0), .bool (c != 0)]) 0) :: (aB, W.listOf (bvs ++ [Value.ref ab]).toArray (nB + 1)) :: (aT, W.listOf (tvs ++ [Value.ref x]).toArray (nT + 1)) :: (L + 1 + 1 + 1 + 1, og1) :: (L + 1 + 1 + 1, oe1) :: offs GE [lg, aB, aT, L + 1 + 1 + 1 + 1, L + 1 + 1 + 1] := .tail _ (.tail _ (.head _))
  have gF4 : (L + 1 + 1 + 1 + 1, og1) ∈ (lg, W.listOf (List.toArray [.bool (b != 0), .bool (c != 0)]) 0) :: (aB, W.listOf (bvs ++ [Value.ref ab]).toArray (nB + 1)) :: (aT, W.listOf (tvs ++ [Value.ref x]).toArray (nT + 1)) :: (L + 1 + 1 + 1 + 1, og1) :: (L + 1 + 1 + 1, oe1) :: offs GE [lg, aB, aT, L + 1 + 1 + 1 + 1, L + 1 + 1 + 1] := .tail _ (.tail _ (.tail _ (.head _)))
  have gF5 : (L + 1 + 1 + 1, oe1) ∈ (lg, W.listOf (List.toArray [.bool (b != 0), .bool (c != 0)]) 0) :: (aB, W.listOf (bvs ++ [Value.ref ab]).toArray (nB + 1)) :: (aT, W.listOf (tvs ++ [Value.ref x]).toArray (nT + 1)) :: (L + 1 + 1 + 1 + 1, og1) :: (L + 1 + 1 + 1, oe1) :: offs GE [lg, aB, aT, L + 1 + 1 + 1 + 1, L + 1 + 1 + 1] := .tail _ (.tail _ (.tail _ (.tail _ (.head _))))
  generalize ((lg, W.listOf (List.toArray [.bool (b != 0), .bool (c != 0)]) 0) :: (aB, W.listOf (bvs ++ [Value.ref ab]).toArray (nB + 1)) :: (aT, W.listOf (tvs ++ [Value.ref x]).toArray (nT + 1)) :: (L + 1 + 1 + 1 + 1, og1) :: (L + 1 + 1 + 1, oe1) :: offs GE [lg, aB, aT, L + 1 + 1 + 1 + 1, L + 1 + 1 + 1]) = GF at N6 pF gF2 gF3 gF4 gF5
  -- what stood before the turn stands behind it
  have old : ∀ q ∈ (I, oI) :: G, q.1 ≠ aT → q.1 ≠ aR → q.1 ≠ aM → q.1 ≠ aB → q.1 ≠ L + 1 + 1 + 1 + 1 → q.1 ≠ L + 1 + 1 + 1 → q.1 ≠ L + 1 + 1 → q.1 ≠ L + 1 → q ∈ GA ∧ @LT.lt Nat _ q.1 lf ∧ q ∈ GF := fun q hq eT eR eM eB e4 e3 e2 e1 => by
    have h := qA q hq (notin_ne (all_cons eT (all_cons e2 (all_cons e1 all_nil))))
    have a := pA q hq (notin_ne (all_cons eT (all_cons e2 (all_cons e1 all_nil))))
    refine ⟨a, h, ?_⟩
    have hg := Nat.lt_trans h lfg
    exact pF q (pE q (pD q (pC q (pB q a (notin_ne (all_cons (Nat.ne_of_lt h) (all_cons eT (all_cons e3 (all_cons e2 all_nil)))))) (notin_ne (all_cons (Nat.ne_of_lt h) (all_cons e4 (all_cons e2 all_nil))))) (notin_ne (all_cons eR (all_cons e1 all_nil)))) (notin_ne (all_cons (Nat.ne_of_lt hg) (all_cons eM (all_cons e4 (all_cons e3 (all_cons e1 all_nil))))))) (notin_ne (all_cons (Nat.ne_of_lt hg) (all_cons eB (all_cons eT (all_cons e4 (all_cons e3 all_nil))))))
  have oI' := old (I, oI) (.head _) (nI gT).symm (nI gR).symm (nI gM).symm (nI gB).symm (nI gg).symm (nI ge).symm (nI gf).symm (nI gk).symm
  have lI : @LT.lt Nat _ I lf := oI'.2.1
  have ownOld : ∀ q ∈ own, q ∈ GA ∧ @LT.lt Nat _ q.1 lf ∧ q ∈ GF ∧ q.1 ≠ aT ∧ q.1 ≠ L + 1 + 1 + 1 ∧ q.1 ≠ L + 1 + 1 := fun q hq => by
    obtain ⟨h5, hc⟩ := hsafe q hq
    have lst : ∀ {a : Addr} {its : Array Value} {n : Nat}, (a, W.listOf its n) ∈ G → q.1 ≠ a := fun ha => nol_ne N (.tail _ (hownG q hq)) (.tail _ ha) hc
    have e4 : q.1 ≠ L + 1 + 1 + 1 + 1 := Nat.ne_of_gt (Nat.lt_of_succ_lt h5)
    have e3 : q.1 ≠ L + 1 + 1 + 1 := Nat.ne_of_gt (Nat.lt_of_succ_lt (Nat.lt_of_succ_lt h5))
    have e2 : q.1 ≠ L + 1 + 1 := Nat.ne_of_gt (Nat.lt_of_succ_lt (Nat.lt_of_succ_lt (Nat.lt_of_succ_lt h5)))
    have e1 : q.1 ≠ L + 1 := Nat.ne_of_gt (Nat.lt_of_succ_lt (Nat.lt_of_succ_lt (Nat.lt_of_succ_lt (Nat.lt_of_succ_lt h5))))
    have r := old q (.tail _ (hownG q hq)) (lst gT) (lst gR) (lst gM) (lst gB) e4 e3 e2 e1
    exact ⟨r.1, r.2.1, r.2.2, lst gT, e3, e2⟩
  have nwF : ∀ z ∈ nw, z ∈ GF := fun z hz => by
    have h1 := xl z hz
    have h2 := xB z hz
    have h3 := xg z hz
    exact pF z (pE z (nwD z hz) (nwE z hz)) (notin_ap (all_cons (by first | assumption | exact Ap.of (by lia)) (all_cons (by first | assumption | exact Ap.of (by lia)) (all_cons (by first | assumption | exact Ap.of (by lia)) (all_cons (by first | assumption | exact Ap.of (by lia)) (all_cons (by first | assumption | exact Ap.of (by lia)) all_nil))))))
  have nwtF : ∀ z ∈ nwt, z ∈ GF := fun z hz => by
    have h1 := nt2 z hz
    exact pF z (pE2 z hz) (notin_ap (all_cons (by first | assumption | exact Ap.of (by lia)) (all_cons (by first | assumption | exact Ap.of (by lia)) (all_cons (by first | assumption | exact Ap.of (by lia)) (all_cons (by first | assumption | exact Ap.of (by lia)) (all_cons (by first | assumption | exact Ap.of (by lia)) all_nil))))))
  have trF : (tr, tupObj [.int (PlaceOf b (100 + 2 * (0 + (i : Int)))) ub', .int (PlaceOf c (101 + 2 * (0 + (i : Int)))) uc', .bool (FB f0 (b != 0)), .bool (FB f1 (c != 0))]) ∈ GF := pF _ (pE _ gD1 (notin_ap (all_cons (by first | assumption | exact Ap.of (by lia)) (all_cons (by first | assumption | exact Ap.of (by lia)) (all_cons (by first | assumption | exact Ap.of (by lia)) (all_cons (by first | assumption | exact Ap.of (by lia)) (all_cons (by first | assumption | exact Ap.of (by lia)) all_nil))))))) (notin_ap (all_cons (by first | assumption | exact Ap.of (by lia)) (all_cons (by first | assumption | exact Ap.of (by lia)) (all_cons (by first | assumption | exact Ap.of (by lia)) (all_cons (by first | assumption | exact Ap.of (by lia)) (all_cons (by first | assumption | exact Ap.of (by lia)) all_nil))))))
  have mF : (aM, W.listOf (mvs ++ ms).toArray nm1) ∈ GF := pF _ gE2 (notin_ap (all_cons (by first | assumption | exact Ap.of (by lia)) (all_cons (by first | assumption | exact Ap.of (by lia)) (all_cons (by first | assumption | exact Ap.of (by lia)) (all_cons (by first | assumption | exact Ap.of (by lia)) (all_cons (by first | assumption | exact Ap.of (by lia)) all_nil))))))
  have rF : (aR, W.listOf (rvs ++ [Value.ref tr]).toArray (nR + 1)) ∈ GF := pF _ (pE _ gD2 (notin_ap (all_cons (by first | assumption | exact Ap.of (by lia)) (all_cons (by first | assumption | exact Ap.of (by lia)) (all_cons (by first | assumption | exact Ap.of (by lia)) (all_cons (by first | assumption | exact Ap.of (by lia)) (all_cons (by first | assumption | exact Ap.of (by lia)) all_nil))))))) (notin_ap (all_cons (by first | assumption | exact Ap.of (by lia)) (all_cons (by first | assumption | exact Ap.of (by lia)) (all_cons (by first | assumption | exact Ap.of (by lia)) (all_cons (by first | assumption | exact Ap.of (by lia)) (all_cons (by first | assumption | exact Ap.of (by lia)) all_nil))))))
  have fF : (L + 1 + 1, of1) ∈ GF := pF _ (pE _ (pD _ gC4 (notin_ap (all_cons (by first | assumption | exact Ap.of (by lia)) (all_cons (by first | assumption | exact Ap.of (by lia)) all_nil)))) (notin_ap (all_cons (by first | assumption | exact Ap.of (by lia)) (all_cons (by first | assumption | exact Ap.of (by lia)) (all_cons (by first | assumption | exact Ap.of (by lia)) (all_cons (by first | assumption | exact Ap.of (by lia)) (all_cons (by first | assumption | exact Ap.of (by lia)) all_nil))))))) (notin_ap (all_cons (by first | assumption | exact Ap.of (by lia)) (all_cons (by first | assumption | exact Ap.of (by lia)) (all_cons (by first | assumption | exact Ap.of (by lia)) (all_cons (by first | assumption | exact Ap.of (by lia)) (all_cons (by first | assumption | exact Ap.of (by lia)) all_nil))))))
  have kF : (L + 1, ok1) ∈ GF := pF _ gE5 (notin_ap (all_cons (by first | assumption | exact Ap.of (by lia)) (all_cons (by first | assumption | exact Ap.of (by lia)) (all_cons (by first | assumption | exact Ap.of (by lia)) (all_cons (by first | assumption | exact Ap.of (by lia)) (all_cons (by first | assumption | exact Ap.of (by lia)) all_nil))))))
  -- the new firm objects
  obtain ⟨fresh, hfr⟩ : ∃ fresh, fresh = ((tr, tupObj [.int (PlaceOf b (100 + 2 * (0 + (i : Int)))) ub', .int (PlaceOf c (101 + 2 * (0 + (i : Int)))) uc', .bool (FB f0 (b != 0)), .bool (FB f1 (c != 0))]) :: (nwt ++ nw)).filter fun q => decide (q.2.cls ≠ Value.type "list") := ⟨_, rfl⟩
  have fr_in : ∀ q ∈ (tr, tupObj [.int (PlaceOf b (100 + 2 * (0 + (i : Int)))) ub', .int (PlaceOf c (101 + 2 * (0 + (i : Int)))) uc', .bool (FB f0 (b != 0)), .bool (FB f1 (c != 0))]) :: (nwt ++ nw), q.2.cls ≠ Value.type "list" → q ∈ own ++ fresh := fun q hq hc => by
    rw [hfr]; exact List.mem_append_right _ (List.mem_filter.mpr ⟨hq, by simpa using hc⟩)
  have fr_of : ∀ q ∈ fresh, q ∈ GF ∧ q.1 ≠ I ∧ Safe L q := fun q hq => by
    rw [hfr] at hq
    obtain ⟨hq, hc⟩ := List.mem_filter.mp hq
    have hc' : q.2.cls ≠ Value.type "list" := by simpa using hc
    rcases List.mem_cons.mp hq with rfl | hq
    · exact ⟨trF, Nat.ne_of_gt (by lia), by show @LT.lt Nat _ _ _; lia, .inl hc'⟩
    · rcases List.mem_append.mp hq with hq | hq
      · have h1 := nt2 q hq
        exact ⟨nwtF q hq, Nat.ne_of_gt (by lia), by show @LT.lt Nat _ _ _; lia, .inl hc'⟩
      · have h1 := xl q hq
        exact ⟨nwF q hq, Nat.ne_of_gt (by lia), by show @LT.lt Nat _ _ _; lia, .inl hc'⟩
  have rmono : ∀ (j : Nat) (v : Value), rvs[j]? = some v → (rvs ++ [Value.ref tr])[j]? = some v := fun j v h => by
    rw [List.getElem?_append_left (List.getElem?_eq_some_iff.mp h).1]; exact h
  have ho : ∀ q ∈ own, q ∈ own ++ fresh := fun q h => List.mem_append_left _ h
  have hmo : ∀ r ∈ maps, r ∈ maps ++ newRecs b c (100 + 2 * (0 + (i : Int))) (101 + 2 * (0 + (i : Int))) mx0 md0 mx1 md1 := fun r h => List.mem_append_left _ h
  obtain ⟨tb, tb1, tb2, tb3, tb4⟩ := side_ok (maps' := maps ++ newRecs b c (100 + 2 * (0 + (i : Int))) (101 + 2 * (0 + (i : Int))) mx0 md0 mx1 md1) (by lia) cs0 hs0 (fun h => List.mem_append_right _ (newRecs_fst h)) ho hmo rmono
  obtain ⟨tc, tc1, tc2, tc3, tc4⟩ := side_ok (maps' := maps ++ newRecs b c (100 + 2 * (0 + (i : Int))) (101 + 2 * (0 + (i : Int))) mx0 md0 mx1 md1) (by lia) cs1 hs1 (fun h => List.mem_append_right _ (newRecs_snd h)) ho hmo rmono
  have e0 : sideB f0 v0 = FB f0 (b != 0) := sideB_FB (cs0.imp (fun h => h) fun ⟨h, a, _, e, _⟩ => ⟨h, by rw [e]; intro h; cases h⟩)
  have e1 : sideB f1 v1 = FB f1 (c != 0) := sideB_FB (cs1.imp (fun h => h) fun ⟨h, a, _, e, _⟩ => ⟨h, by rw [e]; intro h; cases h⟩)
  rw [e0, e1] at hD
  have inNw : ∀ q ∈ nw, q.2.cls ≠ Value.type "list" → q ∈ own ++ fresh := fun q h => fr_in q (.tail _ (List.mem_append_right _ h))
  have inNwt : ∀ q ∈ nwt, q.2.cls ≠ Value.type "list" → q ∈ own ++ fresh := fun q h => fr_in q (.tail _ (List.mem_append_left _ h))
  have dictNot : ∀ {es : List DictEntry} {n : Nat}, (dictOf es n).cls ≠ Value.type "list" := fun e => nomatch (Value.type.inj e)
  have iB : aB ≠ I := nI gB
  have iM : aM ≠ I := nI gM
  have iR : aR ≠ I := nI gR
  have iT : aT ≠ I := nI gT
  have ig : L + 1 + 1 + 1 + 1 ≠ I := nI gg
  have ie : L + 1 + 1 + 1 ≠ I := nI ge
  have jf : L + 1 + 1 ≠ I := nI gf
  have ik : L + 1 ≠ I := nI gk
  show OwnEnd _ _ _ _ _ _ _
  refine ⟨h6, tk6, m5, offs GF [I], rfl, F6, ?_, fun q hq => (offs_off GF [I]) q hq I (.head _), ds ++ [⟨x, dx, ab, ac, FB f0 (b != 0), FB f1 (c != 0), PlaceOf b (100 + 2 * (0 + (i : Int))), PlaceOf c (101 + 2 * (0 + (i : Int))), tb, tc⟩], rvs ++ [Value.ref tr], mvs ++ ms,
    maps ++ newRecs b c (100 + 2 * (0 + (i : Int))) (101 + 2 * (0 + (i : Int))) mx0 md0 mx1 md1, nB + 1, nm1, nR + 1, nT + 1, og1, oe1, of1, ok1, _, _, _, _, own ++ fresh, ?_, ?_, ?_, ⟨dg1, de1, df1, dk1⟩, ?_, fun q h => ho q (hown0 q h), ?_, ?_, by simp [hdl], by simp [hrl], ?_, ?_, ?_, ?_⟩
  · exact offs_news (pre := [(I, oI)]) N6 (in_cons oI'.2.2 in_nil)
  · have pass : ∀ y, y ≠ Str.ofString "made" → y ≠ Str.ofString "first" → y ≠ Str.ofString "second" → y ≠ Str.ofString "base" → y ≠ Str.ofString "changes" → y ≠ Str.ofString "size" → y ≠ Str.ofString "drawn" → m5 y = m y :=
      fun y a1 a2 a3 a4 a5 a6 a7 => (mE y a1).trans ((mC y a2 a3).trans (mA y a4 a5 a6 a7))
    exact ⟨(pass _ (by decide) (by decide) (by decide) (by decide) (by decide) (by decide) (by decide)).trans mB, mm5, (pass _ (by decide) (by decide) (by decide) (by decide) (by decide) (by decide) (by decide)).trans mR,
      (pass _ (by decide) (by decide) (by decide) (by decide) (by decide) (by decide) (by decide)).trans mT, (pass _ (by decide) (by decide) (by decide) (by decide) (by decide) (by decide) (by decide)).trans mH, (pass _ (by decide) (by decide) (by decide) (by decide) (by decide) (by decide) (by decide)).trans mS⟩
  · have eB : (ds ++ [(⟨x, dx, ab, ac, FB f0 (b != 0), FB f1 (c != 0), PlaceOf b (100 + 2 * (0 + (i : Int))), PlaceOf c (101 + 2 * (0 + (i : Int))), tb, tc⟩ : Demo)]).map (fun d => Value.ref d.ab) = bvs ++ [Value.ref ab] := by rw [List.map_append, hBV]; rfl
    have eT : (Value.none :: Value.ref l1 :: Value.ref l2 :: (ds ++ [(⟨x, dx, ab, ac, FB f0 (b != 0), FB f1 (c != 0), PlaceOf b (100 + 2 * (0 + (i : Int))), PlaceOf c (101 + 2 * (0 + (i : Int))), tb, tc⟩ : Demo)]).map (fun d => Value.ref d.x)) = tvs ++ [Value.ref x] := by rw [List.map_append, ← hTV]; rfl
    rw [eB, eT]
    exact ⟨offs_mem gF2 (notin_ne (all_cons iB all_nil)), offs_mem mF (notin_ne (all_cons iM all_nil)), offs_mem rF (notin_ne (all_cons iR all_nil)), offs_mem gF3 (notin_ne (all_cons iT all_nil))⟩
  · exact ⟨offs_mem gF4 (notin_ne (all_cons ig all_nil)), offs_mem gF5 (notin_ne (all_cons ie all_nil)), offs_mem fF (notin_ne (all_cons jf all_nil)), offs_mem kF (notin_ne (all_cons ik all_nil))⟩
  · intro q hq
    obtain ⟨n1, n2, n3, n4, n5, n6, n7, n8⟩ := hex q hq
    exact offs_mem (old q (.tail _ (hext q hq)) n1 n2 n3 n4 n5 n6 n7 n8).2.2 (notin_ne (all_cons (nI (hext q hq)) all_nil))
  · intro q hq
    rcases List.mem_append.mp hq with hq | hq
    · exact offs_mem (ownOld q hq).2.2.1 (notin_ne (all_cons (nI (hownG q hq)) all_nil))
    · exact offs_mem (fr_of q hq).1 (notin_ne (all_cons (fr_of q hq).2.1 all_nil))
  · intro q hq
    rcases List.mem_append.mp hq with hq | hq
    · exact hsafe q hq
    · exact (fr_of q hq).2.2
  · intro k d hk
    by_cases hlt : k < ds.length
    · rw [List.getElem?_append_left hlt] at hk
      exact (hds k d hk).mono ho hmo rmono
    · rw [List.getElem?_append_right (by lia)] at hk
      have hk0 : k - ds.length = 0 := by
        cases hn : k - ds.length with
        | zero => rfl
        | succ n => rw [hn] at hk; simp at hk
      rw [hk0] at hk
      have hki : k = i := by lia
      subst hki
      cases hk
      refine ⟨inNw _ hx (fun e => nomatch e), ⟨_, inNw _ hd dictNot, hD⟩, tb1, tc1, tb2, tc2, ⟨tr, ub', uc', ?_, fr_in _ (.head _) (fun e => nomatch (Value.type.inj e))⟩, tb3, tc3, tb4, tc4⟩
      rw [List.getElem?_append_right (by lia), hrl, Nat.sub_self]; rfl
  · refine ⟨fun r hr => ?_, List.pairwise_append.mpr ⟨hmaps.2, newRecs_apart (by lia) (fun hb hc => hap ?_ ?_), fun r hr q hq => ?_⟩⟩
    · rcases List.mem_append.mp hr with hr | hr
      · obtain ⟨h1, ⟨o, h2, h3⟩, h4, h5⟩ := hmaps.1 r hr
        exact ⟨ho _ h1, ⟨o, ho _ h2, h3⟩, h4, by lia⟩
      · rcases newRecs_of hr with ⟨hb, rfl⟩ | ⟨hc, rfl⟩
        · rcases hs0 with ⟨_, _, h1, o0, h2, h3⟩ | ⟨hn, _⟩
          · obtain ⟨_, _, rfl, _⟩ := id h3
            exact ⟨inNw _ h1 (fun e => nomatch e), ⟨_, inNw _ h2 dictNot, h3⟩, by dsimp only; lia, by dsimp only; lia⟩
          · rcases cs0 with ⟨_, h⟩ | ⟨h, _⟩
            · exact absurd h hn
            · exact absurd hb h
        · rcases hs1 with ⟨_, _, h1, o0, h2, h3⟩ | ⟨hn, _⟩
          · obtain ⟨_, _, rfl, _⟩ := id h3
            exact ⟨inNw _ h1 (fun e => nomatch e), ⟨_, inNw _ h2 dictNot, h3⟩, by dsimp only; lia, by dsimp only; lia⟩
          · rcases cs1 with ⟨_, h⟩ | ⟨h, _⟩
            · exact absurd h hn
            · exact absurd hc h
    · rcases cs0 with ⟨_, h⟩ | ⟨h, _⟩
      · exact h
      · exact absurd hb h
    · rcases cs1 with ⟨_, h⟩ | ⟨h, _⟩
      · exact h
      · exact absurd hc h
    · obtain ⟨_, ⟨o, h2, _⟩, _, h5⟩ := hmaps.1 r hr
      obtain ⟨a1, a2, _, a4, a5, a6⟩ := ownOld _ h2
      have below : ∀ z ∈ nw, r.dx < z.1 := fun z hz => qB (r.dx, o) a1 (notin_ne (all_cons (Nat.ne_of_lt a2) (all_cons a4 (all_cons a5 (all_cons a6 all_nil))))) z hz
      rcases newRecs_of hq with ⟨hb, rfl⟩ | ⟨hc, rfl⟩
      · refine ⟨by dsimp only; lia, ?_⟩
        rcases hs0 with ⟨_, _, _, o0, h2, _⟩ | ⟨hn, _⟩
        · exact Nat.ne_of_lt (below _ h2)
        · rcases cs0 with ⟨_, h⟩ | ⟨h, _⟩
          · exact absurd h hn
          · exact absurd hb h
      · refine ⟨by dsimp only; lia, ?_⟩
        rcases hs1 with ⟨_, _, _, o0, h2, _⟩ | ⟨hn, _⟩
        · exact Nat.ne_of_lt (below _ h2)
        · rcases cs1 with ⟨_, h⟩ | ⟨h, _⟩
          · exact absurd h hn
          · exact absurd hc h
  · obtain ⟨t0, t1, u0, u1, rfl, hm0, hm1⟩ := hms
    rw [show (100 + 2 * (0 + (i : Int)) + (0 + ((0 : Nat) : Int))) = 100 + 2 * (0 + (i : Int)) by lia] at hm0
    rw [show (100 + 2 * (0 + (i : Int)) + (0 + ((0 + 1 : Nat) : Int))) = 101 + 2 * (0 + (i : Int)) by lia] at hm1
    refine MadeAre.append (hmade.mono ho) (made_new (u0 := u0) (u1 := u1) (fun hb => ?_) (fun hc => ?_))
    · rcases hs0 with ⟨_, e, _⟩ | ⟨hn, _⟩
      · cases e
        exact inNwt _ (hm0 (bne_false hb)) (fun e => nomatch (Value.type.inj e))
      · rcases cs0 with ⟨_, h⟩ | ⟨h, _⟩
        · exact absurd h hn
        · exact absurd hb h
    · rcases hs1 with ⟨_, e, _⟩ | ⟨hn, _⟩
      · cases e
        exact inNwt _ (hm1 (bne_false hc)) (fun e => nomatch (Value.type.inj e))
      · rcases cs1 with ⟨_, h⟩ | ⟨h, _⟩
        · exact absurd h hn
        · exact absurd hc h
  · rw [List.length_append]
    have := @newRecs_len b c (100 + 2 * (0 + (i : Int))) (101 + 2 * (0 + (i : Int))) mx0 md0 mx1 md1
    lia
end

section
open PySem PySem.W PySem.Calls PyProof.Rows Builtin
set_option Elab.async false
set_option maxRecDepth 100000
set_option maxHeartbeats 8000000
theorem kind_hasattr : builtinKind "hasattr" = none := by decide +kernel
theorem plain_hasattr : plainId "hasattr" = true := by decide +kernel
theorem entry_hasattr : entryFor table "hasattr" = some Builtin.«hasattr» := entryFor_of_tree (by kernel_rfl)
theorem args_hasattr (a b : Value) : argsOk "hasattr" ⟨[a, b], []⟩ := by unfold argsOk; kernel_rfl
section
variable {prog : Program} {w : World} {A : Around} {E : Value → Shared → Prop} {s : Shared} {K : Frag} {x C : Addr} {ox : Obj} {es : List DictEntry} {n : Nat} {name : PySem.Str} {t : Tok} {cd : ClassData} {Q : Value → Shared → Prop}
theorem hasattr_miss (X : K.In s.heap) (I : InstAt s.heap x ox C (some (dictOf es n))) (hga : findIn K (.ref C) "__getattribute__" = some (some (.builtin "object.__getattribute__"))) (hgh : findIn K (.ref C) "__getattr__" = some none)
    (hcd : clsIn K C = some cd) (hcn : cd.name.cps.foldl (fun k c => k + (Str.utf8Of c).length) 0 ≤ 100) (hf : findObj K C (some (dictOf es n)) name = some .missing) (hmod : subIn K (.ref C) (.type "module") = some false) (hh : A.handled = none)
    (hsz : (Str.ofString (toString "'" ++ toString cd.name.toString ++ toString "' object has no attribute '") ++ name ++ Str.ofString "'").length ≤ sizeLine)
    (h : ∀ h' tk, (∀ b o, s.heap.get? b = some o → h'.get? b = some o) → Q (.bool false) { s with heap := h', toks := tk }) :
    wpAny (model prog w) A (call (.builtin "hasattr") [.ref x, .str name t]) Q E s := by
  refine Calls.call_function_entry kind_hasattr plain_hasattr entry_hasattr (args_hasattr _ _) ?_
  have L0 := I.type (M := model prog w)
  unfold Builtin.«hasattr»
  refine wpAny_bind (wpAny_of_eq (a := [.ref x, .str name t]) rfl ?_)
  dsimp only
  refine wpAny_bind (wpAny_of_eq (a := ()) rfl ?_)
  rw [if_neg (by simp)]
  refine wpAny_bind (L0.here ?_)
  dsimp only
  refine wpAny_bind ?_
  show wpAny _ _ (isInstance (Value.ref x) (Value.type "module") >>= fun b => if (!b) = true then pure 0 else _) _ _ _
  refine wpAny_bind ?_
  unfold isInstance
  refine wpAny_bind (L0.here ((looks_subIn X hmod).here ?_))
  rw [if_pos (by rfl)]
  refine wpAny_pure ?_
  rw [if_neg (by simp)]
  refine wpAny_bind ?_
  unfold getAttrBy?
  refine wpAny_bind (wpAny_attempt ?_)
  unfold getAttrBy
  refine wpAny_holding (wpAny_bind (L0.here (wpAny_bind ((looks_findIn X hga).here ?_))))
  dsimp only
  rw [if_pos (by rfl)]
  unfold getAttrEveryday
  refine wpAny_bind (wpAny_onRaise (wpAny_runValue (codeAny_builtin F.plainObj_entry_getattr_hooked ?_)))
  unfold Builtin.«proto.getattr_hooked»
  dsimp only
  refine wpAny_bind (wpAny_of_eq (a := name) rfl ?_)
  refine wpAny_bind (L0.here (wpAny_bind ((looks_find X I hf).here ?_)))
  dsimp only
  refine wpAny_bind ((looks_findIn X hgh).here ?_)
  unfold ObjectAttr.missingOrHook ObjectAttr.noSuchAttribute
  dsimp only
  unfold typeNameOfCut shownTypeOf
  refine wpAny_bind (wpAny_bind (wpAny_bind (L0.here ?_)))
  rw [if_neg (by intro e; cases e)]
  refine wpAny_pure ?_
  show wpAny _ _ (classData C >>= _) _ _ _
  refine wpAny_bind ((looks_clsIn X hcd).here ?_)
  rw [if_pos hcn]
  refine wpAny_pure (wpAny_raiseAttrError hh ?_ hsz)
  intro h' tk e he
  dsimp only [noteIf]
  rw [if_neg Bool.false_ne_true]
  refine wpAny_pure ?_
  unfold isInstance
  obtain ⟨t1, t2, ht⟩ := he.there
  have hT : ({ s with heap := h', toks := tk } : Shared).TypeIs (.ref e) "AttributeError" := ⟨_, ht, rfl⟩
  refine wpAny_bind (wpAny_bind (wpAny_typeOf hT (wpAny_of_eq sub_AttributeError ?_)))
  rw [if_pos rfl]
  refine wpAny_pure ?_
  rw [if_neg (by decide)]
  exact wpAny_pure ⟨_, rfl, h _ _ he.keeps⟩
end
end

section
open PySem PySem.W PySem.Calls PyProof.Rows Builtin
set_option Elab.async false
set_option maxRecDepth 100000
set_option maxHeartbeats 8000000
example : ∀ w : World, (hd.heap_39 w.params).In default → Challenge.rw_la0046_01.Holds → True := by k_fill; intros; trivial
example : True := by
  k_with_none
  trivial
local macro_rules | `(tactic| k_lt $h:ident) => `(tactic| (have kRaw := $h; replace $h := allLt_of $h; simp only [AllLt, and_true] at $h:ident))
local macro_rules | `(tactic| k_all) => `(tactic| (intro q hq; exact Nat.ne_of_lt (lt_raw (by assumption) (by k_ownIn))))
local macro_rules | `(tactic| k_allIn) => `(tactic| (intro p hp; k_ownIn))
theorem fr_keeps {h₀ h h' : Heap} {L : Addr} {m : Str → Option Value} (F : Fr h₀ L h m) (k : ∀ b o, h.get? b = some o → h'.get? b = some o) : Fr h₀ L h' m := ⟨F.ns.at' fun o e => k _ o e, fun b o e => k b o (F.keep b o e), F.above⟩
theorem news_keeps {h₀ h h' : Heap} {L : Addr} {news : List (Addr × Obj)} (N : News h₀ L h news) (k : ∀ b o, h.get? b = some o → h'.get? b = some o) : News h₀ L h' news := fun p hp => ⟨k _ _ (N p hp).1, (N p hp).2⟩
theorem demo_cls (pa : Params) : ∃ cd0, clsIn (Mine.hd.heap_39 pa) 372 = some cd0 ∧ cd0.hasDict = true ∧ cd0.name = Str.ofString "DemoStorage" := ⟨_, by with_unfolding_all rfl, by with_unfolding_all rfl, by with_unfolding_all rfl⟩
theorem demo_msg : (Str.ofString (toString "'" ++ toString (Str.ofString "DemoStorage").toString ++ toString "' object has no attribute '") ++ Str.ofString "registerDB" ++ Str.ofString "'").length ≤ sizeLine := by decide +kernel
theorem demo_name : (Str.ofString "DemoStorage").cps.foldl (fun k c => k + (Str.utf8Of c).length) 0 ≤ 100 := by decide +kernel
theorem findObj_miss {K : Frag} {C : Addr} {name : Str} {od : Obj} {cd : ClassData} (hcd : clsIn K C = some cd) (hd : cd.hasDict = true) (ha : findIn K (.ref C) name = some none) (hc : copiedNames.contains name = false) (hl : lookIn name od = some none) :
    findObj K C (some od) name = some .missing := by
  unfold findObj
  have ho : W.ownOf cd (some od) name = some none := by unfold W.ownOf; rw [if_pos hd]; exact hl
  rw [hcd, Option.bind_some, ha, Option.bind_some]
  simp only [Option.bind_some, ho, hc, Bool.false_and, Bool.false_eq_true, if_false]
noncomputable def AdD (o : Obj) (sv : Value) (cl : Bool) : Prop := ∃ z1 z2 z3 t1 t2 t3 sa, o = if cl then dictOf [⟨z1, .str (Str.ofString "_storage") t1, sv⟩, ⟨z2, .str (Str.ofString "_instances") t2, .ref sa⟩, ⟨z3, .str (Str.ofString "closed") t3, .bool true⟩] 3
  else dictOf [⟨z1, .str (Str.ofString "_storage") t1, sv⟩, ⟨z2, .str (Str.ofString "_instances") t2, .ref sa⟩] 2
local macro_rules | `(tactic| k_room) => `(tactic| ktr_room)
theorem mk_ad {w : World} {p : Program} {loose : List Str} {mean : ExcName → Option Value} {mg mb : Str → Option Value} {A : Around} {env : Env} {outer : List Env} {A₀ : Around} {base h₀ : Heap} {L : Addr} {m : Str → Option Value} {news : List (Addr × Obj)} {s : Shared} {Q E : Value → Shared → Prop}
    {d dd : Addr} {o : Obj} {b c : Value} {cb cc : Bool}
    (hh : A.handled = none) (hA : A.frames = some (env :: outer)) (hf : env.frame = some L) (hk : env.scope.kind = .function) (hdp : A.depth + 10 < recursionLimit)
    (B : Below A₀ base outer h₀) (F : Fr h₀ L s.heap m) (X : (hd.heap_39 w.params).In h₀) (N : News h₀ L s.heap news) (T : Top p loose mean mg mb h₀)
    (hx : (d, instObj 372 dd) ∈ news) (hd : (dd, o) ∈ news) (hD : DemoD o b c cb cc)
    (ret : ∀ {x dx : Addr} {o : Obj} {nw : List (Addr × Obj)} {h' : Heap} {tk' : Nat}, Fr h₀ L h' m → News h₀ L h' (nw ++ news) → (∀ q ∈ news, ∀ z ∈ nw, q.1 < z.1) → (x, instObj 505 dx) ∈ nw → (dx, o) ∈ nw → AdD o (.ref d) false → Q (.ref x) { s with heap := h', toks := tk' }) :
    wpAny (model Challenge.rw_la0046_01.row.prog w) A (call (.ref 505) [.ref d]) Q E s := by
  rcases A with ⟨ah, dp, afr, gd, un⟩
  dsimp only at hh hA hdp
  subst hh
  subst hA
  obtain ⟨es, n', rfl, h1, h2, h3, h4, h5, h6, h7, h8, h9⟩ := id hD
  refine call_cls (fI := 445) F X N (by k_is) (by k_is) (by k_is) ?_
  intro x dx h1 F1 N1 l1 l2
  k_dflt (refine' code_def B F1 X N1 T rfl hf hk ?k6 ?k7 ?k8 ?k9 ?kB ?_ ?c2 ?c3 ?c4 ?c5; (case k6 => k_is); (case k7 => k_is); (case k8 => ktr_room); (case k9 => exact BindsTo.of_eq rfl); (case c5 => decide); (case kB => exact locs rfl); (case c2 => exact rfl); (case c3 => exact rfl); (case c4 => exact rfl); k_whole)
  intro g' L' h2 FG' F' N' B' X' T'
  dsimp only
  k_fold
  replace l2 := ltN l2
  k_steps
  obtain ⟨cd0, hcd0, hcd2, hcd4⟩ : ∃ cd0, clsIn (Mine.hd.heap_39 w.params) 372 = some cd0 ∧ cd0.hasDict = true ∧ cd0.name = Str.ofString "DemoStorage" := demo_cls _
  rename News g' L' _ _ => N2
  rename Fr g' L' _ _ => F2
  refine hasattr_miss (X'.keeps F2.keep) (InstAt.of_news N2 (.tail _ (.tail _ (.tail _ hx))) (.tail _ (.tail _ (.tail _ hd)))) (by k_is) (by k_is) hcd0 (by rw [hcd4]; exact demo_name) (findObj_miss hcd0 hcd2 (by k_is) (by decide +kernel) ?_) (by k_is) rfl (by rw [hcd4]; exact demo_msg) ?_
  · exact h8
  intro h9 tk9 hk9
  have F3 := fr_keeps F2 hk9
  have N3 := news_keeps N2 hk9
  clear F2 N2
  k_steps
  rename News h₀ L _ _ => N4
  rename Fr h₀ L _ _ => F4
  refine ret (nw := [_, _, _]) F4 N4 ?_ (.tail _ (.head _)) (.tail _ (.tail _ (.head _))) ⟨_, _, 0, _, _, 0, _, rfl⟩
  intro q hq z hz
  have h0 := l1 q hq
  simp only [List.mem_cons, List.not_mem_nil, or_false] at hz
  rcases hz with rfl | rfl | rfl
  · exact lt_raw (p := q) (by assumption) (.tail _ (.tail _ hq))
  · exact Nat.lt_trans h0 l2
  · exact h0
end

section
open PySem PySem.W PySem.Calls PyProof.Rows Builtin
set_option Elab.async false
set_option maxRecDepth 100000
set_option maxHeartbeats 8000000
example : ∀ w : World, (hd.heap_39 w.params).In default → Challenge.rw_la0046_01.Holds → True := by k_fill; intros; trivial
noncomputable def p2A : List Stmt := [stmtAt lawBody 6]
noncomputable def p2B : List Stmt := [stmtAt lawBody 7, stmtAt lawBody 8]
example : True := by
  k_with_none
  trivial
local macro_rules | `(tactic| k_lt $h:ident) => `(tactic| (have kRaw := $h; replace $h := allLt_of $h; simp only [AllLt, and_true] at $h:ident))
local macro_rules | `(tactic| k_all) => `(tactic| (intro q hq; exact Nat.ne_of_lt (lt_raw (by assumption) (by k_ownIn))))
example : True := by
  k_with "eval Name" => ((k_here; k_dflt (refine' nameX_L ?F ?v ?_ ?a ?b; (case F => k_asm); (case a => rfl); (case b => rfl); (case v => assumption); k_whole)))
  trivial
local macro_rules | `(tactic| k_allIn) => `(tactic| (intro p hp; k_ownIn))
local macro_rules | `(tactic| k_all) => `(tactic| exact OwnOff.ne (by assumption) (by k_memK))
theorem off1_mem {D : Addr} : ∀ {l : List (Addr × Obj)}, LCg.Off1 D l → ∀ q ∈ l, q.1 ≠ D
  | [], _, _, hq => nomatch hq
  | p :: r, h, q, hq => by
    rcases List.mem_cons.mp hq with rfl | hq
    · exact h.1
    · exact off1_mem h.2 q hq
noncomputable def Above (r nw : List (Addr × Obj)) : Prop := ∀ q ∈ r, ∀ z ∈ nw, q.1 < z.1
theorem above_of {r nw : List (Addr × Obj)} (h : ∀ q ∈ r, ∀ z ∈ nw, q.1 < z.1) : Above r nw := h
theorem above_use {r nw : List (Addr × Obj)} {a b : Addr} {o q : Obj} (hz : (b, q) ∈ nw) (h : Above r nw) (hq : (a, o) ∈ r) : @LT.lt Nat _ a b := h _ hq _ hz
theorem adEnd {h₀ : Heap} {L I C D : Addr} {oI oC oD : Obj} {m : Str → Option Value} {s₁ : Shared} {S : List (Addr × Obj) → Prop} {rest : Value → List (Addr × Obj) → Prop} {y : Value} {h' : Heap} {tk : Nat} {nw r : List (Addr × Obj)}
    (F : Fr h₀ L h' m) (N : News h₀ L h' (nw ++ ((I, oI) :: (C, oC) :: (D, oD) :: r))) (ord : Above ((I, oI) :: (C, oC) :: (D, oD) :: r) nw) (off : LCg.Off3 I C D r) (hS : S (nw ++ r)) (q : rest y (nw ++ r)) :
    LCg.CompEnd h₀ L m s₁ I oI C oC D oD S rest y { s₁ with heap := h', toks := tk } := by
  refine LCg.CompEnd.intro F N (nw ++ r) (fun p hp => ?_) (LCg.Off3.of fun p hp => ?_) hS q
  · simp only [List.mem_cons, List.mem_append] at hp ⊢
    rcases hp with h | h | h | h | h <;> simp [h]
  · rcases List.mem_append.mp hp with hp | hp
    · exact ⟨Nat.ne_of_gt (ord _ (.head _) p hp), Nat.ne_of_gt (ord _ (.tail _ (.head _)) p hp), Nat.ne_of_gt (ord _ (.tail _ (.tail _ (.head _))) p hp)⟩
    · exact off.mem p hp
theorem ord_app {a : Addr} {nw r : List (Addr × Obj)} (h : ∀ q ∈ nw ++ r, q.1 < a) : (∀ q ∈ r, q.1 < a) := fun q hq => h q (List.mem_append_right _ hq)
example : True := by
  k_with "call ref" => (((with_reducible show wpAny _ _ (call (Value.ref 505) _ _) _ _ _); (refine' mk_ad rfl rfl rfl rfl ?d ?B ?F ?X ?N ?T ?hx ?hd ?hD ?_; (case d => ktr_room); (case B => k_asm); (case F => k_asm); (case X => k_asm); (case N => k_asm); (case T => k_asm); (case hx => (repeat (first | assumption | refine List.mem_cons_of_mem _ ?_ | refine List.mem_append_right _ ?_))); (case hd => (repeat (first | assumption | refine List.mem_cons_of_mem _ ?_ | refine List.mem_append_right _ ?_))); (case hD => assumption)); intro zzx' zzdx' zzo' zznw' zzh' zztk' zzF' zzN' zzord' zzhx' zzhd' zzhD'; replace zzord' := above_of zzord'))
  trivial
example : True := by
  k_with "CompEnd" => ((k_dflt (refine adEnd (by k_asm) (by k_asm) (by assumption) (by assumption) (.inr ⟨_, (by (repeat (first | exact List.mem_cons_self | refine List.mem_append_right _ ?_ | refine List.mem_cons_of_mem _ ?_))), rfl, _, rfl⟩) ?_)))
  trivial
theorem part2A {w : World} {p : Program} {loose : List Str} {mean : ExcName → Option Value} {mg mb : Str → Option Value} {h₀ : Heap} {L fa : Addr} {cd : Value} {s : Shared} {aT : Addr} {v0 v1 v2 : Value} {d0 d1 d2 d3 : Addr} {nT : Nat} {own : List (Addr × Obj)} {m : Str → Option Value} {Q : Flow → Shared → Prop} {E : Value → Shared → Prop}
    (X : (hd.heap_39 w.params).In h₀) (T : Top p loose mean mg mb h₀) (B : Below callerA h₀ [] h₀)
    (F : Fr h₀ L s.heap m) (hm1 : m (Str.ofString "things") = some (.ref aT)) 
    (N : News h₀ L s.heap ((aT, W.listOf (List.toArray [v0, v1, v2, .ref d0, .ref d1, .ref d2, .ref d3]) nT) :: own)) (hoff : OwnOff own [aT])
    {e0 e1 e2 e3 : Addr} {q0 q1 q2 q3 : Obj} {b0 b1 b2 b3 c0 c1 c2 c3 : Value} {x0 x1 x2 x3 y0 y1 y2 y3 : Bool}
    (hx0 : (d0, instObj 372 e0) ∈ own) (hx1 : (d1, instObj 372 e1) ∈ own) (hx2 : (d2, instObj 372 e2) ∈ own) (hx3 : (d3, instObj 372 e3) ∈ own)
    (he0 : (e0, q0) ∈ own) (he1 : (e1, q1) ∈ own) (he2 : (e2, q2) ∈ own) (he3 : (e3, q3) ∈ own)
    (hD0 : DemoD q0 b0 c0 x0 y0) (hD1 : DemoD q1 b1 c1 x1 y1) (hD2 : DemoD q2 b2 c2 x2 y2) (hD3 : DemoD q3 b3 c3 x3 y3)
    (ret : ∀ {aA : Addr} {h' : Heap} {tk' : Nat} {m' : Str → Option Value} {z0 z1 z2 z3 f0 f1 f2 f3 : Addr} {p0 p1 p2 p3 : Obj} {G : List (Addr × Obj)}, Fr h₀ L h' m' → News h₀ L h' G → m' (Str.ofString "adapters") = some (.ref aA) → (∀ y, y ≠ Str.ofString "adapters" → m' y = m y) →
      (∀ q ∈ (aT, W.listOf (List.toArray [v0, v1, v2, .ref d0, .ref d1, .ref d2, .ref d3]) nT) :: own, q ∈ G) → (aA, W.listOf (List.toArray [.ref z0, .ref z1, .ref z2, .ref z3]) 4) ∈ G →
      (z0, instObj 505 f0) ∈ G → (z1, instObj 505 f1) ∈ G → (z2, instObj 505 f2) ∈ G → (z3, instObj 505 f3) ∈ G → (f0, p0) ∈ G → (f1, p1) ∈ G → (f2, p2) ∈ G → (f3, p3) ∈ G →
      AdD p0 (.ref d0) false → AdD p1 (.ref d1) false → AdD p2 (.ref d2) false → AdD p3 (.ref d3) false → (@LT.lt Nat _ f0 f1) → (@LT.lt Nat _ f1 f2) → (@LT.lt Nat _ f2 f3) → (∀ q ∈ (aT, W.listOf (List.toArray [v0, v1, v2, .ref d0, .ref d1, .ref d2, .ref d3]) nT) :: own, @LT.lt Nat _ q.1 f0) → (∀ q ∈ (aT, W.listOf (List.toArray [v0, v1, v2, .ref d0, .ref d1, .ref d2, .ref d3]) nT) :: own, q.1 ≠ aA) →
      Q .next { s with heap := h', toks := tk' }) :
    wpAny (model Challenge.rw_la0046_01.row.prog w) (callerA.deeper (lawEnv L fa cd)) (execs p2A (lawEnv L fa cd)) Q E s := by
  conv in p2A => whnf
  conv in stmtAt lawBody 6 => whnf
  unfold lawEnv
  conv in (occs := *) lawScope => all_goals whnf
  try k_fold
  k_steps
  rename News _ _ _ _ => Nz
  rename Fr _ _ _ _ => Fz
  refine' ret Fz Nz ?m1 ?m2 ?own ?aa ?a0 ?a1 ?a2 ?a3 ?b0 ?b1 ?b2 ?b3 ?c0 ?c1 ?c2 ?c3 ?l0 ?l1 ?l2 ?l3 ?l4
  (case m1 => exact rfl)
  (case m2 => intro y hy; simp only [hy, if_false])
  (case aa => exact .head _)
  (case a0 => (first | exact .tail _ (List.mem_append_left _ (by assumption)) | exact .tail _ (List.mem_append_right _ (List.mem_append_left _ (by assumption))) | exact .tail _ (List.mem_append_right _ (List.mem_append_right _ (List.mem_append_left _ (by assumption)))) | exact .tail _ (List.mem_append_right _ (List.mem_append_right _ (List.mem_append_right _ (List.mem_append_left _ (by assumption)))))))
  (case a1 => (first | exact .tail _ (List.mem_append_left _ (by assumption)) | exact .tail _ (List.mem_append_right _ (List.mem_append_left _ (by assumption))) | exact .tail _ (List.mem_append_right _ (List.mem_append_right _ (List.mem_append_left _ (by assumption)))) | exact .tail _ (List.mem_append_right _ (List.mem_append_right _ (List.mem_append_right _ (List.mem_append_left _ (by assumption)))))))
  (case a2 => (first | exact .tail _ (List.mem_append_left _ (by assumption)) | exact .tail _ (List.mem_append_right _ (List.mem_append_left _ (by assumption))) | exact .tail _ (List.mem_append_right _ (List.mem_append_right _ (List.mem_append_left _ (by assumption)))) | exact .tail _ (List.mem_append_right _ (List.mem_append_right _ (List.mem_append_right _ (List.mem_append_left _ (by assumption)))))))
  (case a3 => (first | exact .tail _ (List.mem_append_left _ (by assumption)) | exact .tail _ (List.mem_append_right _ (List.mem_append_left _ (by assumption))) | exact .tail _ (List.mem_append_right _ (List.mem_append_right _ (List.mem_append_left _ (by assumption)))) | exact .tail _ (List.mem_append_right _ (List.mem_append_right _ (List.mem_append_right _ (List.mem_append_left _ (by assumption)))))))
  (case c0 => assumption)
  (case c1 => assumption)
  (case c2 => assumption)
  (case c3 => assumption)
  (case b0 => (first | exact .tail _ (List.mem_append_left _ (by assumption)) | exact .tail _ (List.mem_append_right _ (List.mem_append_left _ (by assumption))) | exact .tail _ (List.mem_append_right _ (List.mem_append_right _ (List.mem_append_left _ (by assumption)))) | exact .tail _ (List.mem_append_right _ (List.mem_append_right _ (List.mem_append_right _ (List.mem_append_left _ (by assumption)))))))
  (case b1 => (first | exact .tail _ (List.mem_append_left _ (by assumption)) | exact .tail _ (List.mem_append_right _ (List.mem_append_left _ (by assumption))) | exact .tail _ (List.mem_append_right _ (List.mem_append_right _ (List.mem_append_left _ (by assumption)))) | exact .tail _ (List.mem_append_right _ (List.mem_append_right _ (List.mem_append_right _ (List.mem_append_left _ (by assumption)))))))
  (case b2 => (first | exact .tail _ (List.mem_append_left _ (by assumption)) | exact .tail _ (List.mem_append_right _ (List.mem_append_left _ (by assumption))) | exact .tail _ (List.mem_append_right _ (List.mem_append_right _ (List.mem_append_left _ (by assumption)))) | exact .tail _ (List.mem_append_right _ (List.mem_append_right _ (List.mem_append_right _ (List.mem_append_left _ (by assumption)))))))
  (case b3 => (first | exact .tail _ (List.mem_append_left _ (by assumption)) | exact .tail _ (List.mem_append_right _ (List.mem_append_left _ (by assumption))) | exact .tail _ (List.mem_append_right _ (List.mem_append_right _ (List.mem_append_left _ (by assumption)))) | exact .tail _ (List.mem_append_right _ (List.mem_append_right _ (List.mem_append_right _ (List.mem_append_left _ (by assumption)))))))
  (case own => exact fun q hq => .tail _ (List.mem_append_right _ (List.mem_append_right _ (List.mem_append_right _ (List.mem_append_right _ (.tail _ hq))))))
  (case l0 => refine' above_use ?z ?h ?q; (case z => assumption); (case h => assumption); (case q => (first | exact .tail _ (.tail _ (.tail _ (List.mem_append_left _ (by assumption)))) | exact .tail _ (.tail _ (.tail _ (List.mem_append_right _ (List.mem_append_left _ (by assumption))))) | exact .tail _ (.tail _ (.tail _ (List.mem_append_right _ (List.mem_append_right _ (List.mem_append_left _ (by assumption)))))) | exact .tail _ (.tail _ (.tail _ (List.mem_append_right _ (List.mem_append_right _ (List.mem_append_right _ (List.mem_append_left _ (by assumption))))))))))
  (case l1 => refine' above_use ?z ?h ?q; (case z => assumption); (case h => assumption); (case q => (first | exact .tail _ (.tail _ (.tail _ (List.mem_append_left _ (by assumption)))) | exact .tail _ (.tail _ (.tail _ (List.mem_append_right _ (List.mem_append_left _ (by assumption))))) | exact .tail _ (.tail _ (.tail _ (List.mem_append_right _ (List.mem_append_right _ (List.mem_append_left _ (by assumption)))))) | exact .tail _ (.tail _ (.tail _ (List.mem_append_right _ (List.mem_append_right _ (List.mem_append_right _ (List.mem_append_left _ (by assumption))))))))))
  (case l2 => refine' above_use ?z ?h ?q; (case z => assumption); (case h => assumption); (case q => (first | exact .tail _ (.tail _ (.tail _ (List.mem_append_left _ (by assumption)))) | exact .tail _ (.tail _ (.tail _ (List.mem_append_right _ (List.mem_append_left _ (by assumption))))) | exact .tail _ (.tail _ (.tail _ (List.mem_append_right _ (List.mem_append_right _ (List.mem_append_left _ (by assumption)))))) | exact .tail _ (.tail _ (.tail _ (List.mem_append_right _ (List.mem_append_right _ (List.mem_append_right _ (List.mem_append_left _ (by assumption))))))))))
  (case l3 => intro q hq; refine' above_use ?z ?h ?q; (case z => assumption); (case h => assumption); (case q => exact .tail _ (.tail _ (.tail _ (.tail _ hq)))))
  (case l4 => rename LCg.Off1 _ _ => hoA; exact fun q hq => off1_mem hoA q (List.mem_append_right _ (List.mem_append_right _ (List.mem_append_right _ (List.mem_append_right _ (.tail _ hq))))))

theorem part2B {w : World} {p : Program} {loose : List Str} {mean : ExcName → Option Value} {mg mb : Str → Option Value} {h₀ : Heap} {L fa : Addr} {cd : Value} {s : Shared} {oz : Obj} {zz : Option Value} {own : List (Addr × Obj)} {m : Str → Option Value} {Q : Flow → Shared → Prop} {E : Value → Shared → Prop}
    (X : (hd.heap_39 w.params).In h₀) (T : Top p loose mean mg mb h₀) (B : Below callerA h₀ [] h₀)
    (F : Fr h₀ L s.heap m) (N : News h₀ L s.heap ((L + 1 + 1 + 1 + 1 + 1, oz) :: own)) (dz : oz.data = .cell zz) (hoff : OwnOff own [L + 1 + 1 + 1 + 1 + 1])
    (ret : ∀ {aS aD : Addr} {h' : Heap} {tk' : Nat} {oz' : Obj} {m' : Str → Option Value}, Fr h₀ L h' m' → oz'.data = .cell (some (.ref aD)) → News h₀ L h' ((aD, W.listOf (List.toArray []) 0) :: (aS, W.listOf (List.toArray []) 0) :: (L + 1 + 1 + 1 + 1 + 1, oz') :: own) → m' (Str.ofString "shut") = some (.ref aS) → (∀ y, y ≠ Str.ofString "shut" → m' y = m y) →
      (∀ q ∈ own, q.1 < aS) → (@LT.lt Nat _ aS aD) → (@LT.lt Nat _ (L + 1 + 1 + 1 + 1 + 1) aS) → Q .next { s with heap := h', toks := tk' }) :
    wpAny (model Challenge.rw_la0046_01.row.prog w) (callerA.deeper (lawEnv L fa cd)) (execs p2B (lawEnv L fa cd)) Q E s := by
  conv in p2B => whnf
  conv in stmtAt lawBody 7 => whnf
  conv in stmtAt lawBody 8 => whnf
  unfold lawEnv
  conv in (occs := *) lawScope => all_goals whnf
  try k_fold
  k_steps
  refine' ret ?F ?d ?N ?m1 ?m2 ?l0 ?l1 ?l2
  (case F => k_asm)
  (case N => k_asm)
  (case d => assumption)
  (case m1 => exact rfl)
  (case m2 => intro y hy; simp only [hy, if_false])
  (case l0 => intro q hq; exact lt_raw (by assumption) (by k_ownIn))
  (case l1 => omega)
  (case l2 => omega)
end

section
open PySem PySem.W PySem.Calls PyProof.Rows Builtin
set_option Elab.async false
set_option maxRecDepth 100000
set_option maxHeartbeats 8000000
example : ∀ w : World, (hd.heap_39 w.params).In default → Challenge.rw_la0046_01.Holds → True := by k_fill; intros; trivial
noncomputable def elseOf : Stmt → List Stmt
  | .If _ _ o _ => o
  | _ => []
noncomputable def t2if : Stmt := stmtAt turn2Body 2
noncomputable def t2if1 : Stmt := stmtAt (elseOf t2if) 0
noncomputable def t2if2 : Stmt := stmtAt (elseOf t2if1) 0
noncomputable def br0 : List Stmt := bodyOf t2if
noncomputable def br1 : List Stmt := bodyOf t2if1
noncomputable def br2 : List Stmt := bodyOf t2if2
noncomputable def br3 : List Stmt := elseOf t2if2
noncomputable def p3A : List Stmt := [stmtAt turn2Body 0, stmtAt turn2Body 1]
noncomputable def p3B : List Stmt := [t2if]
noncomputable def p3C : List Stmt := [stmtAt turn2Body 3]
noncomputable def p3D : List Stmt := [stmtAt turn2Body 4]
noncomputable def testOf : Stmt → PySem.Expr
  | .If t _ _ _ => t
  | .Expr e _ => e
  | _ => .Name (Str.ofString "x") ⟨0,0,0,0⟩
noncomputable def posOf : Stmt → Pos
  | .If _ _ _ p => p
  | _ => ⟨0,0,0,0⟩
example : True := by
  k_with_none
  trivial
theorem p3B_eq : p3B = [.If (testOf t2if) br0 [.If (testOf t2if1) br1 [.If (testOf t2if2) br2 br3 (posOf t2if2)] (posOf t2if1)] (posOf t2if)] := by kernel_rfl
theorem turn2_parts : turn2Body = p3A ++ (p3B ++ (p3C ++ p3D)) := by kernel_rfl
local macro_rules | `(tactic| k_lt $h:ident) => `(tactic| (have kRaw := $h; replace $h := allLt_of $h; simp only [AllLt, and_true] at $h:ident))
local macro_rules | `(tactic| k_all) => `(tactic| (intro q hq; exact Nat.ne_of_lt (lt_raw (by assumption) (by k_ownIn))))
example : True := by
  k_with "eval Name" => ((k_here; k_dflt (refine' nameX_L ?F ?v ?_ ?a ?b; (case F => k_asm); (case a => rfl); (case b => rfl); (case v => assumption); k_whole)))
  trivial
local macro_rules | `(tactic| k_allIn) => `(tactic| (intro p hp; k_ownIn))
local macro_rules | `(tactic| k_all) => `(tactic| exact OwnOff.ne (by assumption) (by k_memK))
theorem part3A {w : World} {p : Program} {loose : List Str} {mean : ExcName → Option Value} {mg mb : Str → Option Value} {h₀ : Heap} {L fa : Addr} {cd : Value} {s : Shared} {ok : Obj} {zk : Option Value} {own : List (Addr × Obj)} {m : Str → Option Value} {n : Int} {t : Tok} {px : Pos} {Q : Flow → Shared → Prop} {E : Value → Shared → Prop}
    (X : (hd.heap_39 w.params).In h₀) (T : Top p loose mean mg mb h₀) (B : Below callerA h₀ [] h₀)
    (F : Fr h₀ L s.heap m) (N : News h₀ L s.heap ((L + 1, ok) :: own)) (dk : ok.data = .cell zk) (hoff : OwnOff own [L + 1])
    (ret : ∀ {h' : Heap} {tk' : Nat} {ok' : Obj} {m' : Str → Option Value} {uk ud : Tok}, Fr h₀ L h' m' → ok'.data = .cell (some (.int (Int.fmod n 4) uk)) → News h₀ L h' ((L + 1, ok') :: own) → m' (Str.ofString "kind") = some (.int (Int.fmod (Int.fdiv n 4) 4) ud) → (∀ y, y ≠ Str.ofString "kind" → y ≠ Str.ofString "drawn" → m' y = m y) → Q .next { s with heap := h', toks := tk' }) :
    wpAny (model Challenge.rw_la0046_01.row.prog w) (callerA.deeper (lawEnv L fa cd)) (assign (.Name (Str.ofString "drawn") px) (lawEnv L fa cd) (.int n t)) (fun _ s₃ =>
      wpAny (model Challenge.rw_la0046_01.row.prog w) (callerA.deeper (lawEnv L fa cd)) (execs p3A (lawEnv L fa cd)) Q E s₃) E s := by
  conv in p3A => whnf
  conv in stmtAt turn2Body 0 => whnf
  conv in stmtAt turn2Body 1 => whnf
  unfold lawEnv
  conv in (occs := *) lawScope => all_goals whnf
  try k_fold
  k_steps
  refine' ret ?F ?d ?N ?m1 ?m2
  (case F => k_asm)
  (case N => k_asm)
  (case d => assumption)
  (case m1 => exact rfl)
  (case m2 => intro y h1 h2; simp only [h1, h2, if_false])
theorem part3B {w : World} {p : Program} {loose : List Str} {mean : ExcName → Option Value} {mg mb : Str → Option Value} {h₀ : Heap} {L fa : Addr} {cd : Value} {s : Shared} {own : List (Addr × Obj)} {m : Str → Option Value} {u : Tok} {j : Int} {Q : Flow → Shared → Prop} {E : Value → Shared → Prop}
    (X : (hd.heap_39 w.params).In h₀) (T : Top p loose mean mg mb h₀) (B : Below callerA h₀ [] h₀) (F : Fr h₀ L s.heap m) (N : News h₀ L s.heap own) (hm : m (Str.ofString "kind") = some (.int j u)) (hj : 0 ≤ j) (hj4 : j < 4)
    (ret : ∀ tk', wpAny (model Challenge.rw_la0046_01.row.prog w) (callerA.deeper (lawEnv L fa cd)) (execs (if j = 0 then br0 else if j = 1 then br1 else if j = 2 then br2 else br3) (lawEnv L fa cd)) Q E { s with toks := tk' }) :
    wpAny (model Challenge.rw_la0046_01.row.prog w) (callerA.deeper (lawEnv L fa cd)) (execs p3B (lawEnv L fa cd)) Q E s := by
  have h : j = 0 ∨ j = 1 ∨ j = 2 ∨ j = 3 := by lia
  rw [p3B_eq]
  generalize br0 = b0 at ret ⊢
  generalize br1 = b1 at ret ⊢
  generalize br2 = b2 at ret ⊢
  generalize br3 = b3 at ret ⊢
  conv in testOf t2if => whnf
  conv in testOf t2if1 => whnf
  conv in testOf t2if2 => whnf
  conv in posOf t2if => whnf
  conv in posOf t2if1 => whnf
  conv in posOf t2if2 => whnf
  unfold lawEnv at ret ⊢
  conv at ret in (occs := *) lawScope => all_goals whnf
  conv in (occs := *) lawScope => all_goals whnf
  rcases h with rfl | rfl | rfl | rfl
  all_goals (try k_fold)
  all_goals k_steps
  all_goals
    refine wpAny_mono (ret _) (fun f s' h => ?_) (fun _ _ h => h)
    cases f <;> first | exact h | exact wpAny_execs_nil h | exact wpAny_execs_nil (wpAny_execs_nil h) | exact wpAny_execs_nil (wpAny_execs_nil (wpAny_execs_nil h))
end

section
open PySem PySem.W PySem.Calls PyProof.Rows Builtin
set_option Elab.async false
set_option maxRecDepth 100000
set_option maxHeartbeats 8000000
example : ∀ w : World, (hd.heap_39 w.params).In default → Challenge.rw_la0046_01.Holds → True := by k_fill; intros; trivial
noncomputable def st0 : List Stmt := [stmtAt br0 0]
noncomputable def st1 : List Stmt := [stmtAt br1 0]
noncomputable def st2 : List Stmt := [stmtAt br2 0]
noncomputable def st3 : List Stmt := [stmtAt br3 0]
noncomputable def ad0 : List Stmt := [stmtAt br0 1]
noncomputable def ad1 : List Stmt := [stmtAt br1 1]
noncomputable def ad2 : List Stmt := [stmtAt br2 1]
noncomputable def sh3 : List Stmt := [stmtAt br3 1]
example : True := by
  k_with_none
  trivial
theorem br0_eq : br0 = st0 ++ ad0 := by kernel_rfl
theorem br1_eq : br1 = st1 ++ ad1 := by kernel_rfl
theorem br2_eq : br2 = st2 ++ ad2 := by kernel_rfl
theorem br3_eq : br3 = st3 ++ sh3 := by kernel_rfl
local macro_rules | `(tactic| k_lt $h:ident) => `(tactic| (have kRaw := $h; replace $h := allLt_of $h; simp only [AllLt, and_true] at $h:ident))
local macro_rules | `(tactic| k_all) => `(tactic| (intro q hq; exact Nat.ne_of_lt (lt_raw (by assumption) (by k_ownIn))))
local macro_rules | `(tactic| k_allIn) => `(tactic| (intro p hp; k_ownIn))
local macro_rules | `(tactic| k_all) => `(tactic| exact OwnOff.ne (by assumption) (by k_memK))
example : True := by
  k_with "eval Name" => ((k_here; k_dflt (first | (refine' nameX_L ?F ?v ?_ ?a ?b; (case F => k_asm); (case a => rfl); (case b => rfl); (case v => assumption); k_whole) | (refine' nameX_C ?N ?c ?m ?d ?_ ?a ?b; (case a => rfl); (case b => rfl); (case N => k_asm); (case c => rfl); (case m => assumption); (case d => assumption); k_whole))))
  trivial
example : True := by
  k_with "subscriptTail" => ((k_here; k_dflt (refine sub_pick (by k_asm) (by assumption) (by assumption) ?_)))
  trivial
example : True := by
  k_with "getMethod ref" => (refine stop_acts (by assumption) ?_)
  trivial
theorem law_depth {env : Env} {d : Nat} (h : d ≤ 500) : (callerA.deeper env).depth + d < recursionLimit := by
  have : (callerA.deeper env).depth + 500 < recursionLimit := by show callerA.depth + 1 + 500 < recursionLimit; decide
  lia
theorem step0 {w : World} {p : Program} {loose : List Str} {mean : ExcName → Option Value} {mg mb : Str → Option Value} {h₀ : Heap} {L fa : Addr} {cd : Value} {s : Shared} {ok : Obj} {aT d : Addr} {tvs : List Value} {nT : Nat} {G : List (Addr × Obj)} {m : Str → Option Value} {k : Int} {u : Tok} {Q : Flow → Shared → Prop} {E : Value → Shared → Prop}
    {Γ : Cfg} {dd c : Nat} {Pre : List (Addr × Obj) → Prop} {eff : St → St} {σ : St}
    (X : (hd.heap_39 w.params).In h₀) (T : Top p loose mean mg mb h₀) (B : Below callerA h₀ [] h₀)
    (F : Fr h₀ L s.heap m) (hm1 : m (Str.ofString "things") = some (.ref aT)) (N : News h₀ L s.heap G) (hT : (aT, W.listOf tvs.toArray nT) ∈ G) (hk : (L + 1, ok) ∈ G) (dk : ok.data = .cell (some (.int k u))) (hp : Pick tvs (3 + k) (.ref d))
    (C : Acts w p loose mean mg mb Γ (Str.ofString "close") (.ref d) dd c Pre eff) (hPre : Pre G) (M : Mut Γ σ G) (hsz : σ.hs.length + c ≤ 16000000) (hdd : dd ≤ 500)
    (ret : ∀ {G' : List (Addr × Obj)} {h' : Heap} {tk' : Nat}, Fr h₀ L h' m → News h₀ L h' G' → Stays Γ G G' → Mut Γ (eff σ) G' → Q .next { s with heap := h', toks := tk' }) :
    wpAny (model Challenge.rw_la0046_01.row.prog w) (callerA.deeper (lawEnv L fa cd)) (execs st0 (lawEnv L fa cd)) Q E s := by
  conv in st0 => whnf
  conv in stmtAt br0 0 => whnf
  unfold lawEnv
  conv in (occs := *) lawScope => all_goals whnf
  try k_fold
  k_steps
  refine of_stop (acts_use C rfl rfl rfl rfl (law_depth hdd) B (by k_asm) X (by k_asm) T hPre M hsz ?_)
  intro G' h' tk' F' N' S' M'
  clear F N
  k_steps
  exact ret F' N' S' M'
theorem step1 {w : World} {p : Program} {loose : List Str} {mean : ExcName → Option Value} {mg mb : Str → Option Value} {h₀ : Heap} {L fa : Addr} {cd : Value} {s : Shared} {ok : Obj} {aT d : Addr} {tvs : List Value} {nT : Nat} {G : List (Addr × Obj)} {m : Str → Option Value} {k : Int} {u : Tok} {Q : Flow → Shared → Prop} {E : Value → Shared → Prop}
    {Γ : Cfg} {dd c : Nat} {Pre : List (Addr × Obj) → Prop} {eff : St → St} {σ : St}
    (X : (hd.heap_39 w.params).In h₀) (T : Top p loose mean mg mb h₀) (B : Below callerA h₀ [] h₀)
    (F : Fr h₀ L s.heap m) (hm1 : m (Str.ofString "things") = some (.ref aT)) (N : News h₀ L s.heap G) (hT : (aT, W.listOf tvs.toArray nT) ∈ G) (hk : (L + 1, ok) ∈ G) (dk : ok.data = .cell (some (.int k u))) (hp : Pick tvs (3 + k) (.ref d))
    (C : Acts w p loose mean mg mb Γ (Str.ofString "cleanup") (.ref d) dd c Pre eff) (hPre : Pre G) (M : Mut Γ σ G) (hsz : σ.hs.length + c ≤ 16000000) (hdd : dd ≤ 500)
    (ret : ∀ {G' : List (Addr × Obj)} {h' : Heap} {tk' : Nat}, Fr h₀ L h' m → News h₀ L h' G' → Stays Γ G G' → Mut Γ (eff σ) G' → Q .next { s with heap := h', toks := tk' }) :
    wpAny (model Challenge.rw_la0046_01.row.prog w) (callerA.deeper (lawEnv L fa cd)) (execs st1 (lawEnv L fa cd)) Q E s := by
  conv in st1 => whnf
  conv in stmtAt br1 0 => whnf
  unfold lawEnv
  conv in (occs := *) lawScope => all_goals whnf
  try k_fold
  k_steps
  refine of_stop (acts_use C rfl rfl rfl rfl (law_depth hdd) B (by k_asm) X (by k_asm) T hPre M hsz ?_)
  intro G' h' tk' F' N' S' M'
  clear F N
  k_steps
  exact ret F' N' S' M'
theorem step2 {w : World} {p : Program} {loose : List Str} {mean : ExcName → Option Value} {mg mb : Str → Option Value} {h₀ : Heap} {L fa : Addr} {cd : Value} {s : Shared} {ok : Obj} {aT aB d b : Addr} {tvs bvs : List Value} {nT nB : Nat} {G : List (Addr × Obj)} {m : Str → Option Value} {k : Int} {u : Tok} {Q : Flow → Shared → Prop} {E : Value → Shared → Prop}
    {Γ : Cfg} {dd c : Nat} {Pre : List (Addr × Obj) → Prop} {eff : St → St} {σ : St}
    (X : (hd.heap_39 w.params).In h₀) (T : Top p loose mean mg mb h₀) (B : Below callerA h₀ [] h₀)
    (F : Fr h₀ L s.heap m) (hm1 : m (Str.ofString "things") = some (.ref aT)) (N : News h₀ L s.heap G) (hT : (aT, W.listOf tvs.toArray nT) ∈ G) (hk : (L + 1, ok) ∈ G) (dk : ok.data = .cell (some (.int k u))) (hp : Pick tvs (3 + k) (.ref d))
    (C : Acts w p loose mean mg mb Γ (Str.ofString "pop") (.ref d) dd c Pre eff (fun _ => .ref b)) (hmB : m (Str.ofString "bases") = some (.ref aB)) (hB : (aB, W.listOf bvs.toArray nB) ∈ G) (oB : Off Γ aB) (ok1 : Off Γ (L + 1)) (hpB : Pick bvs k (.ref b)) (hPre : Pre G) (M : Mut Γ σ G) (hsz : σ.hs.length + c ≤ 16000000) (hdd : dd ≤ 500)
    (ret : ∀ {G' : List (Addr × Obj)} {h' : Heap} {tk' : Nat}, Fr h₀ L h' m → News h₀ L h' G' → Stays Γ G G' → Mut Γ (eff σ) G' → Q .next { s with heap := h', toks := tk' }) :
    wpAny (model Challenge.rw_la0046_01.row.prog w) (callerA.deeper (lawEnv L fa cd)) (execs st2 (lawEnv L fa cd)) Q E s := by
  conv in st2 => whnf
  conv in stmtAt br2 0 => whnf
  unfold lawEnv
  conv in (occs := *) lawScope => all_goals whnf
  try k_fold
  k_steps
  refine of_stop (acts_use C rfl rfl rfl rfl (law_depth hdd) B (by k_asm) X (by k_asm) T hPre M hsz ?_)
  intro G' h' tk' F' N' S' M'
  have hB' := S' _ hB oB
  have hk' := S' _ hk ok1
  clear F N
  k_steps
  exact ret F' N' S' M'
end

section
open PySem PySem.W PySem.Calls PyProof.Rows Builtin
set_option Elab.async false
set_option maxRecDepth 100000
set_option maxHeartbeats 8000000
example : ∀ w : World, (hd.heap_39 w.params).In default → Challenge.rw_la0046_01.Holds → True := by k_fill; intros; trivial
example : True := by
  k_with_none
  trivial
theorem re2 {h₀ h : Heap} {L aD c l : Addr} {dvs vs : List Value} {nD nl : Nat} {oz : Obj} {z : Option Value} {G : List (Addr × Obj)} (N : News h₀ L h G) (hD : (aD, W.listOf dvs.toArray nD) ∈ G) (hz : (c, oz) ∈ G) (dz : oz.data = .cell z) (hl : (l, W.listOf vs.toArray nl) ∈ G) :
    (l, W.listOf vs.toArray nl) ∈ (aD, W.listOf dvs.toArray nD) :: (c, oz) :: offs G [aD, c] := by
  by_cases e : l = aD
  · subst e
    have h1 := (N _ hD).1
    have h2 := (N _ hl).1
    have h3 : W.listOf vs.toArray nl = W.listOf dvs.toArray nD := Option.some.inj (h2.symm.trans h1)
    rw [h3]; exact .head _
  · refine .tail _ (.tail _ (offs_mem hl (notin_ne (all_cons e (all_cons (fun e => ?_) all_nil)))))
    have h1 := (N _ hz).1
    have h2 := (N _ hl).1
    rw [show l = c from e] at h2
    have h3 : oz = W.listOf vs.toArray nl := Option.some.inj (h1.symm.trans h2)
    rw [h3] at dz
    cases dz
local macro_rules | `(tactic| k_lt $h:ident) => `(tactic| (have kRaw := $h; replace $h := allLt_of $h; simp only [AllLt, and_true] at $h:ident))
local macro_rules | `(tactic| k_all) => `(tactic| (intro q hq; exact Nat.ne_of_lt (lt_raw (by assumption) (by k_ownIn))))
local macro_rules | `(tactic| k_allIn) => `(tactic| (intro p hp; k_ownIn))
local macro_rules | `(tactic| k_all) => `(tactic| exact OwnOff.ne (by assumption) (by k_memK))
example : True := by
  k_with "eval Name" => ((k_here; k_dflt (first | (refine' nameX_L ?F ?v ?_ ?a ?b; (case F => k_asm); (case a => rfl); (case b => rfl); (case v => assumption); k_whole) | (refine' nameX_C ?N ?c ?m ?d ?_ ?a ?b; (case a => rfl); (case b => rfl); (case N => k_asm); (case c => rfl); (case m => assumption); (case d => assumption); k_whole))))
  trivial
example : True := by
  k_with "subscriptTail" => ((k_here; k_dflt (refine sub_pick (by k_asm) (by assumption) (by assumption) ?_)))
  trivial
example : True := by
  k_with "call ref" => (refine stop_reads (by assumption) ?_)
  trivial
example : True := by
  k_with "inplaceOp Add ref ref" => ((k_here; k_dflt (refine' iadd_K ?F ?N ?U ?b ?_ ?z; (case F => k_asm); (case N => k_asm); (case U => k_upd); (case b => assumption); (case z => (simp only [List.size_toArray]; omega))); intro zzh' zzF' zzN'))
  trivial
example : True := by
  k_with "loadName" => ((k_here; k_dflt (first
      | (refine' loadX_L ?F ?v ?_ ?a ?b; (case F => k_asm); (case a => rfl); (case b => rfl); (case v => assumption); k_whole)
      | (refine' loadX_C ?N ?c ?m ?d ?_ ?a ?b; (case a => rfl); (case b => rfl); (case N => k_asm); (case c => rfl); (case m => assumption); (case d => assumption); k_whole))))
  trivial
theorem done0 {w : World} {p : Program} {loose : List Str} {mean : ExcName → Option Value} {mg mb : Str → Option Value} {h₀ : Heap} {L fa : Addr} {cd : Value} {s : Shared} {ok oz : Obj} {aR aD : Addr} {rvs dvs : List Value} {nR nD : Nat} {G news₀ : List (Addr × Obj)} {m : Str → Option Value} {k : Int} {u : Tok} {Q : Flow → Shared → Prop} {E : Value → Shared → Prop}
    {val : Th → List Int} {t : Th}
    (X : (hd.heap_39 w.params).In h₀) (T : Top p loose mean mg mb h₀) (B : Below callerA h₀ [] h₀)
    (F : Fr h₀ L s.heap m) (hm1 : m (Str.ofString "rows") = some (.ref aR)) (N : News h₀ L s.heap G) (hR : (aR, W.listOf rvs.toArray nR) ∈ G) (hk : (L + 1, ok) ∈ G) (dk : ok.data = .cell (some (.int k u)))
    (hD : (aD, W.listOf dvs.toArray nD) ∈ G) (hz : (L + 1 + 1 + 1 + 1 + 1, oz) ∈ G) (dz : oz.data = .cell (some (.ref aD)))
    (C : Reads w p loose mean mg mb 528 val aR rvs news₀ (3 + k) t) (hpre : ∀ q ∈ news₀, q.2.cls = .type "tuple" → q ∈ G) (oD : @LT.lt Nat _ (L + 1 + 1 + 1 + 1 + 1) aD) (hdl : dvs.length ≤ 100000) (hvl : (val t).length ≤ 1000) (hwt : t.weight ≤ 1000000) (hdp : t.depth ≤ 20)
    (ret : ∀ {G' : List (Addr × Obj)} {vs : List Value} {oz' : Obj} {nD' : Nat} {h' : Heap} {tk' : Nat}, Fr h₀ L h' m → News h₀ L h' G' → (aD, W.listOf (dvs ++ vs).toArray nD') ∈ G' → (L + 1 + 1 + 1 + 1 + 1, oz') ∈ G' → oz'.data = .cell (some (.ref aD)) → IntsAre vs (val t) → (∀ q ∈ G, q.1 ≠ aD → q.1 ≠ L + 1 + 1 + 1 + 1 + 1 → q ∈ G') → Q .next { s with heap := h', toks := tk' }) :
    wpAny (model Challenge.rw_la0046_01.row.prog w) (callerA.deeper (lawEnv L fa cd)) (execs ad0 (lawEnv L fa cd)) Q E s := by
  conv in ad0 => whnf
  conv in stmtAt br0 1 => whnf
  unfold lawEnv
  conv in (occs := *) lawScope => all_goals whnf
  try k_fold
  k_steps
  refine of_stop (reads_use C rfl rfl rfl rfl (law_depth (by lia)) B (by k_asm) X (by k_asm) T hpre hR hwt ?_)
  intro l vs nl G1 h1 tk1 F1 N1 S1 hl hi
  have hD1 := S1 _ hD
  have hz1 := S1 _ hz
  have hvl2 : vs.length ≤ 1000 := by rw [← IntsAre.length hi] at hvl; exact hvl
  have N2 : News h₀ L h1 ((aD, W.listOf dvs.toArray nD) :: (L + 1 + 1 + 1 + 1 + 1, oz) :: offs G1 [aD, L + 1 + 1 + 1 + 1 + 1]) := offs_news (pre := [(aD, W.listOf dvs.toArray nD), (L + 1 + 1 + 1 + 1 + 1, oz)]) N1 (in_cons hD1 (in_cons hz1 in_nil))
  have hl2 := re2 N1 hD1 hz1 dz hl
  have hoff := offs_off G1 [aD, L + 1 + 1 + 1 + 1 + 1]
  clear F N N1
  k_steps
  rename News _ _ _ _ => Nz
  rename Fr _ _ _ _ => Fz
  simp only [List.append_toArray] at Nz
  exact ret Fz Nz (.head _) (.tail _ (.head _)) (by assumption) hi (fun q hq n1 n2 => .tail _ (.tail _ (offs_mem (S1 q hq) (notin_ne (all_cons n1 (all_cons n2 all_nil))))))
theorem done1 {w : World} {p : Program} {loose : List Str} {mean : ExcName → Option Value} {mg mb : Str → Option Value} {h₀ : Heap} {L fa : Addr} {cd : Value} {s : Shared} {ok oz : Obj} {aR aD : Addr} {rvs dvs : List Value} {nR nD : Nat} {G news₀ : List (Addr × Obj)} {m : Str → Option Value} {k : Int} {u : Tok} {Q : Flow → Shared → Prop} {E : Value → Shared → Prop}
    {val : Th → List Int} {t : Th}
    (X : (hd.heap_39 w.params).In h₀) (T : Top p loose mean mg mb h₀) (B : Below callerA h₀ [] h₀)
    (F : Fr h₀ L s.heap m) (hm1 : m (Str.ofString "rows") = some (.ref aR)) (N : News h₀ L s.heap G) (hR : (aR, W.listOf rvs.toArray nR) ∈ G) (hk : (L + 1, ok) ∈ G) (dk : ok.data = .cell (some (.int k u)))
    (hD : (aD, W.listOf dvs.toArray nD) ∈ G) (hz : (L + 1 + 1 + 1 + 1 + 1, oz) ∈ G) (dz : oz.data = .cell (some (.ref aD)))
    (C : Reads w p loose mean mg mb 535 val aR rvs news₀ (3 + k) t) (hpre : ∀ q ∈ news₀, q.2.cls = .type "tuple" → q ∈ G) (oD : @LT.lt Nat _ (L + 1 + 1 + 1 + 1 + 1) aD) (hdl : dvs.length ≤ 100000) (hvl : (val t).length ≤ 1000) (hwt : t.weight ≤ 1000000) (hdp : t.depth ≤ 20)
    (ret : ∀ {G' : List (Addr × Obj)} {vs : List Value} {oz' : Obj} {nD' : Nat} {h' : Heap} {tk' : Nat}, Fr h₀ L h' m → News h₀ L h' G' → (aD, W.listOf (dvs ++ vs).toArray nD') ∈ G' → (L + 1 + 1 + 1 + 1 + 1, oz') ∈ G' → oz'.data = .cell (some (.ref aD)) → IntsAre vs (val t) → (∀ q ∈ G, q.1 ≠ aD → q.1 ≠ L + 1 + 1 + 1 + 1 + 1 → q ∈ G') → Q .next { s with heap := h', toks := tk' }) :
    wpAny (model Challenge.rw_la0046_01.row.prog w) (callerA.deeper (lawEnv L fa cd)) (execs ad1 (lawEnv L fa cd)) Q E s := by
  conv in ad1 => whnf
  conv in stmtAt br1 1 => whnf
  unfold lawEnv
  conv in (occs := *) lawScope => all_goals whnf
  try k_fold
  k_steps
  refine of_stop (reads_use C rfl rfl rfl rfl (law_depth (by lia)) B (by k_asm) X (by k_asm) T hpre hR hwt ?_)
  intro l vs nl G1 h1 tk1 F1 N1 S1 hl hi
  have hD1 := S1 _ hD
  have hz1 := S1 _ hz
  have hvl2 : vs.length ≤ 1000 := by rw [← IntsAre.length hi] at hvl; exact hvl
  have N2 : News h₀ L h1 ((aD, W.listOf dvs.toArray nD) :: (L + 1 + 1 + 1 + 1 + 1, oz) :: offs G1 [aD, L + 1 + 1 + 1 + 1 + 1]) := offs_news (pre := [(aD, W.listOf dvs.toArray nD), (L + 1 + 1 + 1 + 1 + 1, oz)]) N1 (in_cons hD1 (in_cons hz1 in_nil))
  have hl2 := re2 N1 hD1 hz1 dz hl
  have hoff := offs_off G1 [aD, L + 1 + 1 + 1 + 1 + 1]
  clear F N N1
  k_steps
  rename News _ _ _ _ => Nz
  rename Fr _ _ _ _ => Fz
  simp only [List.append_toArray] at Nz
  exact ret Fz Nz (.head _) (.tail _ (.head _)) (by assumption) hi (fun q hq n1 n2 => .tail _ (.tail _ (offs_mem (S1 q hq) (notin_ne (all_cons n1 (all_cons n2 all_nil))))))
theorem done2 {w : World} {p : Program} {loose : List Str} {mean : ExcName → Option Value} {mg mb : Str → Option Value} {h₀ : Heap} {L fa : Addr} {cd : Value} {s : Shared} {ok oz : Obj} {aR aD : Addr} {rvs dvs : List Value} {nR nD : Nat} {G news₀ : List (Addr × Obj)} {m : Str → Option Value} {k : Int} {u : Tok} {Q : Flow → Shared → Prop} {E : Value → Shared → Prop}
    {tr : Addr} {b c : Int} {ub uc : Tok} {cb cc : Bool} {val : Th → List Int} {t : Th}
    (X : (hd.heap_39 w.params).In h₀) (T : Top p loose mean mg mb h₀) (B : Below callerA h₀ [] h₀)
    (F : Fr h₀ L s.heap m) (hm1 : m (Str.ofString "rows") = some (.ref aR)) (N : News h₀ L s.heap G) (hR : (aR, W.listOf rvs.toArray nR) ∈ G) (hk : (L + 1, ok) ∈ G) (dk : ok.data = .cell (some (.int k u)))
    (hD : (aD, W.listOf dvs.toArray nD) ∈ G) (hz : (L + 1 + 1 + 1 + 1 + 1, oz) ∈ G) (dz : oz.data = .cell (some (.ref aD)))
    (C : Reads w p loose mean mg mb 528 val aR rvs news₀ c t) (hpre : ∀ q ∈ news₀, q.2.cls = .type "tuple" → q ∈ G) (oD : @LT.lt Nat _ (L + 1 + 1 + 1 + 1 + 1) aD) (hpk : Pick rvs k (.ref tr)) (htr : (tr, tupObj [.int b ub, .int c uc, .bool cb, .bool cc]) ∈ G) (hdl : dvs.length ≤ 100000) (hvl : (val t).length ≤ 1000) (hwt : t.weight ≤ 1000000) (hdp : t.depth ≤ 20)
    (ret : ∀ {G' : List (Addr × Obj)} {vs : List Value} {oz' : Obj} {nD' : Nat} {h' : Heap} {tk' : Nat}, Fr h₀ L h' m → News h₀ L h' G' → (aD, W.listOf (dvs ++ vs).toArray nD') ∈ G' → (L + 1 + 1 + 1 + 1 + 1, oz') ∈ G' → oz'.data = .cell (some (.ref aD)) → IntsAre vs (val t) → (∀ q ∈ G, q.1 ≠ aD → q.1 ≠ L + 1 + 1 + 1 + 1 + 1 → q ∈ G') → Q .next { s with heap := h', toks := tk' }) :
    wpAny (model Challenge.rw_la0046_01.row.prog w) (callerA.deeper (lawEnv L fa cd)) (execs ad2 (lawEnv L fa cd)) Q E s := by
  conv in ad2 => whnf
  conv in stmtAt br2 1 => whnf
  unfold lawEnv
  conv in (occs := *) lawScope => all_goals whnf
  try k_fold
  k_steps
  refine of_stop (reads_use C rfl rfl rfl rfl (law_depth (by lia)) B (by k_asm) X (by k_asm) T hpre hR hwt ?_)
  intro l vs nl G1 h1 tk1 F1 N1 S1 hl hi
  have hD1 := S1 _ hD
  have hz1 := S1 _ hz
  have hvl2 : vs.length ≤ 1000 := by rw [← IntsAre.length hi] at hvl; exact hvl
  have N2 : News h₀ L h1 ((aD, W.listOf dvs.toArray nD) :: (L + 1 + 1 + 1 + 1 + 1, oz) :: offs G1 [aD, L + 1 + 1 + 1 + 1 + 1]) := offs_news (pre := [(aD, W.listOf dvs.toArray nD), (L + 1 + 1 + 1 + 1 + 1, oz)]) N1 (in_cons hD1 (in_cons hz1 in_nil))
  have hl2 := re2 N1 hD1 hz1 dz hl
  have hoff := offs_off G1 [aD, L + 1 + 1 + 1 + 1 + 1]
  clear F N N1
  k_steps
  rename News _ _ _ _ => Nz
  rename Fr _ _ _ _ => Fz
  simp only [List.append_toArray] at Nz
  exact ret Fz Nz (.head _) (.tail _ (.head _)) (by assumption) hi (fun q hq n1 n2 => .tail _ (.tail _ (offs_mem (S1 q hq) (notin_ne (all_cons n1 (all_cons n2 all_nil))))))
end

section
open PySem PySem.W PySem.Calls PyProof.Rows Builtin
set_option Elab.async false
set_option maxRecDepth 100000
set_option maxHeartbeats 8000000
example : ∀ w : World, (hd.heap_39 w.params).In default → Challenge.rw_la0046_01.Holds → True := by k_fill; intros; trivial
example : True := by
  k_with_none
  trivial
theorem AdD.cls {o : Obj} {sv : Value} {cl : Bool} (h : AdD o sv cl) : o.cls = .type "dict" := by
  obtain ⟨_, _, _, _, _, _, _, rfl⟩ := h
  cases cl <;> rfl
theorem mut_keep {h₀ h : Heap} {L : Addr} {news news' : List (Addr × Obj)} {Γ : Cfg} {σ : St} {P : Addr → Prop} (M : Mut Γ σ news) (k : ∀ q ∈ news, P q.1 → q ∈ news') (h1 : P Γ.aH) (h2 : ∀ r ∈ Γ.maps, P r.x ∧ P r.dx) : Mut Γ σ news' := by
  obtain ⟨⟨vs, n, hv, hi⟩, hm, hp, hb⟩ := M
  refine ⟨⟨vs, n, k _ hv h1, hi⟩, fun r hr => ?_, hp, hb⟩
  obtain ⟨hx, o, ho, hd⟩ := hm r hr
  exact ⟨k _ hx (h2 r hr).1, o, k _ ho (h2 r hr).2, hd⟩
theorem inOld {h₀ h : Heap} {L x f : Addr} {o p : Obj} {news : List (Addr × Obj)} (N : News h₀ L h news) (hx : (x, o) ∈ news) : ∀ q ∈ news, q.1 ≠ f → q ∈ (x, o) :: (f, p) :: offs news [x, f] := fun q hq hn => by
  by_cases e : q.1 = x
  · have h1 := (N _ hq).1
    have h2 := (N _ hx).1
    rw [e] at h1
    have h3 : q.2 = o := Option.some.inj (h1.symm.trans h2)
    obtain ⟨a, b⟩ := q
    dsimp only at e h3
    subst e h3
    exact .head _
  · exact .tail _ (.tail _ (offs_mem hq (notin_ne (all_cons e (all_cons hn all_nil)))))
theorem mut_led {h₀ h : Heap} {L f : Addr} {p p' : Obj} {news : List (Addr × Obj)} {Γ : Cfg} {σ : St} (N : News h₀ L h news) (M : Mut Γ σ news) (hp : (f, p) ∈ news) (hc : p.cls = .type "dict") (ho : Off Γ f) : Mut Γ σ (reLed f p' news) := by
  refine mut_keep (h₀ := h₀) (h := h) (L := L) (P := fun a => a ≠ f) M (fun q hq hn => reLed_old hq hn) (fun e => ho.1 e.symm) fun r hr => ⟨?_, fun e => ho.2 r hr e.symm⟩
  exact news_ne N (M.2.1 r hr).1 hp (by rw [hc]; intro e; cases e)
local macro_rules | `(tactic| k_lt $h:ident) => `(tactic| (have kRaw := $h; replace $h := allLt_of $h; simp only [AllLt, and_true] at $h:ident))
local macro_rules | `(tactic| k_all) => `(tactic| exact OwnOff.ne (by assumption) (by k_memK))
example : True := by
  k_with "getMethod ref" => (refine stop_acts (by assumption) ?_)
  trivial
theorem ad_close {w : World} {p : Program} {loose : List Str} {mean : ExcName → Option Value} {mg mb : Str → Option Value} {Γ : Cfg} {x f d : Addr} {po : Obj} {cl : Bool} {dd c : Nat} {Pre : List (Addr × Obj) → Prop} {eff : St → St}
    {A : Around} {env : Env} {outer : List Env} {A₀ : Around} {base h₀ : Heap} {L : Addr} {m : Str → Option Value} {news : List (Addr × Obj)} {s : Shared} {σ : St} {pos : Pos} {pl : Sem Bool} {Q E : Value → Shared → Prop}
    (C : Acts w p loose mean mg mb Γ (Str.ofString "close") (.ref d) dd c Pre eff)
    (hh : A.handled = none) (hA : A.frames = some (env :: outer)) (hf : env.frame = some L) (hk : env.scope.kind = .function) (hdp : A.depth + (dd + 10) < recursionLimit)
    (B : Below A₀ base outer h₀) (F : Fr h₀ L s.heap m) (X : (hd.heap_39 w.params).In h₀) (N : News h₀ L s.heap news) (T : Top p loose mean mg mb h₀)
    (hx : (x, instObj 505 f) ∈ news) (hp : (f, po) ∈ news) (hD : AdD po (.ref d) cl) (hPre : ∀ news', (∀ q ∈ news, q.1 ≠ f → q ∈ news') → Pre news') (M : Mut Γ σ news) (ho : Off Γ f) (hs : σ.hs.length + c ≤ 16000000)
    (ret : ∀ {news' : List (Addr × Obj)} {h' : Heap} {tk' : Nat} {p' : Obj}, Fr h₀ L h' m → News h₀ L h' news' → (∀ q ∈ news, q.1 ≠ f → Off Γ q.1 → q ∈ news') → (f, p') ∈ news' → AdD p' (.ref d) true → Mut Γ (if cl then σ else eff σ) news' → Q .none { s with heap := h', toks := tk' }) :
    wpAny (model Challenge.rw_la0046_01.row.prog w) A (getMethod (.ref x) (Str.ofString "close") pl) (fun r s' => wpAny (model Challenge.rw_la0046_01.row.prog w) A (callWith pos r.1 r.2 (backTo pos (starEach [] env)) []) Q E s') E s := by
  have N0 := N
  have hcl := hD.cls
  have hne : ∀ q ∈ news, q.2.cls ≠ .type "dict" → q.1 ≠ f := fun q hq h => news_ne N hq hp (by rw [hcl]; exact h)
  obtain ⟨z1, z2, z3, t1, t2, t3, sa, e⟩ := id hD
  cases cl
  · rw [if_neg Bool.false_ne_true] at e
    subst e
    refine method_inst (f := 474) F X (InstAt.of_news N hx hp) (by k_is) (by k_is) (by k_is) (by k_get) ?_
    dsimp only
    refine callWith_K0 (by k_in) (by k_is) ?_
    dsimp only [List.nil_append, List.cons_append]
    refine wpAny_call ?_
    k_dflt (refine' code_def B F X N T hA hf hk ?k6 ?k7 ?k8 ?k9 ?kB ?_ ?c2 ?c3 ?c4 ?c5; (case k6 => k_is); (case k7 => k_is); (case k8 => lia); (case k9 => exact BindsTo.of_eq rfl); (case c5 => decide); (case kB => exact locs rfl); (case c2 => exact rfl); (case c3 => exact rfl); (case c4 => exact rfl); k_whole)
    intro g' L' h' FG' F' N' B' X' T'
    dsimp only
    k_fold
    have N2 : News g' L' h' ((x, instObj 505 f) :: (f, dictOf [⟨z1, .str (Str.ofString "_storage") t1, .ref d⟩, ⟨z2, .str (Str.ofString "_instances") t2, .ref sa⟩] 2) :: offs news [x, f]) := offs_news (pre := [(x, instObj 505 f), (f, _)]) N' (in_cons hx (in_cons hp in_nil))
    have hoff := offs_off news [x, f]
    have hxf : @LT.lt Nat _ x f ∨ @LT.lt Nat _ f x := Nat.lt_or_gt_of_ne (hne _ hx (fun e => nomatch e))
    clear N' N F
    rcases hxf with hxf | hxf
    all_goals k_steps
    all_goals (
      rename News _ _ _ _ => N3
      rename Fr _ _ _ _ => F3
      refine of_stop (acts_use C ?_ (Around.frames_deeper hA) rfl rfl ?_ B' F3 X' N3 T' (hPre _ (inOld N0 hx)) (mut_keep (h₀ := h₀) (h := s.heap) (L := L) (P := fun a => a ≠ f) M (inOld N0 hx) (fun e => ho.1 e.symm) fun r hr => ⟨hne _ (M.2.1 r hr).1 (fun e => nomatch e), fun e => ho.2 r hr e.symm⟩) hs ?_)
      · exact hh
      · show A.depth + 1 + _ < _; lia
      intro news2 h2' tk2 F2 N2 S2 M2
      have hpf := S2 _ (.tail _ (.head _)) ho
      clear F3 N3
      dsimp only
      k_steps
      exact ret (by assumption) (by assumption) (fun q hq h1 h2 => S2 _ (inOld N0 hx q hq h1) h2) hpf ⟨_, _, _, _, _, _, _, by rw [if_pos rfl]⟩ (by simpa using M2))
  · rw [if_pos rfl] at e
    subst e
    refine method_inst (f := 474) F X (InstAt.of_news N hx hp) (by k_is) (by k_is) (by k_is) (by k_get) ?_
    dsimp only
    refine callWith_K0 (by k_in) (by k_is) ?_
    dsimp only [List.nil_append, List.cons_append]
    refine wpAny_call ?_
    k_dflt (refine' code_def B F X N T hA hf hk ?k6 ?k7 ?k8 ?k9 ?kB ?_ ?c2 ?c3 ?c4 ?c5; (case k6 => k_is); (case k7 => k_is); (case k8 => lia); (case k9 => exact BindsTo.of_eq rfl); (case c5 => decide); (case kB => exact locs rfl); (case c2 => exact rfl); (case c3 => exact rfl); (case c4 => exact rfl); k_whole)
    intro g' L' h' FG' F' N' B' X' T'
    dsimp only
    k_fold
    have N2 : News g' L' h' ((x, instObj 505 f) :: (f, dictOf [⟨z1, .str (Str.ofString "_storage") t1, .ref d⟩, ⟨z2, .str (Str.ofString "_instances") t2, .ref sa⟩, ⟨z3, .str (Str.ofString "closed") t3, .bool true⟩] 3) :: offs news [x, f]) := offs_news (pre := [(x, instObj 505 f), (f, _)]) N' (in_cons hx (in_cons hp in_nil))
    clear N' N F
    k_steps
    exact ret (by assumption) (by assumption) (fun q hq h1 h2 => inOld N0 hx q hq h1) (.tail _ (.head _)) ⟨_, _, _, _, _, _, _, by rw [if_pos rfl]⟩ (mut_keep (h₀ := h₀) (h := s.heap) (L := L) (P := fun a => a ≠ f) M (inOld N0 hx) (fun e => ho.1 e.symm) fun r hr => ⟨hne _ (M.2.1 r hr).1 (fun e => nomatch e), fun e => ho.2 r hr e.symm⟩)

local macro_rules | `(tactic| k_allIn) => `(tactic| (intro p hp; k_ownIn))
example : True := by
  k_with "eval Name" => ((k_here; k_dflt (first | (refine' nameX_L ?F ?v ?_ ?a ?b; (case F => k_asm); (case a => rfl); (case b => rfl); (case v => assumption); k_whole) | (refine' nameX_C ?N ?c ?m ?d ?_ ?a ?b; (case a => rfl); (case b => rfl); (case N => k_asm); (case c => rfl); (case m => assumption); (case d => assumption); k_whole))))
  trivial
example : True := by
  k_with "subscriptTail" => ((k_here; k_dflt (refine sub_pick (by k_asm) (by assumption) (by assumption) ?_)))
  trivial
theorem step3 {w : World} {p : Program} {loose : List Str} {mean : ExcName → Option Value} {mg mb : Str → Option Value} {h₀ : Heap} {L fa : Addr} {cd : Value} {s : Shared} {ok : Obj} {aA d x f : Addr} {po : Obj} {cl : Bool} {avs : List Value} {nA : Nat} {G : List (Addr × Obj)} {m : Str → Option Value} {k : Int} {u : Tok} {Q : Flow → Shared → Prop} {E : Value → Shared → Prop}
    {Γ : Cfg} {dd c : Nat} {Pre : List (Addr × Obj) → Prop} {eff : St → St} {σ : St}
    (X : (hd.heap_39 w.params).In h₀) (T : Top p loose mean mg mb h₀) (B : Below callerA h₀ [] h₀)
    (F : Fr h₀ L s.heap m) (hm1 : m (Str.ofString "adapters") = some (.ref aA)) (N : News h₀ L s.heap G) (hT : (aA, W.listOf avs.toArray nA) ∈ G) (hk : (L + 1, ok) ∈ G) (dk : ok.data = .cell (some (.int k u))) (hp : Pick avs k (.ref x))
    (C : Acts w p loose mean mg mb Γ (Str.ofString "close") (.ref d) dd c Pre eff) (hx : (x, instObj 505 f) ∈ G) (hpo : (f, po) ∈ G) (hD : AdD po (.ref d) cl) (hPre : ∀ G', (∀ q ∈ G, q.1 ≠ f → q ∈ G') → Pre G') (M : Mut Γ σ G) (ho : Off Γ f) (hsz : σ.hs.length + c ≤ 16000000) (hdd : dd ≤ 490)
    (ret : ∀ {G' : List (Addr × Obj)} {h' : Heap} {tk' : Nat} {p' : Obj}, Fr h₀ L h' m → News h₀ L h' G' → (∀ q ∈ G, q.1 ≠ f → Off Γ q.1 → q ∈ G') → (f, p') ∈ G' → AdD p' (.ref d) true → Mut Γ (if cl then σ else eff σ) G' → Q .next { s with heap := h', toks := tk' }) :
    wpAny (model Challenge.rw_la0046_01.row.prog w) (callerA.deeper (lawEnv L fa cd)) (execs st3 (lawEnv L fa cd)) Q E s := by
  conv in st3 => whnf
  conv in stmtAt br3 0 => whnf
  unfold lawEnv
  conv in (occs := *) lawScope => all_goals whnf
  try k_fold
  have hst : Acts w p loose mean mg mb Γ (Str.ofString "close") (.ref x) 0 0 (fun _ => False) id := by unfold Acts; intros; first | contradiction | (exfalso; assumption)
  k_steps
  clear hst
  refine of_stop (ad_close C rfl rfl rfl rfl (law_depth (by lia)) B (by k_asm) X (by k_asm) T hx hpo hD hPre M ho hsz ?_)
  intro G' h' tk' p' F' N' S' hp' hD' M'
  clear F N
  k_steps
  exact ret F' N' S' hp' hD' M'
end

section
open PySem PySem.W PySem.Calls PyProof.Rows Builtin
set_option Elab.async false
set_option maxRecDepth 100000
set_option maxHeartbeats 8000000
example : ∀ w : World, (hd.heap_39 w.params).In default → Challenge.rw_la0046_01.Holds → True := by k_fill; intros; trivial
noncomputable def ifBody : List Stmt := bodyOf (stmtAt br3 1)
noncomputable def ap3 : List Stmt := [stmtAt ifBody 0]
noncomputable def ad3 : List Stmt := [stmtAt ifBody 1]
example : True := by
  k_with_none
  trivial
theorem ifBody_eq : ifBody = ap3 ++ ad3 := by kernel_rfl
theorem sh3_eq : sh3 = [.If (testOf (stmtAt br3 1)) ifBody [] (posOf (stmtAt br3 1))] := by kernel_rfl
local macro_rules | `(tactic| k_lt $h:ident) => `(tactic| (have kRaw := $h; replace $h := allLt_of $h; simp only [AllLt, and_true] at $h:ident))
local macro_rules | `(tactic| k_all) => `(tactic| (intro q hq; exact Nat.ne_of_lt (lt_raw (by assumption) (by k_ownIn))))
local macro_rules | `(tactic| k_allIn) => `(tactic| (intro p hp; k_ownIn))
local macro_rules | `(tactic| k_all) => `(tactic| exact OwnOff.ne (by assumption) (by k_memK))
example : True := by
  k_with "eval Name" => ((k_here; k_dflt (first | (refine' nameX_L ?F ?v ?_ ?a ?b; (case F => k_asm); (case a => rfl); (case b => rfl); (case v => assumption); k_whole) | (refine' nameX_C ?N ?c ?m ?d ?_ ?a ?b; (case a => rfl); (case b => rfl); (case N => k_asm); (case c => rfl); (case m => assumption); (case d => assumption); k_whole))))
  trivial
example : True := by
  k_with "subscriptTail" => ((k_here; k_dflt (refine sub_pick (by k_asm) (by assumption) (by assumption) ?_)))
  trivial
example : True := by
  k_with "call ref" => (refine stop_reads (by assumption) ?_)
  trivial
example : True := by
  k_with "inplaceOp Add ref ref" => ((k_here; k_dflt (refine' iadd_K ?F ?N ?U ?b ?_ ?z; (case F => k_asm); (case N => k_asm); (case U => k_upd); (case b => assumption); (case z => (simp only [List.size_toArray]; omega))); intro zzh' zzF' zzN'))
  trivial
example : True := by
  k_with "loadName" => ((k_here; k_dflt (first
      | (refine' loadX_L ?F ?v ?_ ?a ?b; (case F => k_asm); (case a => rfl); (case b => rfl); (case v => assumption); k_whole)
      | (refine' loadX_C ?N ?c ?m ?d ?_ ?a ?b; (case a => rfl); (case b => rfl); (case N => k_asm); (case c => rfl); (case m => assumption); (case d => assumption); k_whole))))
  trivial
theorem done3 {w : World} {p : Program} {loose : List Str} {mean : ExcName → Option Value} {mg mb : Str → Option Value} {h₀ : Heap} {L fa : Addr} {cd : Value} {s : Shared} {ok oz : Obj} {aR aD : Addr} {rvs dvs : List Value} {nR nD : Nat} {G news₀ : List (Addr × Obj)} {m : Str → Option Value} {k : Int} {u : Tok} {Q : Flow → Shared → Prop} {E : Value → Shared → Prop}
    {val : Th → List Int} {t : Th}
    (X : (hd.heap_39 w.params).In h₀) (T : Top p loose mean mg mb h₀) (B : Below callerA h₀ [] h₀)
    (F : Fr h₀ L s.heap m) (hm1 : m (Str.ofString "rows") = some (.ref aR)) (N : News h₀ L s.heap G) (hR : (aR, W.listOf rvs.toArray nR) ∈ G) (hk : (L + 1, ok) ∈ G) (dk : ok.data = .cell (some (.int k u)))
    (hD : (aD, W.listOf dvs.toArray nD) ∈ G) (hz : (L + 1 + 1 + 1 + 1 + 1, oz) ∈ G) (dz : oz.data = .cell (some (.ref aD)))
    (C : Reads w p loose mean mg mb 528 val aR rvs news₀ (3 + k) t) (hpre : ∀ q ∈ news₀, q.2.cls = .type "tuple" → q ∈ G) (oD : @LT.lt Nat _ (L + 1 + 1 + 1 + 1 + 1) aD) (hdl : dvs.length ≤ 100000) (hvl : (val t).length ≤ 1000) (hwt : t.weight ≤ 1000000) (hdp : t.depth ≤ 20)
    (ret : ∀ {G' : List (Addr × Obj)} {vs : List Value} {oz' : Obj} {nD' : Nat} {h' : Heap} {tk' : Nat}, Fr h₀ L h' m → News h₀ L h' G' → (aD, W.listOf (dvs ++ vs).toArray nD') ∈ G' → (L + 1 + 1 + 1 + 1 + 1, oz') ∈ G' → oz'.data = .cell (some (.ref aD)) → IntsAre vs (val t) → (∀ q ∈ G, q.1 ≠ aD → q.1 ≠ L + 1 + 1 + 1 + 1 + 1 → q ∈ G') → Q .next { s with heap := h', toks := tk' }) :
    wpAny (model Challenge.rw_la0046_01.row.prog w) (callerA.deeper (lawEnv L fa cd)) (execs ad3 (lawEnv L fa cd)) Q E s := by
  conv in ad3 => whnf
  conv in stmtAt ifBody 1 => whnf
  unfold lawEnv
  conv in (occs := *) lawScope => all_goals whnf
  try k_fold
  k_steps
  refine of_stop (reads_use C rfl rfl rfl rfl (law_depth (by lia)) B (by k_asm) X (by k_asm) T hpre hR hwt ?_)
  intro l vs nl G1 h1 tk1 F1 N1 S1 hl hi
  have hD1 := S1 _ hD
  have hz1 := S1 _ hz
  have hvl2 : vs.length ≤ 1000 := by rw [← IntsAre.length hi] at hvl; exact hvl
  have N2 : News h₀ L h1 ((aD, W.listOf dvs.toArray nD) :: (L + 1 + 1 + 1 + 1 + 1, oz) :: offs G1 [aD, L + 1 + 1 + 1 + 1 + 1]) := offs_news (pre := [(aD, W.listOf dvs.toArray nD), (L + 1 + 1 + 1 + 1 + 1, oz)]) N1 (in_cons hD1 (in_cons hz1 in_nil))
  have hl2 := re2 N1 hD1 hz1 dz hl
  have hoff := offs_off G1 [aD, L + 1 + 1 + 1 + 1 + 1]
  clear F N N1
  k_steps
  rename News _ _ _ _ => Nz
  rename Fr _ _ _ _ => Fz
  simp only [List.append_toArray] at Nz
  exact ret Fz Nz (.head _) (.tail _ (.head _)) (by assumption) hi (fun q hq n1 n2 => .tail _ (.tail _ (offs_mem (S1 q hq) (notin_ne (all_cons n1 (all_cons n2 all_nil))))))

example : True := by
  k_with "compareOp NotIn" => ((k_here; k_dflt (refine' notin_list_ints ?l ?i ?_; (case l => assumption); (case i => assumption))))
  trivial
theorem test3a {w : World} {p : Program} {loose : List Str} {mean : ExcName → Option Value} {mg mb : Str → Option Value} {h₀ : Heap} {L fa : Addr} {cd : Value} {s : Shared} {ok : Obj} {aS : Addr} {svs : List Value} {shut : List Int} {nS : Nat} {G : List (Addr × Obj)} {m : Str → Option Value} {k : Int} {u : Tok} {Q : Flow → Shared → Prop} {E : Value → Shared → Prop}
    (X : (hd.heap_39 w.params).In h₀) (T : Top p loose mean mg mb h₀) (B : Below callerA h₀ [] h₀)
    (F : Fr h₀ L s.heap m) (hm1 : m (Str.ofString "shut") = some (.ref aS)) (N : News h₀ L s.heap G) (hS : (aS, W.listOf svs.toArray nS) ∈ G) (hk : (L + 1, ok) ∈ G) (dk : ok.data = .cell (some (.int k u))) (hI : IntsAre svs shut) (hb : (shut.any (· == k)) = true)
    (ret : ∀ tk', Q .next { s with toks := tk' }) :
    wpAny (model Challenge.rw_la0046_01.row.prog w) (callerA.deeper (lawEnv L fa cd)) (execs sh3 (lawEnv L fa cd)) Q E s := by
  have hl : s.heap.IsList aS svs.toArray := News.isList N hS
  rw [sh3_eq]
  conv in testOf (stmtAt br3 1) => whnf
  conv in posOf (stmtAt br3 1) => whnf
  unfold lawEnv
  conv in (occs := *) lawScope => all_goals whnf
  try k_fold
  k_steps
  exact ret s.toks
theorem test3b {w : World} {p : Program} {loose : List Str} {mean : ExcName → Option Value} {mg mb : Str → Option Value} {h₀ : Heap} {L fa : Addr} {cd : Value} {s : Shared} {ok : Obj} {aS : Addr} {svs : List Value} {shut : List Int} {nS : Nat} {G : List (Addr × Obj)} {m : Str → Option Value} {k : Int} {u : Tok} {Q : Flow → Shared → Prop} {E : Value → Shared → Prop}
    (X : (hd.heap_39 w.params).In h₀) (T : Top p loose mean mg mb h₀) (B : Below callerA h₀ [] h₀)
    (F : Fr h₀ L s.heap m) (hm1 : m (Str.ofString "shut") = some (.ref aS)) (N : News h₀ L s.heap G) (hS : (aS, W.listOf svs.toArray nS) ∈ G) (hk : (L + 1, ok) ∈ G) (dk : ok.data = .cell (some (.int k u))) (hI : IntsAre svs shut) (hb : (shut.any (· == k)) = false)
    (ret : ∀ tk', wpAny (model Challenge.rw_la0046_01.row.prog w) (callerA.deeper (lawEnv L fa cd)) (execs ifBody (lawEnv L fa cd)) Q E { s with toks := tk' }) :
    wpAny (model Challenge.rw_la0046_01.row.prog w) (callerA.deeper (lawEnv L fa cd)) (execs sh3 (lawEnv L fa cd)) Q E s := by
  have hl : s.heap.IsList aS svs.toArray := News.isList N hS
  rw [sh3_eq]
  generalize ifBody = b0 at ret ⊢
  conv in testOf (stmtAt br3 1) => whnf
  conv in posOf (stmtAt br3 1) => whnf
  unfold lawEnv at ret ⊢
  conv at ret in (occs := *) lawScope => all_goals whnf
  conv in (occs := *) lawScope => all_goals whnf
  try k_fold
  k_steps
  refine wpAny_mono (ret s.toks) (fun f s' h => ?_) (fun _ _ h => h)
  cases f <;> first | exact h | exact wpAny_execs_nil h
theorem app3 {w : World} {p : Program} {loose : List Str} {mean : ExcName → Option Value} {mg mb : Str → Option Value} {h₀ : Heap} {L fa : Addr} {cd : Value} {s : Shared} {ok : Obj} {aS : Addr} {svs : List Value} {nS : Nat} {G : List (Addr × Obj)} {m : Str → Option Value} {k : Int} {u : Tok} {Q : Flow → Shared → Prop} {E : Value → Shared → Prop}
    (X : (hd.heap_39 w.params).In h₀) (T : Top p loose mean mg mb h₀) (B : Below callerA h₀ [] h₀)
    (F : Fr h₀ L s.heap m) (hm1 : m (Str.ofString "shut") = some (.ref aS)) (N : News h₀ L s.heap G) (hS : (aS, W.listOf svs.toArray nS) ∈ G) (hk : (L + 1, ok) ∈ G) (dk : ok.data = .cell (some (.int k u))) (hkS : L + 1 ≠ aS) (hsl : svs.length ≤ 100)
    (ret : ∀ {h' : Heap} {tk' : Nat} {n' : Nat}, Fr h₀ L h' m → News h₀ L h' ((aS, W.listOf (svs ++ [Value.int k u]).toArray n') :: offs G [aS]) → Q .next { s with heap := h', toks := tk' }) :
    wpAny (model Challenge.rw_la0046_01.row.prog w) (callerA.deeper (lawEnv L fa cd)) (execs ap3 (lawEnv L fa cd)) Q E s := by
  have N2 : News h₀ L s.heap ((aS, W.listOf svs.toArray nS) :: offs G [aS]) := offs_news (pre := [(aS, W.listOf svs.toArray nS)]) N (in_cons hS in_nil)
  have hoff := offs_off G [aS]
  have hk2 : (L + 1, ok) ∈ (aS, W.listOf svs.toArray nS) :: offs G [aS] := .tail _ (offs_mem hk (notin_ne (all_cons hkS all_nil)))
  clear N
  conv in ap3 => whnf
  conv in stmtAt ifBody 0 => whnf
  unfold lawEnv
  conv in (occs := *) lawScope => all_goals whnf
  try k_fold
  k_steps
  rename News _ _ _ _ => Nz
  rename Fr _ _ _ _ => Fz
  simp only [List.push_toArray] at Nz
  exact ret Fz Nz
end

section
open PySem PySem.W PyProof.Rows
set_option Elab.async false
set_option maxRecDepth 100000
set_option maxHeartbeats 8000000
noncomputable def Good (n : Nat → Int) (g : Nat → Keyed) : Prop := ∀ j, ∃ t u, g j = (.int (n j) t, .int (n j) u)
structure PS where
  js : Array Nat
  pend : Array (Nat × Nat × Nat)
  gal : Nat
noncomputable def PS.st (p : PS) (g : Nat → Keyed) : SortSt := SortSt.mk' oneType' (p.js.map g) p.pend p.gal none
noncomputable def DW (n : Nat → Int) {α : Type} (x : (Nat → Keyed) → StateT SortSt Sem α) (Q : ((Nat → Keyed) → α) → PS → Prop) (p : PS) : Prop :=
  ∃ a p', Q a p' ∧ ∀ g, Good n g → ∀ prog w A E s, wpS (model prog w) A E s (x g) (fun r s' => r = a g ∧ s' = p'.st g) (p.st g)
section
variable {n : Nat → Int} {p : PS}
theorem DW_pure {α : Type} {a : (Nat → Keyed) → α} {Q : ((Nat → Keyed) → α) → PS → Prop} (h : Q a p) : DW n (fun g => pure (a g)) Q p :=
  ⟨a, p, h, fun _ _ _ _ _ _ _ => wpS_pure ⟨rfl, rfl⟩⟩
theorem DW_bind {α β : Type} {x : (Nat → Keyed) → StateT SortSt Sem α} {f : (Nat → Keyed) → α → StateT SortSt Sem β} {Q : ((Nat → Keyed) → β) → PS → Prop}
    (h : DW n x (fun a p' => DW n (fun g => f g (a g)) Q p') p) : DW n (fun g => x g >>= f g) Q p := by
  obtain ⟨a, p', ⟨b, q, hq, h2⟩, h1⟩ := h
  refine ⟨b, q, hq, fun g hg prog w A E s => wpS_bind (wpS_mono (h1 g hg prog w A E s) ?_)⟩
  rintro _ _ ⟨rfl, rfl⟩
  exact h2 g hg prog w A E s
theorem DW_mono {α : Type} {x : (Nat → Keyed) → StateT SortSt Sem α} {Q Q' : ((Nat → Keyed) → α) → PS → Prop} (h : DW n x Q p) (k : ∀ a p', Q a p' → Q' a p') : DW n x Q' p := by
  obtain ⟨a, p', hq, h1⟩ := h
  exact ⟨a, p', k _ _ hq, h1⟩
theorem DW_get {Q : ((Nat → Keyed) → SortSt) → PS → Prop} (h : Q (fun g => p.st g) p) : DW n (fun _ => get) Q p :=
  ⟨_, p, h, fun _ _ _ _ _ _ _ => wpS_get ⟨rfl, rfl⟩⟩
theorem DW_modify {f : (Nat → Keyed) → SortSt → SortSt} {p' : PS} {Q : ((Nat → Keyed) → PUnit) → PS → Prop} (hf : ∀ g, f g (p.st g) = p'.st g) (h : Q (fun _ => ⟨⟩) p') : DW n (fun g => modify (f g)) Q p :=
  ⟨_, p', h, fun g _ _ _ _ _ _ => wpS_modify ⟨rfl, hf g⟩⟩
theorem DW_set {f : (Nat → Keyed) → SortSt} {p' : PS} {Q : ((Nat → Keyed) → PUnit) → PS → Prop} (hf : ∀ g, f g = p'.st g) (h : Q (fun _ => ⟨⟩) p') : DW n (fun g => set (f g)) Q p :=
  ⟨_, p', h, fun g _ _ _ _ _ _ => by
    unfold wpS; rw [StateT.run_set]; exact wpAny_pure ⟨rfl, rfl, hf g⟩⟩
theorem DW_rule {tag : String} {Q : ((Nat → Keyed) → Unit) → PS → Prop} (h : Q (fun _ => ()) p) : DW n (fun _ => (liftM (rule tag) : StateT SortSt Sem Unit)) Q p :=
  ⟨_, p, h, fun g _ _ _ _ _ _ => wpS_lift (wpAny_rule ⟨rfl, rfl, rfl⟩)⟩
theorem DW_elem {js : Array Nat} {k j : Nat} {Q : ((Nat → Keyed) → Keyed) → PS → Prop} (hk : js[k]? = some j) (h : Q (fun g => g j) p) : DW n (fun g => elem' (js.map g) k) Q p :=
  ⟨_, p, h, fun g _ _ _ _ _ _ => by
    dsimp only; rw [elem'_eq, Array.getElem?_map, hk]; exact wpS_pure ⟨rfl, rfl⟩⟩
theorem DW_lt {i j : Nat} {Q : ((Nat → Keyed) → Option Bool) → PS → Prop} (h : ∀ b, Q (fun _ => some b) p) : DW n (fun g => lt' (g i) (g j)) Q p :=
  ⟨_, p, h (decide (n i < n j)), fun g hg _ _ _ _ _ => by
    obtain ⟨t, u, e1⟩ := hg i
    obtain ⟨t', u', e2⟩ := hg j
    dsimp only
    rw [e1, e2, lt'_eq]
    refine wpS_bind (wpS_get ?_)
    rw [show kindOf (p.st g) = oneType' from rfl, keyLt'_oneType]
    refine wpS_bind (wpS_lift (wpAny_attempt (oneLt_int ⟨rfl, ?_⟩)))
    exact wpS_pure ⟨rfl, rfl⟩⟩
theorem DW_ltAt {i j : Nat} {Q : ((Nat → Keyed) → Option Bool) → PS → Prop} (hi : i < p.js.size) (hj : j < p.js.size) (h : ∀ b, Q (fun _ => some b) p) : DW n (fun _ => ltAt' i j) Q p := by
  rw [show (fun _ : Nat → Keyed => ltAt' i j) = fun _ => (get >>= fun s => elem' (arrOf s) i >>= fun x => elem' (arrOf s) j >>= fun y => lt' x y) from rfl]
  exact DW_bind (DW_get (DW_bind (DW_elem (Array.getElem?_eq_getElem hi) (DW_bind (DW_elem (Array.getElem?_eq_getElem hj) (DW_lt h))))))
theorem DW_ite {α : Type} {c : Prop} {d : (Nat → Keyed) → Decidable c} {x y : (Nat → Keyed) → StateT SortSt Sem α} {Q : ((Nat → Keyed) → α) → PS → Prop} (h1 : c → DW n x Q p) (h2 : ¬ c → DW n y Q p) : DW n (fun g => @ite _ c (d g) (x g) (y g)) Q p := by
  by_cases h : c
  · simpa only [if_pos h] using h1 h
  · simpa only [if_neg h] using h2 h
theorem map_swap (f : Nat → Keyed) (xs : Array Nat) (i j : Nat) : (xs.swapIfInBounds i j).map f = (xs.map f).swapIfInBounds i j := by
  by_cases hi : i < xs.size <;> by_cases hj : j < xs.size
  · refine Array.ext_getElem? fun k => ?_
    rw [getElem?_swapIB (xs := xs.map f) (by simpa using hi) (by simpa using hj), Array.getElem?_map, getElem?_swapIB hi hj]
    simp only [Array.getElem?_map]
    repeat' split
    all_goals rfl
  all_goals (simp only [Array.swapIfInBounds_def, Array.size_map]; simp [hi, hj])
theorem map_foldl {β : Type} (f : Nat → Keyed) (a b : β → Nat) : ∀ (l : List β) (xs : Array Nat), (l.foldl (fun x k => x.swapIfInBounds (a k) (b k)) xs).map f = l.foldl (fun x k => x.swapIfInBounds (a k) (b k)) (xs.map f)
  | [], xs => rfl
  | k :: l, xs => by
    rw [List.foldl_cons, List.foldl_cons, map_foldl f a b l, map_swap]
theorem DW_reverse {i j : Nat} {Q : ((Nat → Keyed) → Unit) → PS → Prop} (h : Q (fun _ => ()) ⟨mirror p.js i j ((j - i) / 2), p.pend, p.gal⟩) : DW n (fun _ => reverseSlice' i j) Q p := by
  simp only [reverseSlice'_eq]
  refine DW_modify (p' := ⟨mirror p.js i j ((j - i) / 2), p.pend, p.gal⟩) (fun g => ?_) h
  unfold PS.st mirror
  dsimp only
  rw [map_foldl]
theorem DW_moveDown {i j : Nat} {Q : ((Nat → Keyed) → Unit) → PS → Prop} (h : Q (fun _ => ()) ⟨bubble p.js i (i - j), p.pend, p.gal⟩) : DW n (fun _ => moveDown' i j) Q p := by
  simp only [moveDown'_eq]
  refine DW_modify (p' := ⟨bubble p.js i (i - j), p.pend, p.gal⟩) (fun g => ?_) h
  unfold PS.st bubble
  dsimp only
  rw [map_foldl]
theorem DW_forIn_list {β : Type} (f : (Nat → Keyed) → Nat → β → StateT SortSt Sem (ForInStep β)) (I : List Nat → ((Nat → Keyed) → β) → PS → Prop) (Q : ((Nat → Keyed) → β) → PS → Prop)
    (hstep : ∀ x rest b p, I (x :: rest) b p → DW n (fun g => f g x (b g)) (fun r p' => (∃ b', r = (fun g => .done (b' g)) ∧ Q b' p') ∨ (∃ b', r = (fun g => .yield (b' g)) ∧ I rest b' p')) p)
    (hend : ∀ b p, I [] b p → Q b p) : ∀ (l : List Nat) (b : (Nat → Keyed) → β) (p : PS), I l b p → DW n (fun g => forIn l (b g) (f g)) Q p
  | [], b, p, h => by
    simp only [List.forIn_nil]
    exact DW_pure (hend _ _ h)
  | x :: rest, b, p, h => by
    simp only [List.forIn_cons]
    refine DW_bind (DW_mono (hstep x rest b p h) ?_)
    rintro r p' (⟨b', rfl, h'⟩ | ⟨b', rfl, h'⟩)
    · exact DW_pure h'
    · exact DW_forIn_list f I Q hstep hend rest b' p' h'
theorem DW_for {β : Type} {a b : Nat} {f : (Nat → Keyed) → Nat → β → StateT SortSt Sem (ForInStep β)} (I : Nat → ((Nat → Keyed) → β) → PS → Prop) {Q : ((Nat → Keyed) → β) → PS → Prop}
    (hstep : ∀ i c p, a ≤ i → i < b → I i c p → DW n (fun g => f g i (c g)) (fun r p' => (∃ c', r = (fun g => .done (c' g)) ∧ Q c' p') ∨ (∃ c', r = (fun g => .yield (c' g)) ∧ I (i + 1) c' p')) p)
    (hend : ∀ c p, I (max a b) c p → Q c p) {c : (Nat → Keyed) → β} {p : PS} (h : I a c p) : DW n (fun g => forIn [a:b] (c g) (f g)) Q p := by
  have hsz : ([a:b] : Std.Legacy.Range).size = b - a := by simp [Std.Legacy.Range.size]
  simp only [Std.Legacy.Range.forIn_eq_forIn_range']
  show DW n (fun g => forIn (List.range' a ([a:b] : Std.Legacy.Range).size 1) (c g) (f g)) Q p
  rw [hsz]
  refine DW_forIn_list f (fun l c p => ∃ i, a ≤ i ∧ i ≤ max a b ∧ l = List.range' i (max a b - i) 1 ∧ I i c p) Q ?_ ?_ _ c p ⟨a, Nat.le_refl _, by lia, by congr 1; lia, h⟩
  · rintro x rest c p ⟨i, hai, hib, hl, hI⟩
    have hlt : i < max a b := by
      rcases Nat.lt_or_ge i (max a b) with h' | h'
      · exact h'
      · rw [show max a b - i = 0 by lia] at hl; simp at hl
    obtain ⟨k, hk⟩ : ∃ k, max a b - i = k + 1 := ⟨max a b - i - 1, by lia⟩
    rw [hk, List.range'_succ] at hl
    obtain ⟨rfl, rfl⟩ := List.cons.inj hl
    refine DW_mono (hstep x c p hai (by lia) hI) ?_
    rintro r p' (⟨c', rfl, h'⟩ | ⟨c', rfl, h'⟩)
    · exact .inl ⟨c', rfl, h'⟩
    · exact .inr ⟨c', rfl, x + 1, by lia, by lia, by congr 1; lia, h'⟩
  · rintro c p ⟨i, hai, hib, hl, hI⟩
    have : i = max a b := by
      rcases Nat.lt_or_ge i (max a b) with h' | h'
      · obtain ⟨k, hk⟩ : ∃ k, max a b - i = k + 1 := ⟨max a b - i - 1, by lia⟩
        rw [hk, List.range'_succ] at hl; simp at hl
      · lia
    subst this; exact hend _ _ hI
theorem DW_iteS {α : Type} {i k : Nat} {f : (Nat → Keyed) → Nat} {d : ∀ g, Decidable ((i == f g) = true)} {x y : (Nat → Keyed) → StateT SortSt Sem α} {Q : ((Nat → Keyed) → α) → PS → Prop} (hf : ∀ g, f g = k) (h1 : DW n x Q p) (h2 : i ≠ k → DW n y Q p) :
    DW n (fun g => @ite _ ((i == f g) = true) (d g) (x g) (y g)) Q p := by
  obtain rfl : f = fun _ => k := funext hf
  exact DW_ite (fun _ => h1) fun h => h2 fun e => h (beq_iff_eq.mpr e)
theorem DW_iteT {α : Type} {i k : Nat} {f : (Nat → Keyed) → Nat} {d : ∀ g, Decidable ((f g == i) = true)} {x y : (Nat → Keyed) → StateT SortSt Sem α} {Q : ((Nat → Keyed) → α) → PS → Prop} (hf : ∀ g, f g = k) (h1 : DW n x Q p) (h2 : k ≠ i → DW n y Q p) :
    DW n (fun g => @ite _ ((f g == i) = true) (d g) (x g) (y g)) Q p := by
  obtain rfl : f = fun _ => k := funext hf
  exact DW_ite (fun _ => h1) fun h => h2 fun e => h (beq_iff_eq.mpr e)
theorem DW_elemS {js : Array Nat} {k j : Nat} {f : (Nat → Keyed) → Nat} {Q : ((Nat → Keyed) → Keyed) → PS → Prop} (hf : ∀ g, f g = k) (hk : js[k]? = some j) (h : Q (fun g => g j) p) : DW n (fun g => elem' (js.map g) (f g)) Q p := by
  obtain rfl : f = fun _ => k := funext hf
  exact DW_elem hk h
theorem DW_iteE {α : Type} {i k : Nat} {d : (Nat → Keyed) → Decidable ((i == k) = true)} {x y : (Nat → Keyed) → StateT SortSt Sem α} {Q : ((Nat → Keyed) → α) → PS → Prop} (h1 : DW n x Q p) (h2 : i ≠ k → DW n y Q p) :
    DW n (fun g => @ite _ ((i == k) = true) (d g) (x g) (y g)) Q p := DW_ite (fun _ => h1) fun h => h2 fun e => h (beq_iff_eq.mpr e)
theorem DW_forS {β : Type} {a b : Nat} {fb : (Nat → Keyed) → Nat} {f : (Nat → Keyed) → Nat → β → StateT SortSt Sem (ForInStep β)} (hf : ∀ g, fb g = b) (I : Nat → ((Nat → Keyed) → β) → PS → Prop) {Q : ((Nat → Keyed) → β) → PS → Prop}
    (hstep : ∀ i c p, a ≤ i → i < b → I i c p → DW n (fun g => f g i (c g)) (fun r p' => (∃ c', r = (fun g => .done (c' g)) ∧ Q c' p') ∨ (∃ c', r = (fun g => .yield (c' g)) ∧ I (i + 1) c' p')) p)
    (hend : ∀ c p, I (max a b) c p → Q c p) {c : (Nat → Keyed) → β} {p : PS} (h : I a c p) : DW n (fun g => forIn [a:fb g] (c g) (f g)) Q p := by
  obtain rfl : fb = fun _ => b := funext hf
  exact DW_for I hstep hend h
end
noncomputable def gallop' : Bool → Keyed → Array Keyed → Nat → Nat → Nat → StateT SortSt Sem (Option Nat) := sortPriv% PySem.Builtin.gallop
noncomputable def setGal' : Nat → StateT SortSt Sem Unit := sortPriv% PySem.Builtin.setMinGallop
noncomputable def mergeLo' : Array Keyed → Array Keyed → StateT SortSt Sem (Array Keyed) := sortPriv% PySem.Builtin.mergeLo
noncomputable def mergeHi' : Array Keyed → Array Keyed → StateT SortSt Sem (Array Keyed) := sortPriv% PySem.Builtin.mergeHi
section
variable {n : Nat → Int} {p : PS}
noncomputable def beyond' (left : Bool) (key x : Keyed) : StateT SortSt Sem (Option Bool) := if left then lt' x key else do return (← lt' key x).map (!·)
theorem DW_beyond {left : Bool} {j i : Nat} {js : Array Nat} {Q : ((Nat → Keyed) → Option Bool) → PS → Prop} (hi : i < js.size) (h : ∀ b, Q (fun _ => some b) p) :
    DW n (fun g => elem' (js.map g) i >>= fun x => beyond' left (g j) x) Q p := by
  refine DW_bind (DW_elem (Array.getElem?_eq_getElem hi) ?_)
  unfold beyond'
  refine DW_ite (fun _ => DW_lt h) fun _ => ?_
  exact DW_bind (DW_lt fun b => DW_pure (h _))
theorem DW_gallop {left : Bool} {j : Nat} {js : Array Nat} {base k hint : Nat} {Q : ((Nat → Keyed) → Option Nat) → PS → Prop} (hh : hint < k) (hb : base + k ≤ js.size)
    (h : ∀ r, r ≤ k → Q (fun _ => some r) p) : DW n (fun g => gallop' left (g j) (js.map g) base k hint) Q p := by
  delta gallop'
  refine DW_bind (DW_beyond (by lia) fun b => ?_)
  cases b
  all_goals
    refine DW_bind (DW_mono (DW_for (I := fun _ c q => p = q ∧ ∃ lo hi, c = fun _ => (none, lo, hi)) (Q := fun c q => p = q ∧ ∃ lo hi, c = fun _ => (none, lo, hi)) ?_ (fun _ _ h => h) ⟨rfl, _, _, rfl⟩) ?_)
    · rintro i c q _ _ ⟨rfl, lo, hi, rfl⟩
      refine DW_ite (fun _ => DW_pure (.inl ⟨_, rfl, rfl, lo, hi, rfl⟩)) fun hlt => ?_
      refine DW_bind (DW_beyond (by lia) fun b => ?_)
      cases b <;> first
        | exact DW_pure (.inr ⟨_, rfl, rfl, _, _, rfl⟩)
        | exact DW_pure (.inl ⟨_, rfl, rfl, _, _, rfl⟩)
    · rintro _ _ ⟨rfl, lo, hi, rfl⟩
      refine DW_bind (DW_mono (DW_for (I := fun _ c q => p = q ∧ ∃ lo hi, hi ≤ k ∧ c = fun _ => (none, lo, hi)) (Q := fun c q => p = q ∧ ∃ lo hi, hi ≤ k ∧ c = fun _ => (none, lo, hi)) ?_ (fun _ _ h => h) ⟨rfl, _, _, ?_, rfl⟩) ?_)
      · rintro i c q _ _ ⟨rfl, lo, hi, hk, rfl⟩
        refine DW_ite (fun _ => DW_pure (.inl ⟨_, rfl, rfl, lo, hi, hk, rfl⟩)) fun hlt => ?_
        refine DW_bind (DW_beyond (by dsimp only at hlt ⊢; lia) fun b => ?_)
        cases b
        · exact DW_pure (.inr ⟨_, rfl, rfl, lo, _, by dsimp only at hlt ⊢; lia, rfl⟩)
        · exact DW_pure (.inr ⟨_, rfl, rfl, _, hi, by dsimp only at hlt ⊢; lia, rfl⟩)
      · dsimp only; lia
      · rintro _ _ ⟨rfl, lo, hi, hk, rfl⟩
        exact DW_pure (h _ hk)
theorem DW_gallopS {left : Bool} {j : Nat} {js : Array Nat} {base k hint : Nat} {f : (Nat → Keyed) → Nat} {Q : ((Nat → Keyed) → Option Nat) → PS → Prop} (hf : ∀ g, f g = k) (hh : hint < k) (hb : base + k ≤ js.size)
    (h : ∀ r, r ≤ k → Q (fun _ => some r) p) : DW n (fun g => gallop' left (g j) (js.map g) base (f g) hint) Q p := by
  obtain rfl : f = fun _ => k := funext hf
  exact DW_gallop hh hb h
end
end

section
open PySem PySem.W PyProof.Rows
set_option Elab.async false
set_option maxRecDepth 100000
set_option maxHeartbeats 8000000
noncomputable def Sym (x : (Nat → Keyed) → Array Keyed) : Prop := ∃ js : Array Nat, x = fun g => js.map g
theorem Sym.map (js : Array Nat) : Sym fun g => js.map g := ⟨js, rfl⟩
theorem Sym.one (j : Nat) : Sym fun g => #[g j] := ⟨#[j], by simp⟩
theorem Sym.push {x : (Nat → Keyed) → Array Keyed} {j : Nat} (h : Sym x) : Sym fun g => (x g).push (g j) := by
  obtain ⟨js, rfl⟩ := h
  exact ⟨js.push j, by simp⟩
theorem Sym.app {x y : (Nat → Keyed) → Array Keyed} (h : Sym x) (k : Sym y) : Sym fun g => x g ++ y g := by
  obtain ⟨js, rfl⟩ := h
  obtain ⟨ks, rfl⟩ := k
  exact ⟨js ++ ks, by simp⟩
theorem Sym.ext {x : (Nat → Keyed) → Array Keyed} {i j : Nat} (h : Sym x) : Sym fun g => (x g).extract i j := by
  obtain ⟨js, rfl⟩ := h
  exact ⟨js.extract i j, by simp⟩
theorem Sym.rev {x : (Nat → Keyed) → Array Keyed} (h : Sym x) : Sym fun g => (x g).reverse := by
  obtain ⟨js, rfl⟩ := h
  exact ⟨js.reverse, by simp⟩
theorem Sym.extS {x : (Nat → Keyed) → Array Keyed} {i : Nat} {a : Array Nat} (h : Sym x) : Sym fun g => (x g).extract i (Array.map g a).size := by
  simp only [Array.size_map]
  exact h.ext
local macro_rules | `(tactic| k_get) => `(tactic| repeat first | with_reducible assumption | with_reducible exact Sym.map _ | with_reducible exact Sym.one _ | with_reducible apply Sym.push | with_reducible apply Sym.app | with_reducible apply Sym.extS | with_reducible apply Sym.ext | with_reducible apply Sym.rev)
noncomputable def Ret {β : Type} (c : (Nat → Keyed) → Option (Array Keyed) × β) : Prop := ∃ (r : (Nat → Keyed) → Array Keyed) (c' : (Nat → Keyed) → β), Sym r ∧ c = fun g => (some (r g), c' g)
theorem Ret.mk {β : Type} {r : (Nat → Keyed) → Array Keyed} {c' : (Nat → Keyed) → β} (h : Sym r) : Ret (fun g => (some (r g), c' g)) := ⟨r, c', h, rfl⟩
noncomputable def Go {δ : Type} (B : Nat → Nat → Prop) (c : (Nat → Keyed) → Option (Array Keyed) × Array Keyed × Nat × Nat × δ) : Prop := ∃ out x y d, Sym out ∧ B x y ∧ c = fun g => (none, out g, x, y, d)
theorem Go.mk {δ : Type} {B : Nat → Nat → Prop} {out : (Nat → Keyed) → Array Keyed} {x y : Nat} {d : δ} (h : Sym out) (k : B x y) : Go B fun g => (none, out g, x, y, d) := ⟨out, x, y, d, h, k, rfl⟩
noncomputable def Same (p q : PS) : Prop := ∃ gal, q = { p with gal := gal }
theorem Same.refl (p : PS) : Same p p := ⟨p.gal, rfl⟩
theorem Same.set {p q : PS} (h : Same p q) (x : Nat) : Same p { q with gal := x } := by
  obtain ⟨g, rfl⟩ := h
  exact ⟨x, rfl⟩
section
variable {n : Nat → Int} {p : PS}
theorem DW_join {α γ : Type} {c : γ → Prop} {d : ∀ z, (Nat → Keyed) → Decidable (c z)} {x F : γ → (Nat → Keyed) → StateT SortSt Sem α} {Q : ((Nat → Keyed) → α) → PS → Prop} (K : γ → PS → Prop)
    (hx : ∀ z q, K z q → (∀ z q, K z q → DW n (F z) Q q) → DW n (x z) Q q) (key : ∀ z q, K z q → DW n (F z) Q q) : ∀ z q, K z q → DW n (fun g => @ite _ (c z) (d z g) (x z g) (F z g)) Q q :=
  fun z q h => DW_ite (fun _ => hx z q h key) fun _ => key z q h
theorem DW_join2 {α γ δ : Type} {c : γ → δ → Prop} {d : ∀ z w, (Nat → Keyed) → Decidable (c z w)} {x F : γ → δ → (Nat → Keyed) → StateT SortSt Sem α} {Q : ((Nat → Keyed) → α) → PS → Prop} {K0 : γ → δ → Prop} (K : γ → δ → Prop)
    (h0 : ∀ z w, K0 z w → K z w) (hx : ∀ z w, c z w → K0 z w → (∀ z w, K z w → DW n (F z w) Q p) → DW n (x z w) Q p) (key : ∀ z w, K z w → DW n (F z w) Q p) : ∀ z w, K0 z w → DW n (fun g => @ite _ (c z w) (d z w g) (x z w g) (F z w g)) Q p :=
  fun z w h => DW_ite (fun h1 => hx z w h1 h key) fun _ => key z w (h0 z w h)
theorem DW_setGal {x : Nat} {Q : ((Nat → Keyed) → Unit) → PS → Prop} (h : Q (fun _ => ()) { p with gal := x }) : DW n (fun _ => setGal' x) Q p :=
  DW_modify (fun _ => rfl) h
theorem DW_mergeLo {a b : Array Nat} {Q : ((Nat → Keyed) → Array Keyed) → PS → Prop} (ha : 1 ≤ a.size) (hb : 1 ≤ b.size) (h : ∀ r q, Sym r → Same p q → Q r q) :
    DW n (fun g => mergeLo' (a.map g) (b.map g)) Q p := by
  have za : ∀ g : Nat → Keyed, (Array.map g a).size = a.size := fun g => Array.size_map
  have zb : ∀ g : Nat → Keyed, (Array.map g b).size = b.size := fun g => Array.size_map
  delta mergeLo'
  refine DW_bind (DW_rule ?_)
  refine DW_bind (DW_elem (Array.getElem?_eq_getElem hb) ?_)
  dsimp -zeta -zetaHave only
  refine DW_iteS zb (DW_pure (h _ _ (by k_get) (Same.refl p))) fun hb2 => ?_
  refine DW_iteS za (DW_pure (h _ _ (by k_get) (Same.refl p))) fun ha2 => ?_
  refine DW_bind (DW_get ?_)
  refine DW_bind (DW_mono (DW_forS (b := a.size + b.size) (fun g => by rw [za, zb]) (I := fun i c q => Same p q ∧ Go (fun x y => x + 1 < a.size ∧ y < b.size ∧ i + 1 ≤ x + y) c) (Q := fun c q => Same p q ∧ Ret c) ?step ?fin ⟨Same.refl p, ⟨_, _, _, _, Sym.one _, by lia, rfl⟩⟩) ?post)
  case fin =>
    rintro c q ⟨_, out, x, y, d, _, h1, _⟩
    lia
  case post =>
    rintro _ q ⟨hq, r, c', hr, rfl⟩
    exact DW_pure (h _ _ hr hq)
  clear h ha hb ha2 hb2
  rintro i c q _ hi ⟨hq, out, ia, ib, mg, ho, hB, rfl⟩
  refine DW_bind (DW_mono (DW_forS (b := a.size + b.size) (fun g => by rw [za, zb]) (I := fun _ c q1 => q = q1 ∧ Go (fun x y => x + 1 < a.size ∧ y < b.size ∧ i + 1 ≤ x + y) c) (Q := fun c q1 => q = q1 ∧ (Ret c ∨ Go (fun x y => x + 1 < a.size ∧ y < b.size ∧ i + 1 ≤ x + y) c)) ?step1 ?fin1 ⟨rfl, ⟨_, _, _, _, ho, hB, rfl⟩⟩) ?post1)
  case fin1 =>
    rintro c q1 ⟨rfl, h1⟩
    exact ⟨rfl, .inr h1⟩
  case step1 =>
    clear hB ho hi
    rintro i1 c q1 _ hi1 ⟨rfl, out, ia, ib, ⟨ac, bc⟩, ho, hB, rfl⟩
    clear hi1
    refine DW_bind (DW_elem (Array.getElem?_eq_getElem hB.2.1) ?_)
    refine DW_bind (DW_elem (Array.getElem?_eq_getElem (by lia)) ?_)
    refine DW_bind (DW_lt fun bw => ?_)
    cases bw
    all_goals
      refine DW_bind (DW_elem (Array.getElem?_eq_getElem (by lia)) ?_)
      dsimp -zeta -zetaHave only
      refine DW_iteS (by first | exact za | exact zb) (DW_pure (.inl ⟨_, rfl, rfl, .inl (Ret.mk (by k_get))⟩)) fun he => ?_
      refine DW_ite (fun _ => DW_pure (.inl ⟨_, rfl, rfl, .inr (Go.mk (by k_get) (by lia))⟩)) fun _ => ?_
      exact DW_pure (.inr ⟨_, rfl, rfl, Go.mk (by k_get) (by lia)⟩)
  case post1 =>
    clear hB ho hi
    rintro _ q1 ⟨rfl, ⟨r, c', hr, rfl⟩ | ⟨out, ia, ib, ⟨ac, bc⟩, ho, hB, rfl⟩⟩
    · exact DW_pure (.inl ⟨_, rfl, hq, Ret.mk hr⟩)
    refine DW_bind (DW_rule ?_)
    refine DW_bind (DW_mono (DW_forS (b := a.size + b.size) (fun g => by rw [za, zb]) (I := fun k c q1 => Same p q1 ∧ Go (fun x y => x + 1 < a.size ∧ y < b.size ∧ i + 1 + min k 1 ≤ x + y) c) (Q := fun c q1 => Same p q1 ∧ (Ret c ∨ Go (fun x y => x + 1 < a.size ∧ y < b.size ∧ i + 1 + 1 ≤ x + y) c)) ?step2 ?fin2 ⟨hq, ⟨out, ia, ib, (mg + 1, ac, bc), ho, by lia, rfl⟩⟩) ?post2)
    case fin2 =>
      rintro c q1 ⟨hq1, out, ia, ib, d, ho, hB, rfl⟩
      exact ⟨hq1, .inr (Go.mk ho (by lia))⟩
    case post2 =>
      rintro _ q1 ⟨hq1, ⟨r, c', hr, rfl⟩ | ⟨out, ia, ib, ⟨mg, ac, bc⟩, ho, hB, rfl⟩⟩
      · exact DW_pure (.inl ⟨_, rfl, hq1, Ret.mk hr⟩)
      · dsimp only
        refine DW_bind (DW_setGal ?_)
        exact DW_pure (.inr ⟨_, rfl, hq1.set _, Go.mk ho (by lia)⟩)
    case step2 =>
      clear ho hB
      rintro k c q1 _ hk ⟨hq1, out, ia, ib, ⟨mg, ac, bc⟩, ho, hB, rfl⟩
      generalize hQ : (fun (r : (Nat → Keyed) → ForInStep (Option (Array Keyed) × Array Keyed × Nat × Nat × Nat × Nat × Nat)) (p' : PS) => _) = Q2
      have hd : ∀ {c q}, Same p q → (Ret c ∨ Go (fun x y => x + 1 < a.size ∧ y < b.size ∧ i + 1 + 1 ≤ x + y) c) → Q2 (fun g => .done (c g)) q := fun {c q} h1 h2 => hQ ▸ .inl ⟨c, rfl, h1, h2⟩
      have hy : ∀ {c q}, Same p q → Go (fun x y => x + 1 < a.size ∧ y < b.size ∧ i + 1 + 1 ≤ x + y) c → Q2 (fun g => .yield (c g)) q := fun {c q} h1 ⟨o, x, y, d, h2, h3, h4⟩ => hQ ▸ .inr ⟨c, rfl, h1, ⟨o, x, y, d, h2, by lia, h4⟩⟩
      clear hQ
      replace hB : ia + 1 < a.size ∧ ib < b.size ∧ i + 1 ≤ ia + ib := by lia
      clear hk hq
      dsimp -zeta -zetaHave only
      revert q1
      revert mg
      refine DW_join (fun _ q => Same p q) ?_ ?_
      · exact fun mg q h key => key (mg - 1) q h
      intro mg q hq
      refine DW_bind (DW_setGal ?_)
      replace hq := hq.set mg
      refine DW_bind (DW_elem (Array.getElem?_eq_getElem hB.2.1) ?_)
      refine DW_bind (DW_gallopS (k := a.size - ia) (fun g => by rw [za]) (by lia) (by lia) fun k1 hk1 => ?_)
      dsimp -zeta -zetaHave only
      replace hB := And.intro hk1 (And.intro ho hB)
      clear ho hk1
      revert hB
      revert ia
      revert out
      refine DW_join2 (fun out ia => Sym out ∧ ia + 1 < a.size ∧ ib < b.size ∧ i + 1 ≤ ia + ib) (fun _ _ h => h.2) ?_ ?_
      · intro out ia _ ⟨hk1, ho, hB⟩ key
        refine DW_iteS za (DW_pure (hd hq (.inl (Ret.mk (by k_get))))) fun he => ?_
        refine DW_iteS za (DW_pure (hd hq (.inl (Ret.mk (by k_get))))) fun he2 => ?_
        exact key (fun g => out g ++ (Array.map g a).extract ia (ia + k1)) (ia + k1) ⟨by k_get, by lia⟩
      rintro out ia ⟨ho, hB⟩
      refine DW_bind (DW_elem (Array.getElem?_eq_getElem hB.2.1) ?_)
      dsimp -zeta -zetaHave only
      refine DW_iteS zb (DW_pure (hd hq (.inl (Ret.mk (by k_get))))) fun he3 => ?_
      replace ho := Sym.push (j := b[ib]) ho
      refine DW_bind (DW_elem (Array.getElem?_eq_getElem (by lia)) ?_)
      refine DW_bind (DW_gallopS (k := b.size - (ib + 1)) (fun g => by rw [zb]) (by lia) (by lia) fun k2 hk2 => ?_)
      dsimp -zeta -zetaHave only
      refine DW_ite (fun _ => ?_) (fun _ => ?_)
      · refine DW_iteS zb (DW_pure (hd hq (.inl (Ret.mk (by k_get))))) fun he4 => ?_
        replace hB : ia + 1 < a.size ∧ ib + 1 + k2 < b.size ∧ i + 1 + 1 ≤ ia + (ib + 1 + k2) := by lia
        clear he3 he4 hk2
        refine DW_bind (DW_elem (Array.getElem?_eq_getElem (by lia)) ?_)
        dsimp -zeta -zetaHave only
        refine DW_iteS za (DW_pure (hd hq (.inl (Ret.mk (by k_get))))) fun he5 => ?_
        refine DW_ite (fun _ => DW_pure (hd hq (.inr (Go.mk (by k_get) (by lia))))) fun he6 => ?_
        exact DW_pure (hy hq (Go.mk (by k_get) (by lia)))
      · replace hB : ia + 1 < a.size ∧ ib + 1 < b.size ∧ i + 1 + 1 ≤ ia + (ib + 1) := by lia
        clear he3 hk2
        refine DW_bind (DW_elem (Array.getElem?_eq_getElem (by lia)) ?_)
        dsimp -zeta -zetaHave only
        refine DW_iteS za (DW_pure (hd hq (.inl (Ret.mk (by k_get))))) fun he5 => ?_
        refine DW_ite (fun _ => DW_pure (hd hq (.inr (Go.mk (by k_get) (by lia))))) fun he6 => ?_
        exact DW_pure (hy hq (Go.mk (by k_get) (by lia)))
end
end

section
open PySem PySem.W PyProof.Rows
set_option Elab.async false
set_option maxRecDepth 100000
set_option maxHeartbeats 8000000
local macro_rules | `(tactic| k_get) => `(tactic| repeat first | with_reducible assumption | with_reducible exact Sym.map _ | with_reducible exact Sym.one _ | with_reducible apply Sym.push | with_reducible apply Sym.app | with_reducible apply Sym.extS | with_reducible apply Sym.ext | with_reducible apply Sym.rev)
noncomputable def Go2 {δ : Type} (B : Nat → Nat → Prop) (c : (Nat → Keyed) → Option (Array Keyed) × Nat × Nat × Array Keyed × δ) : Prop := ∃ out x y d, Sym out ∧ B x y ∧ c = fun g => (none, x, y, out g, d)
theorem Go2.mk {δ : Type} {B : Nat → Nat → Prop} {out : (Nat → Keyed) → Array Keyed} {x y : Nat} {d : δ} (h : Sym out) (k : B x y) : Go2 B fun g => (none, x, y, out g, d) := ⟨out, x, y, d, h, k, rfl⟩
section
variable {n : Nat → Int} {p : PS}
theorem DW_mergeHi {a b : Array Nat} {Q : ((Nat → Keyed) → Array Keyed) → PS → Prop} (ha : 1 ≤ a.size) (hb : 1 ≤ b.size) (h : ∀ r q, Sym r → Same p q → Q r q) :
    DW n (fun g => mergeHi' (a.map g) (b.map g)) Q p := by
  have za : ∀ g : Nat → Keyed, (Array.map g a).size = a.size := fun g => Array.size_map
  have zb : ∀ g : Nat → Keyed, (Array.map g b).size = b.size := fun g => Array.size_map
  have za1 : ∀ g : Nat → Keyed, (Array.map g a).size - 1 = a.size - 1 := fun g => by rw [za]
  delta mergeHi'
  refine DW_bind (DW_rule ?_)
  refine DW_bind (DW_elemS za1 (Array.getElem?_eq_getElem (by lia)) ?_)
  dsimp only
  refine DW_iteT za1 (DW_pure (h _ _ (by simp only [za, zb]; k_get) (Same.refl p))) fun ha2 => ?_
  refine DW_iteT zb (DW_pure (h _ _ (by simp only [za, zb]; k_get) (Same.refl p))) fun hb2 => ?_
  refine DW_bind (DW_get ?_)
  refine DW_bind (DW_mono (DW_forS (b := a.size + b.size) (fun g => by rw [za, zb]) (I := fun i c q => Same p q ∧ Go2 (fun x y => 1 ≤ x ∧ x < a.size ∧ 2 ≤ y ∧ y ≤ b.size ∧ x + y + i + 1 ≤ a.size + b.size) c) (Q := fun c q => Same p q ∧ Ret c) ?step ?fin ⟨Same.refl p, ⟨_, a.size - 1, b.size, p.gal, Sym.one _, by lia, funext fun g => by rw [za, zb]; rfl⟩⟩) ?post)
  case fin =>
    rintro c q ⟨_, out, x, y, d, _, h1, _⟩
    lia
  case post =>
    rintro _ q ⟨hq, r, c', hr, rfl⟩
    exact DW_pure (h _ _ hr hq)
  clear h ha hb ha2 hb2 za1
  rintro i c q _ hi ⟨hq, out, ia, ib, mg, ho, hB, rfl⟩
  refine DW_bind (DW_mono (DW_forS (b := a.size + b.size) (fun g => by rw [za, zb]) (I := fun _ c q1 => q = q1 ∧ Go2 (fun x y => 1 ≤ x ∧ x < a.size ∧ 2 ≤ y ∧ y ≤ b.size ∧ x + y + i + 1 ≤ a.size + b.size) c) (Q := fun c q1 => q = q1 ∧ (Ret c ∨ Go2 (fun x y => 1 ≤ x ∧ x < a.size ∧ 2 ≤ y ∧ y ≤ b.size ∧ x + y + i + 1 ≤ a.size + b.size) c)) ?step1 ?fin1 ⟨rfl, ⟨out, ia, ib, (0, 0), ho, hB, rfl⟩⟩) ?post1)
  case fin1 =>
    rintro c q1 ⟨rfl, h1⟩
    exact ⟨rfl, .inr h1⟩
  case step1 =>
    clear hB ho hi
    rintro i1 c q1 _ hi1 ⟨rfl, out, ia, ib, ⟨ac, bc⟩, ho, hB, rfl⟩
    clear hi1
    dsimp -zeta -zetaHave only
    refine DW_bind (DW_elem (Array.getElem?_eq_getElem (by lia)) ?_)
    refine DW_bind (DW_elem (Array.getElem?_eq_getElem (by lia)) ?_)
    refine DW_bind (DW_lt fun bw => ?_)
    cases bw
    all_goals
      refine DW_bind (DW_elem (Array.getElem?_eq_getElem (by lia)) ?_)
      dsimp -zeta -zetaHave only
      refine DW_iteE (DW_pure (.inl ⟨_, rfl, rfl, .inl (Ret.mk (by k_get))⟩)) fun he => ?_
      refine DW_ite (fun _ => DW_pure (.inl ⟨_, rfl, rfl, .inr (Go2.mk (by k_get) (by lia))⟩)) fun _ => ?_
      exact DW_pure (.inr ⟨_, rfl, rfl, Go2.mk (by k_get) (by lia)⟩)
  case post1 =>
    clear hB ho hi
    rintro _ q1 ⟨rfl, ⟨r, c', hr, rfl⟩ | ⟨out, ia, ib, ⟨ac, bc⟩, ho, hB, rfl⟩⟩
    · exact DW_pure (.inl ⟨_, rfl, hq, Ret.mk hr⟩)
    refine DW_bind (DW_rule ?_)
    refine DW_bind (DW_mono (DW_forS (b := a.size + b.size) (fun g => by rw [za, zb]) (I := fun k c q1 => Same p q1 ∧ Go2 (fun x y => 1 ≤ x ∧ x < a.size ∧ 2 ≤ y ∧ y ≤ b.size ∧ x + y + i + 1 + min k 1 ≤ a.size + b.size) c) (Q := fun c q1 => Same p q1 ∧ (Ret c ∨ Go2 (fun x y => 1 ≤ x ∧ x < a.size ∧ 2 ≤ y ∧ y ≤ b.size ∧ x + y + i + 1 + 1 ≤ a.size + b.size) c)) ?step2 ?fin2 ⟨hq, ⟨out, ia, ib, (mg + 1, ac, bc), ho, by lia, rfl⟩⟩) ?post2)
    case fin2 =>
      rintro c q1 ⟨hq1, out, ia, ib, d, ho, hB, rfl⟩
      exact ⟨hq1, .inr (Go2.mk ho (by lia))⟩
    case post2 =>
      rintro _ q1 ⟨hq1, ⟨r, c', hr, rfl⟩ | ⟨out, ia, ib, ⟨mg, ac, bc⟩, ho, hB, rfl⟩⟩
      · exact DW_pure (.inl ⟨_, rfl, hq1, Ret.mk hr⟩)
      · dsimp only
        refine DW_bind (DW_setGal ?_)
        exact DW_pure (.inr ⟨_, rfl, hq1.set _, Go2.mk ho (by lia)⟩)
    case step2 =>
      clear ho hB
      rintro k c q1 _ hk ⟨hq1, out, ia, ib, ⟨mg, ac, bc⟩, ho, hB, rfl⟩
      generalize hQ : (fun (r : (Nat → Keyed) → ForInStep (Option (Array Keyed) × Nat × Nat × Array Keyed × Nat × Nat × Nat)) (p' : PS) => _) = Q2
      have hd : ∀ {c q}, Same p q → (Ret c ∨ Go2 (fun x y => 1 ≤ x ∧ x < a.size ∧ 2 ≤ y ∧ y ≤ b.size ∧ x + y + i + 1 + 1 ≤ a.size + b.size) c) → Q2 (fun g => .done (c g)) q := fun {c q} h1 h2 => hQ ▸ .inl ⟨c, rfl, h1, h2⟩
      have hy : ∀ {c q}, Same p q → Go2 (fun x y => 1 ≤ x ∧ x < a.size ∧ 2 ≤ y ∧ y ≤ b.size ∧ x + y + i + 1 + 1 ≤ a.size + b.size) c → Q2 (fun g => .yield (c g)) q := fun {c q} h1 ⟨o, x, y, d, h2, h3, h4⟩ => hQ ▸ .inr ⟨c, rfl, h1, ⟨o, x, y, d, h2, by lia, h4⟩⟩
      clear hQ
      replace hB : 1 ≤ ia ∧ ia < a.size ∧ 2 ≤ ib ∧ ib ≤ b.size ∧ ia + ib + i + 1 ≤ a.size + b.size := by lia
      clear hk hq
      dsimp -zeta -zetaHave only
      revert q1
      revert mg
      refine DW_join (fun _ q => Same p q) ?_ ?_
      · exact fun mg q h key => key (mg - 1) q h
      intro mg q hq
      refine DW_bind (DW_setGal ?_)
      replace hq := hq.set mg
      refine DW_bind (DW_elem (Array.getElem?_eq_getElem (by lia)) ?_)
      refine DW_bind (DW_gallop (by lia) (by lia) fun k1 hk1 => ?_)
      dsimp +instances -zeta -zetaHave only
      generalize hkk : ia - k1 = kk
      replace hB := And.intro hkk (And.intro hk1 (And.intro ho hB))
      clear ho hk1 hkk
      revert hB
      revert ia
      revert out
      refine DW_join2 (fun out ia => Sym out ∧ 1 ≤ ia ∧ ia < a.size ∧ 2 ≤ ib ∧ ib ≤ b.size ∧ ia + ib + i + 1 ≤ a.size + b.size) (fun _ _ h => h.2.2) ?_ ?_
      · intro out ia hlt ⟨hkk, hk1, ho, hB⟩ key
        refine DW_iteE (DW_pure (hd hq (.inl (Ret.mk (by k_get))))) fun he => ?_
        exact key (fun g => out g ++ ((Array.map g a).extract k1 ia).reverse) k1 ⟨by k_get, by lia⟩
      rintro out ia ⟨ho, hB⟩
      refine DW_bind (DW_elem (Array.getElem?_eq_getElem (by lia)) ?_)
      dsimp -zeta -zetaHave only
      refine DW_iteE (DW_pure (hd hq (.inl (Ret.mk (by k_get))))) fun he3 => ?_
      replace hB : 1 ≤ ia ∧ ia < a.size ∧ 2 ≤ ib - 1 ∧ ib - 1 ≤ b.size ∧ ia + (ib - 1) + i + 1 + 1 ≤ a.size + b.size := by lia
      clear he3
      refine DW_bind (DW_elem (Array.getElem?_eq_getElem (by lia)) ?_)
      refine DW_bind (DW_gallop (by lia) (by lia) fun k2 hk2 => ?_)
      dsimp -zeta -zetaHave only
      refine DW_ite (fun hlt => ?_) (fun _ => ?_)
      · refine DW_iteE (DW_pure (hd hq (.inl (Ret.mk (by k_get))))) fun he4 => ?_
        refine DW_iteE (DW_pure (hd hq (.inl (Ret.mk (by k_get))))) fun he5 => ?_
        refine DW_bind (DW_elem (Array.getElem?_eq_getElem (by lia)) ?_)
        dsimp -zeta -zetaHave only
        refine DW_iteE (DW_pure (hd hq (.inl (Ret.mk (by k_get))))) fun he6 => ?_
        replace hB : 1 ≤ ia - 1 ∧ ia - 1 < a.size ∧ 2 ≤ k2 ∧ k2 ≤ b.size ∧ ia - 1 + k2 + i + 1 + 1 ≤ a.size + b.size := by lia
        refine DW_ite (fun _ => DW_pure (hd hq (.inr (Go2.mk (by k_get) hB)))) fun _ => ?_
        exact DW_pure (hy hq (Go2.mk (by k_get) hB))
      · refine DW_bind (DW_elem (Array.getElem?_eq_getElem (by lia)) ?_)
        dsimp -zeta -zetaHave only
        refine DW_iteE (DW_pure (hd hq (.inl (Ret.mk (by k_get))))) fun he6 => ?_
        replace hB : 1 ≤ ia - 1 ∧ ia - 1 < a.size ∧ 2 ≤ ib - 1 ∧ ib - 1 ≤ b.size ∧ ia - 1 + (ib - 1) + i + 1 + 1 ≤ a.size + b.size := by lia
        refine DW_ite (fun _ => DW_pure (hd hq (.inr (Go2.mk (by k_get) hB)))) fun _ => ?_
        exact DW_pure (hy hq (Go2.mk (by k_get) hB))
end
end

section
open PySem PySem.W PyProof.Rows
set_option Elab.async false
set_option maxRecDepth 100000
set_option maxHeartbeats 8000000
noncomputable def SameS (p q : PS) : Prop := q.js.size = p.js.size ∧ q.pend = p.pend
theorem SameS.refl (p : PS) : SameS p p := ⟨rfl, rfl⟩
theorem SameS.mir {p q : PS} (h : SameS p q) {i j d : Nat} : SameS p ⟨mirror q.js i j d, q.pend, q.gal⟩ := ⟨(mirror_size _ _ _ _).trans h.1, h.2⟩
theorem SameS.bub {p q : PS} (h : SameS p q) {i d : Nat} : SameS p ⟨bubble q.js i d, q.pend, q.gal⟩ := ⟨(bubble_size _ _ _).trans h.1, h.2⟩
theorem map_put (g : Nat → Keyed) (c : Nat) : ∀ (l : List Nat) (k : Nat) (xs : Array Nat), ((l.zipIdx k).foldl (fun a x => a.setIfInBounds (c + x.2) x.1) xs).map g = ((l.map g).zipIdx k).foldl (fun a x => a.setIfInBounds (c + x.2) x.1) (xs.map g)
  | [], k, xs => rfl
  | j :: l, k, xs => by
    rw [List.zipIdx_cons, List.foldl_cons, List.map_cons, List.zipIdx_cons, List.foldl_cons, map_put g c l, Array.map_setIfInBounds]
theorem put_size (c : Nat) : ∀ (l : List (Nat × Nat)) (xs : Array Nat), (l.foldl (fun a x => a.setIfInBounds (c + x.2) x.1) xs).size = xs.size
  | [], xs => rfl
  | j :: l, xs => by rw [List.foldl_cons, put_size c l, Array.size_setIfInBounds]
section
variable {n : Nat → Int} {p : PS}
theorem DW_binarySort {lo k ok : Nat} {Q : ((Nat → Keyed) → Bool) → PS → Prop} (hk : lo + k ≤ p.js.size) (h : ∀ q, SameS p q → Q (fun _ => true) q) : DW n (fun _ => binarySort' lo k ok) Q p := by
  delta binarySort'
  refine DW_bind (DW_mono (DW_for (I := fun _ c q => SameS p q ∧ c = fun _ => (none, ())) (Q := fun c q => SameS p q ∧ c = fun _ => (none, ())) ?_ (fun _ _ h => h) ⟨SameS.refl p, rfl⟩) ?_)
  · rintro i c q hi1 hi2 ⟨hq, rfl⟩
    have hs := hq.1
    refine DW_bind (DW_mono (DW_for (I := fun _ c q1 => q = q1 ∧ ∃ l r, r ≤ i ∧ c = fun _ => (none, l, r)) (Q := fun c q1 => q = q1 ∧ ∃ l r, r ≤ i ∧ c = fun _ => (none, l, r)) ?_ (fun _ _ h => h) ⟨rfl, 0, i, Nat.le_refl _, rfl⟩) ?_)
    · rintro j c q1 _ _ ⟨rfl, l, r, hr, rfl⟩
      dsimp -zeta -zetaHave only
      refine DW_ite (fun _ => DW_pure (.inl ⟨_, rfl, rfl, l, r, hr, rfl⟩)) fun hlt => ?_
      refine DW_bind (DW_ltAt (by lia) (by lia) fun b => ?_)
      cases b
      · exact DW_pure (.inr ⟨_, rfl, rfl, _, _, hr, rfl⟩)
      · exact DW_pure (.inr ⟨_, rfl, rfl, _, _, by lia, rfl⟩)
    · rintro _ q1 ⟨rfl, l, r, hr, rfl⟩
      dsimp -zeta -zetaHave only
      exact DW_bind (DW_moveDown (DW_pure (.inr ⟨_, rfl, hq.bub, rfl⟩)))
  · rintro _ q ⟨hq, rfl⟩
    exact DW_pure (h _ hq)
theorem DW_countRun {lo nrem : Nat} {Q : ((Nat → Keyed) → Option Nat) → PS → Prop} (h1 : 1 ≤ nrem) (hk : lo + nrem ≤ p.js.size) (h : ∀ m q, 1 ≤ m → m ≤ nrem → SameS p q → Q (fun _ => some m) q) : DW n (fun _ => countRun' lo nrem) Q p := by
  delta countRun'
  refine DW_bind (DW_mono (DW_for (I := fun i c q => p = q ∧ c = fun _ => (none, i)) (Q := fun c q => p = q ∧ ∃ m, 1 ≤ m ∧ m ≤ nrem ∧ c = fun _ => (none, m)) ?_ ?_ ⟨rfl, rfl⟩) ?_)
  · rintro i c q hi1 hi2 ⟨rfl, rfl⟩
    dsimp -zeta -zetaHave only
    refine DW_bind (DW_ltAt (by lia) (by lia) fun b => ?_)
    cases b
    · exact DW_pure (.inr ⟨_, rfl, rfl, rfl⟩)
    · exact DW_pure (.inl ⟨_, rfl, rfl, _, hi1, by lia, rfl⟩)
  · rintro c q ⟨rfl, rfl⟩
    exact ⟨rfl, _, by lia, by lia, rfl⟩
  rintro _ _ ⟨rfl, m, hm1, hm2, rfl⟩
  dsimp -zeta -zetaHave only
  refine DW_ite (fun _ => DW_pure (h _ _ hm1 hm2 (SameS.refl p))) fun hne => ?_
  simp only [beq_iff_eq] at hne
  refine DW_ite (fun h2 => DW_bind (DW_ltAt (by lia) (by lia) fun b => ?p1)) fun h2 => ?p2
  case' p1 =>
    cases b
    case' true => exact DW_pure (h _ _ hm1 hm2 (SameS.refl p))
    case' false =>
      refine DW_bind (DW_reverse ?_)
      refine (?_ : ∀ q, SameS p q → DW n _ Q q) _ (SameS.refl p).mir
  case' p2 => refine (?_ : ∀ q, SameS p q → DW n _ Q q) _ (SameS.refl p)
  all_goals
    intro q hq
    refine DW_bind (DW_rule ?_)
    refine DW_bind (DW_mono (DW_for (I := fun i c q => SameS p q ∧ ∃ neq, c = fun _ => (none, i, neq)) (Q := fun c q => SameS p q ∧ ∃ k neq, 1 ≤ k ∧ k ≤ nrem ∧ c = fun _ => (none, k, neq)) ?_ ?_ ⟨hq, 0, rfl⟩) ?_)
    · rintro i c q1 hi1 hi2 ⟨hq1, neq, rfl⟩
      have hs := hq1.1
      dsimp -zeta -zetaHave only
      refine DW_bind (DW_ltAt (by lia) (by lia) fun b => ?_)
      cases b
      · refine DW_bind (DW_ltAt (by lia) (by lia) fun b => ?_)
        cases b
        · exact DW_pure (.inr ⟨_, rfl, hq1, _, rfl⟩)
        · exact DW_pure (.inl ⟨_, rfl, hq1, _, _, by lia, by lia, rfl⟩)
      · dsimp +instances only
        simp only [if_true]
        refine DW_ite (fun _ => ?_) fun _ => ?_
        · exact DW_bind (DW_reverse (DW_pure (.inr ⟨_, rfl, hq1.mir, _, rfl⟩)))
        · exact DW_pure (.inr ⟨_, rfl, hq1, _, rfl⟩)
    · rintro c q1 ⟨hq1, neq, rfl⟩
      exact ⟨hq1, _, _, by lia, by lia, rfl⟩
    rintro _ q1 ⟨hq1, k, neq, hk1, hk2, rfl⟩
    dsimp -zeta -zetaHave only
    refine DW_ite (fun h2 => DW_bind (DW_reverse ((?_ : ∀ q, SameS p q → DW n _ Q q) _ hq1.mir))) fun h2 => (?_ : ∀ q, SameS p q → DW n _ Q q) _ hq1
    all_goals
      intro q2 hq2
      refine DW_bind (DW_reverse ?_)
      refine (?_ : ∀ q, SameS p q → DW n _ Q q) _ hq2.mir
      intro q3 hq3
      have hs := hq3.1
      refine DW_bind (DW_mono (DW_for (I := fun i c q => q3 = q ∧ c = fun _ => (none, i)) (Q := fun c q => q3 = q ∧ ∃ m, 1 ≤ m ∧ m ≤ nrem ∧ c = fun _ => (none, m)) ?_ ?_ ⟨rfl, rfl⟩) ?_)
      · rintro i c q hi1 hi2 ⟨rfl, rfl⟩
        dsimp -zeta -zetaHave only
        refine DW_bind (DW_ltAt (by lia) (by lia) fun b => ?_)
        cases b
        · exact DW_pure (.inr ⟨_, rfl, rfl, rfl⟩)
        · exact DW_pure (.inl ⟨_, rfl, rfl, _, by lia, by lia, rfl⟩)
      · rintro c q ⟨rfl, rfl⟩
        exact ⟨rfl, _, by lia, by lia, rfl⟩
      rintro _ _ ⟨rfl, m, hm1, hm2, rfl⟩
      exact DW_pure (h _ _ hm1 hm2 hq3)
theorem DW_mergeAt {i : Nat} {Q : ((Nat → Keyed) → Bool) → PS → Prop} {sa na pa sb nb pb : Nat} (ha : p.pend[i]? = some (sa, na, pa)) (hb : p.pend[i + 1]? = some (sb, nb, pb)) (h1 : 1 ≤ na) (h2 : 1 ≤ nb) (h3 : sb = sa + na) (h4 : sb + nb ≤ p.js.size)
    (h : ∀ q, q.js.size = p.js.size → q.pend = (p.pend.setIfInBounds i (sa, na + nb, pa)).eraseIdxIfInBounds (i + 1) → Q (fun _ => true) q) : DW n (fun _ => mergeAt' i) Q p := by
  delta mergeAt'
  refine DW_bind (DW_get ?_)
  have e1 : ∀ g, pendingOf (p.st g) = p.pend := fun _ => rfl
  have e2 : ∀ g, arrOf (p.st g) = p.js.map g := fun _ => rfl
  simp only [e1, e2, ha, hb, ← Array.map_extract]
  refine DW_bind (DW_set (p' := ⟨p.js, (p.pend.setIfInBounds i (sa, na + nb, pa)).eraseIdxIfInBounds (i + 1), p.gal⟩) (fun _ => rfl) ?_)
  refine DW_bind (DW_elem (Array.getElem?_eq_getElem (by lia)) ?_)
  refine DW_bind (DW_gallop (by lia) (by lia) fun k hk => ?_)
  dsimp -zeta -zetaHave only
  refine DW_ite (fun _ => DW_pure (h _ rfl rfl)) fun hz => ?_
  simp only [beq_iff_eq] at hz
  refine DW_bind (DW_elem (Array.getElem?_eq_getElem (by lia)) ?_)
  refine DW_bind (DW_gallop (by lia) (by lia) fun k2 hk2 => ?_)
  dsimp -zeta -zetaHave only
  refine DW_ite (fun _ => DW_pure (h _ rfl rfl)) fun hz2 => ?_
  simp only [beq_iff_eq] at hz2
  refine DW_ite (fun _ => ?_) fun _ => ?_
  · refine DW_bind (DW_mergeLo (by rw [Array.size_extract]; lia) (by rw [Array.size_extract]; lia) ?_)
    rintro _ _ ⟨js, rfl⟩ ⟨gal, rfl⟩
    refine DW_bind (DW_modify (p' := ⟨js.toList.zipIdx.foldl (fun a x => a.setIfInBounds (sa + k + x.2) x.1) p.js, (p.pend.setIfInBounds i (sa, na + nb, pa)).eraseIdxIfInBounds (i + 1), gal⟩) (fun g => ?_) ?_)
    · unfold PS.st
      dsimp -zeta -zetaHave only
      rw [map_put, Array.toList_map]
    refine DW_bind (DW_get ?_)
    exact DW_pure (h _ (put_size _ _ _) rfl)
  · refine DW_bind (DW_mergeHi (by rw [Array.size_extract]; lia) (by rw [Array.size_extract]; lia) ?_)
    rintro _ _ ⟨js, rfl⟩ ⟨gal, rfl⟩
    refine DW_bind (DW_modify (p' := ⟨js.toList.zipIdx.foldl (fun a x => a.setIfInBounds (sa + k + x.2) x.1) p.js, (p.pend.setIfInBounds i (sa, na + nb, pa)).eraseIdxIfInBounds (i + 1), gal⟩) (fun g => ?_) ?_)
    · unfold PS.st
      dsimp -zeta -zetaHave only
      rw [map_put, Array.toList_map]
    refine DW_bind (DW_get ?_)
    exact DW_pure (h _ (put_size _ _ _) rfl)
end
end

section
open PySem PySem.W PyProof.Rows
set_option Elab.async false
set_option maxRecDepth 100000
set_option maxHeartbeats 8000000
noncomputable def PInv (pend : Array (Nat × Nat × Nat)) (lo N : Nat) : Prop := ∀ i s l w, pend[i]? = some (s, l, w) → 1 ≤ l ∧ s + l ≤ N ∧ (∀ s' l' w', pend[i + 1]? = some (s', l', w') → s' = s + l) ∧ (i + 1 = pend.size → s + l = lo)
theorem PInv.push {pend : Array (Nat × Nat × Nat)} {lo N n : Nat} (h : PInv pend lo N) (h1 : 1 ≤ n) (h2 : lo + n ≤ N) : PInv (pend.push (lo, n, 0)) (lo + n) N := by
  intro i s l w hi
  rw [Array.getElem?_push] at hi
  split at hi
  · rename_i e
    cases hi
    refine ⟨h1, h2, fun s' l' w' h3 => ?_, fun _ => rfl⟩
    rw [Array.getElem?_push, if_neg (by lia), Array.getElem?_eq_none (by lia)] at h3
    cases h3
  · obtain ⟨a, b, c, d⟩ := h i s l w hi
    have hlt : i < pend.size := (Array.getElem?_eq_some_iff.mp hi).1
    refine ⟨a, b, fun s' l' w' h3 => ?_, fun e => ?_⟩
    · rw [Array.getElem?_push] at h3
      split at h3
      · rename_i e
        cases h3
        exact (d e).symm
      · exact c _ _ _ h3
    · rw [Array.size_push] at e; lia
theorem PInv.mod {pend : Array (Nat × Nat × Nat)} {lo N k pw : Nat} (h : PInv pend lo N) : PInv (pend.modify k fun x => (x.1, x.2.1, pw)) lo N := by
  intro i s l w hi
  have key : ∀ (j s l w : Nat), (pend.modify k fun x => (x.1, x.2.1, pw))[j]? = some (s, l, w) → ∃ w', pend[j]? = some (s, l, w') := by
    intro j s l w hj
    rw [Array.getElem?_modify] at hj
    split at hj
    · cases hp : pend[j]? with
      | none => rw [hp] at hj; cases hj
      | some v =>
        rw [hp] at hj
        obtain ⟨a, b, c⟩ := v
        cases hj
        exact ⟨c, rfl⟩
    · exact ⟨w, hj⟩
  obtain ⟨w1, hi1⟩ := key _ _ _ _ hi
  obtain ⟨a, b, c, d⟩ := h i s l w1 hi1
  refine ⟨a, b, fun s' l' w' h3 => ?_, fun e => d (by rw [Array.size_modify] at e; exact e)⟩
  obtain ⟨w2, h4⟩ := key _ _ _ _ h3
  exact c _ _ _ h4
theorem merge_get {pend : Array (Nat × Nat × Nat)} {i : Nat} {v : Nat × Nat × Nat} (hi : i + 1 < pend.size) (j : Nat) :
    ((pend.setIfInBounds i v).eraseIdxIfInBounds (i + 1))[j]? = if j = i then some v else if j < i then pend[j]? else pend[j + 1]? := by
  rw [Array.eraseIdxIfInBounds, dif_pos (by simpa using hi), Array.getElem?_eraseIdx]
  by_cases h1 : j < i + 1
  · rw [if_pos h1, Array.getElem?_setIfInBounds]
    by_cases h2 : j = i
    · subst h2; rw [if_pos rfl, if_pos rfl, if_pos (by lia)]
    · rw [if_neg (Ne.symm h2), if_neg h2, if_pos (by lia)]
  · rw [if_neg h1, Array.getElem?_setIfInBounds, if_neg (by lia), if_neg (by lia), if_neg (by lia)]
theorem PInv.merge {pend : Array (Nat × Nat × Nat)} {lo N i sa na pa sb nb pb : Nat} (h : PInv pend lo N) (ha : pend[i]? = some (sa, na, pa)) (hb : pend[i + 1]? = some (sb, nb, pb)) :
    PInv ((pend.setIfInBounds i (sa, na + nb, pa)).eraseIdxIfInBounds (i + 1)) lo N := by
  have hlt : i + 1 < pend.size := (Array.getElem?_eq_some_iff.mp hb).1
  obtain ⟨a1, b1, c1, d1⟩ := h _ _ _ _ ha
  obtain ⟨a2, b2, c2, d2⟩ := h _ _ _ _ hb
  have e := c1 _ _ _ hb
  have hsz : ((pend.setIfInBounds i (sa, na + nb, pa)).eraseIdxIfInBounds (i + 1)).size = pend.size - 1 := by
    rw [Array.eraseIdxIfInBounds, dif_pos (by simpa using hlt), Array.size_eraseIdx, Array.size_setIfInBounds]
  intro j s l w hj
  rw [merge_get hlt] at hj
  rw [hsz]
  split at hj
  · rename_i e1
    subst e1
    cases hj
    refine ⟨by lia, by lia, fun s' l' w' h3 => ?_, fun e2 => ?_⟩
    · rw [merge_get hlt, if_neg (by lia), if_neg (by lia)] at h3
      have := c2 _ _ _ h3
      lia
    · have := d2 (by lia); lia
  · split at hj
    · obtain ⟨a, b, c, d⟩ := h _ _ _ _ hj
      refine ⟨a, b, fun s' l' w' h3 => ?_, fun e2 => by lia⟩
      rw [merge_get hlt] at h3
      split at h3
      · rename_i e3
        cases h3
        exact c _ _ _ (by rw [e3]; exact ha)
      · rw [if_pos (by lia)] at h3
        exact c _ _ _ h3
    · obtain ⟨a, b, c, d⟩ := h _ _ _ _ hj
      refine ⟨a, b, fun s' l' w' h3 => ?_, fun e2 => d (by lia)⟩
      rw [merge_get hlt, if_neg (by lia), if_neg (by lia)] at h3
      exact c _ _ _ h3
theorem ite_le (c : Prop) [Decidable c] (a : Nat) : (if c then a - 1 else a) ≤ a := by split <;> lia
section
variable {n : Nat → Int} {p : PS}
theorem DW_merge1 {i lo N : Nat} {Q : ((Nat → Keyed) → Bool) → PS → Prop} (hi : i + 1 < p.pend.size) (hN : p.js.size = N) (hP : PInv p.pend lo N) (h : ∀ q, q.js.size = N → PInv q.pend lo N → Q (fun _ => true) q) : DW n (fun _ => mergeAt' i) Q p := by
  obtain ⟨⟨sa, na, pa⟩, ha⟩ : ∃ v, p.pend[i]? = some v := ⟨_, Array.getElem?_eq_getElem (by lia)⟩
  obtain ⟨⟨sb, nb, pb⟩, hb⟩ : ∃ v, p.pend[i + 1]? = some v := ⟨_, Array.getElem?_eq_getElem hi⟩
  obtain ⟨a1, b1, c1, d1⟩ := hP _ _ _ _ ha
  obtain ⟨a2, b2, c2, d2⟩ := hP _ _ _ _ hb
  exact DW_mergeAt ha hb a1 a2 (c1 _ _ _ hb) (by lia) fun q h1 h2 => h q (h1.trans hN) (h2 ▸ hP.merge ha hb)
theorem DW_sortRuns {Q : ((Nat → Keyed) → Unit) → PS → Prop} (hp : p.pend = #[]) (h : ∀ q, q.js.size = p.js.size → Q (fun _ => ()) q) : DW n (fun _ => sortRuns') Q p := by
  delta sortRuns'
  refine DW_bind (DW_get ?_)
  have e1 : ∀ (q : PS) g, pendingOf (q.st g) = q.pend := fun _ _ => rfl
  have e2 : ∀ (q : PS) g, arrOf (q.st g) = q.js.map g := fun _ _ => rfl
  simp -zeta -zetaHave only [e2, Array.size_map]
  generalize hN : p.js.size = N at *
  refine DW_bind (DW_mono (DW_for (I := fun _ c q => q.js.size = N ∧ ∃ lo, lo ≤ N ∧ PInv q.pend lo N ∧ c = fun _ => (none, lo)) (Q := fun c q => q.js.size = N ∧ ∃ lo, lo ≤ N ∧ PInv q.pend lo N ∧ c = fun _ => (none, lo)) ?step (fun _ _ h => h) ⟨hN, 0, Nat.zero_le _, ?init, rfl⟩) ?post)
  case init =>
    rw [hp]
    intro i s l w h
    simp at h
  case post =>
    rintro _ q ⟨hq, lo, hlo, hP, rfl⟩
    dsimp -zeta -zetaHave only
    refine DW_bind (DW_mono (DW_for (I := fun _ c q => q.js.size = N ∧ PInv q.pend lo N ∧ c = fun _ => (none, ())) (Q := fun c q => q.js.size = N ∧ PInv q.pend lo N ∧ c = fun _ => (none, ())) ?_ (fun _ _ h => h) ⟨hq, hP, rfl⟩) ?_)
    · rintro i c q1 _ _ ⟨hq1, hP1, rfl⟩
      refine DW_bind (DW_get ?_)
      dsimp -zeta -zetaHave only
      simp only [e1]
      refine DW_ite (fun _ => DW_pure (.inl ⟨_, rfl, hq1, hP1, rfl⟩)) fun hlt => ?_
      refine DW_bind (DW_merge1 (Nat.lt_of_le_of_lt (Nat.succ_le_succ (ite_le _ _)) (by lia)) hq1 hP1 fun q2 h2 h3 => ?_)
      exact DW_pure (.inr ⟨_, rfl, h2, h3, rfl⟩)
    · rintro _ q1 ⟨hq1, hP1, rfl⟩
      exact DW_pure (h _ hq1)
  rintro i c q _ _ ⟨hs, lo, hlo, hP, rfl⟩
  dsimp -zeta -zetaHave only
  refine DW_ite (fun _ => DW_pure (.inl ⟨_, rfl, hs, lo, hlo, hP, rfl⟩)) fun hlt => ?_
  refine DW_bind (DW_countRun (by lia) (by lia) fun nn q1 hm1 hm2 hq1 => ?_)
  dsimp -zeta -zetaHave only
  refine DW_ite (fun hmr => ?p1) fun hmr => ?p2
  case' p1 =>
    refine DW_bind (DW_rule ?_)
    refine DW_bind (DW_binarySort (by have := hq1.1; lia) fun q2 hq2 => ?_)
    dsimp -zeta -zetaHave only
    simp only [Bool.not_true, Bool.false_eq_true, if_false]
    generalize hf : min (N - lo) _ = nn
    have hn1 : 1 ≤ nn := by lia
    have hn2 : lo + nn ≤ N := by lia
    refine (?_ : ∀ q2, q2.js.size = N → PInv q2.pend lo N → DW n _ _ q2) q2 (hq2.1.trans (hq1.1.trans hs)) (by rw [hq2.2, hq1.2]; exact hP)
  case' p2 =>
    have hn1 : 1 ≤ nn := hm1
    have hn2 : lo + nn ≤ N := by lia
    refine (?_ : ∀ q2, q2.js.size = N → PInv q2.pend lo N → DW n _ _ q2) q1 (hq1.1.trans hs) (by rw [hq1.2]; exact hP)
  all_goals
    intro q2 hs2 hP2
    refine DW_bind (DW_get ?_)
    dsimp -zeta -zetaHave only
    simp only [e1]
    cases hb : q2.pend.back? with
    | none =>
      dsimp -zeta -zetaHave only
      refine DW_bind (DW_modify (p' := ⟨q2.js, q2.pend.push (lo, nn, 0), q2.gal⟩) (fun _ => rfl) ?_)
      exact DW_pure (.inr ⟨_, rfl, hs2, lo + nn, hn2, hP2.push hn1 hn2, rfl⟩)
    | some v =>
      obtain ⟨s1, n1, w1⟩ := v
      dsimp -zeta -zetaHave only
      generalize (sortPriv% PySem.Builtin.power) N (2 * s1 + n1) (2 * s1 + n1 + n1 + nn) N = pw
      refine DW_bind (DW_mono (DW_for (I := fun _ c q => q.js.size = N ∧ PInv q.pend lo N ∧ c = fun _ => (none, ())) (Q := fun c q => q.js.size = N ∧ PInv q.pend lo N ∧ c = fun _ => (none, ())) ?_ (fun _ _ h => h) ⟨hs2, hP2, rfl⟩) ?_)
      · rintro i c q1 _ _ ⟨hq1, hP1, rfl⟩
        refine DW_bind (DW_get ?_)
        dsimp -zeta -zetaHave only
        simp only [e1]
        cases hx : (if q1.pend.size > 1 then q1.pend[q1.pend.size - 2]? else none) with
        | none => exact DW_pure (.inl ⟨_, rfl, hq1, hP1, rfl⟩)
        | some v =>
          obtain ⟨s3, n3, w3⟩ := v
          dsimp -zeta -zetaHave only
          have hlt : q1.pend.size > 1 := by
            by_cases h : q1.pend.size > 1
            · exact h
            · rw [if_neg h] at hx; cases hx
          refine DW_ite (fun _ => DW_pure (.inl ⟨_, rfl, hq1, hP1, rfl⟩)) fun _ => ?_
          refine DW_bind (DW_merge1 (by lia) hq1 hP1 fun q2 h2 h3 => ?_)
          exact DW_pure (.inr ⟨_, rfl, h2, h3, rfl⟩)
      · rintro _ q3 ⟨hq3, hP3, rfl⟩
        refine DW_bind (DW_modify (p' := ⟨q3.js, q3.pend.modify (q3.pend.size - 1) fun x => (x.1, x.2.1, pw), q3.gal⟩) (fun _ => rfl) ?_)
        refine DW_bind (DW_modify (p' := ⟨q3.js, (q3.pend.modify (q3.pend.size - 1) fun x => (x.1, x.2.1, pw)).push (lo, nn, 0), q3.gal⟩) (fun _ => rfl) ?_)
        exact DW_pure (.inr ⟨_, rfl, hq3, lo + nn, hn2, hP3.mod.push hn1 hn2, rfl⟩)
end
end

section
open PySem PySem.W PyProof.Rows
set_option Elab.async false
set_option maxRecDepth 100000
set_option maxHeartbeats 8000000
noncomputable def pickI (ns : List Int) (j : Nat) : Int := ns.getD j 0
noncomputable def pickV (vs : List Value) (j : Nat) : Value := vs.getD j (.int 0 0)
theorem pick_ints {vs : List Value} {ns : List Int} (h : IntsAre vs ns) : ∀ j, ∃ t, pickV vs j = .int (pickI ns j) t := by
  induction h with
  | nil => intro j; exact ⟨0, by simp [pickV, pickI]⟩
  | cons k t _ ih =>
    intro j
    cases j with
    | zero => exact ⟨t, by simp [pickV, pickI]⟩
    | succ j =>
      obtain ⟨u, hu⟩ := ih j
      exact ⟨u, by simpa [pickV, pickI] using hu⟩
noncomputable def keyG (vs : List Value) (j : Nat) : Keyed := (pickV vs j, pickV vs j)
theorem keyG_good {vs : List Value} {ns : List Int} (h : IntsAre vs ns) : Good (pickI ns) (keyG vs) := fun j => by
  obtain ⟨t, ht⟩ := pick_ints h j
  exact ⟨t, t, by rw [keyG, ht]⟩
theorem start_pairs (vs : List Value) : (Array.range vs.length).map (keyG vs) = vs.toArray.zip vs.toArray := by
  refine Array.ext (by simp) fun i h1 h2 => ?_
  have hi : i < vs.length := by simpa using h1
  simp [keyG, pickV, hi]
theorem ints_map {f : Nat → Value} {n : Nat → Int} (h : ∀ j, ∃ t, f j = .int (n j) t) : ∀ l : List Nat, IntsAre (l.map f) (l.map n)
  | [] => .nil
  | j :: l => by
    obtain ⟨t, ht⟩ := h j
    rw [List.map_cons, List.map_cons, ht]
    exact .cons _ _ (ints_map h l)
/-- what the sort of a list of these ints comes to -/
theorem runs_any (ns : List Int) : ∃ (a : (Nat → Keyed) → Unit) (q : PS), q.js.size = ns.length ∧ ∀ vs, IntsAre vs ns → ∀ prog w A E s, wpS (model prog w) A E s sortRuns' (fun r s' => r = a (keyG vs) ∧ s' = q.st (keyG vs)) (SortSt.mk' oneType' (vs.toArray.zip vs.toArray) #[] 7 none) := by
  obtain ⟨a, q, hq, h⟩ := DW_sortRuns (n := pickI ns) (p := ⟨Array.range ns.length, #[], 7⟩) (Q := fun _ q => q.js.size = ns.length) rfl fun q hq => hq.trans Array.size_range
  refine ⟨a, q, hq, fun vs hI prog w A E s => ?_⟩
  have := h (keyG vs) (keyG_good hI) prog w A E s
  have e : PS.st ⟨Array.range ns.length, #[], 7⟩ (keyG vs) = SortSt.mk' oneType' (vs.toArray.zip vs.toArray) #[] 7 none := by
    unfold PS.st
    dsimp only
    rw [← IntsAre.length hI, start_pairs]
  rwa [e] at this
theorem tree_any (ns : List Int) (hlo : 2 ≤ ns.length) (hhi : ns.length ≤ 100000) : ∃ ns' : List Int, ∀ {prog : Program} {w : World} {A : Around} {E : Value → Shared → Prop} {s : Shared} {a : Addr} {vs : List Value} {k : Nat} {P : Fin → Shared → Prop},
    s.heap.get? a = some (seqObj "list" vs.toArray k) → IntsAre vs ns → (∀ out : Array Value, IntsAre out.toList ns' → P (.done (.ret .none)) { s with heap := sortedHeap s.heap a vs out }) →
    wpAny (model prog w) A (Builtin.«list.sort» ⟨[.ref a], []⟩) P E s := by
  obtain ⟨c, q, hq, H⟩ := runs_any ns
  refine ⟨q.js.toList.map (pickI ns), ?_⟩
  intro prog w A E s a vs k P ho hI h
  have hl := IntsAre.length hI
  have hbig : ¬ vs.toArray.size < 2 := by simp; lia
  have hin := Heap.lt_size ho
  rw [list_sort_plain]
  refine wpAny_bind (listItems_at ho rfl (wpAny_bind (listUpdate_at ho rfl ?_ (by rw [sizeLine_eq]; simp; lia))))
  obtain ⟨e1, ho1⟩ : ∃ e1, (s.heap.update a (Obj.mapSeq fun _ => #[])).get? a = some (seqObj "list" #[] e1) := ⟨_, get?_update_seq ho (fun _ => #[])⟩
  refine wpAny_bind (seqEpoch_at ho1 rfl (wpAny_bind (wpAny_newTuple (wpAny_bind (wpAny_newList (wpAny_holding ?_))))))
  have ho2 : (((s.heap.update a (Obj.mapSeq fun _ => #[])).push (seqObj "tuple" vs.toArray 0)).push (seqObj "list" #[] 0)).get? a = some (seqObj "list" #[] e1) :=
    Heap.get?_push_of_some _ (Heap.get?_push_of_some _ ho1)
  show wpAny (model prog w) A _ P E { s with heap := ((s.heap.update a (Obj.mapSeq fun _ => #[])).push (seqObj "tuple" vs.toArray 0)).push (seqObj "list" #[] 0) }
  dsimp only
  rw [if_neg hbig, if_neg hbig]
  obtain ⟨v1, v2, rest, rfl⟩ : ∃ v1 v2 rest, vs = v1 :: v2 :: rest := by
    match vs, hl with
    | [], hl => simp at hl; lia
    | [_], hl => simp at hl; lia
    | v1 :: v2 :: rest, _ => exact ⟨v1, v2, rest, rfl⟩
  rw [keyKind_ints hI]
  refine wpAny_bind (wpAny_pure ?_)
  refine wpAny_bind (wpAny_mono (H _ hI prog w A E _) ?_ fun _ _ e => e)
  rintro ⟨r, st⟩ s' ⟨rfl, _, rfl⟩
  dsimp only
  have hout : (arrOf (q.st (keyG (v1 :: v2 :: rest)))).map (·.2) = q.js.map (pickV (v1 :: v2 :: rest)) := by
    show (q.js.map (keyG _)).map (·.2) = _
    rw [Array.map_map]; rfl
  refine wpAny_bind (seqEpoch_at ho2 rfl (wpAny_bind (listUpdate_at ho2 rfl ?_ (hsz2 := by rw [hout, Array.size_map, hq, sizeLine_eq]; lia))))
  show wpAny (model prog w) A _ P E _
  rw [hout]
  simp only [bne_self_eq_false, Bool.false_eq_true, if_false]
  refine wpAny_pure (h _ ?_)
  rw [Array.toList_map]
  exact ints_map (pick_ints hI) _
theorem sorted_any (ns : List Int) (hlen : ns.length ≤ 100000) : ∃ ns' : List Int, ∀ {prog : Program} {w : World} {A : Around} {E : Value → Shared → Prop} {s : Shared} {h₀ : Heap} {L l : Addr} {m : Str → Option Value} {news : List (Addr × Obj)} {vs : List Value} {Q : Value → Shared → Prop},
    Fr h₀ L s.heap m → News h₀ L s.heap news → s.heap.IsList l vs.toArray → IntsAre vs ns →
    (∀ D vs' c h', Fr h₀ L h' m → News h₀ L h' ((D, PySem.W.listOf vs'.toArray c) :: news) → (∀ q ∈ news, q.1 < D) → IntsAre vs' ns' → Q (.ref D) { s with heap := h' }) →
    wpAny (model prog w) A (call (.builtin "sorted") [.ref l]) Q E s := by
  by_cases h2 : ns.length < 2
  · refine ⟨ns, ?_⟩
    intro prog w A E s h₀ L l m news vs Q F N hl hI h
    have e := IntsAre.length hI
    refine sorted_N F N hl hI (by lia) fun h' vs' ns' c F' N' a1 a2 a3 => h _ vs' c h' F' N' (fun p hp => Nat.lt_succ_of_lt (Heap.lt_size (N p hp).1)) ?_
    have : ns' = ns := by
      match ns, h2, a2 with
      | [], _, a2 => exact List.perm_nil.mp a2
      | [x], _, a2 => exact List.perm_singleton.mp a2
      | _ :: _ :: _, h2, _ => simp at h2; lia
    exact this ▸ a1
  · obtain ⟨ns', H⟩ := tree_any ns (by lia) hlen
    refine ⟨ns', ?_⟩
    intro prog w A E s h₀ L l m news vs Q F N hl hI h
    have e := IntsAre.length hI
    refine Calls.call_function_entry kind_sorted plain_sorted entry_sorted (args_sorted1 _) ?_
    unfold Builtin.«sorted»
    refine wpAny_bind (m := checkCount "sorted" 1 1 _) (wpAny_pure (wpAny_bind (collect_list hl (wpAny_bind (wpAny_newList ?_)) (by rw [sizeLine_eq]; lia))))
    have hsz : ((s.heap.push (seqObj "list" #[] 0)).update s.heap.objs.size (Obj.mapSeq (· ++ vs.toArray))).objs.size = s.heap.objs.size + 1 := by
      rw [Heap.size_update, size_push']
    have hoL : (((s.heap.push (seqObj "list" #[] 0)).update s.heap.objs.size (Obj.mapSeq (· ++ vs.toArray))).push (seqObj "list" vs.toArray 0)).get? (s.heap.objs.size + 1) = some (seqObj "list" vs.toArray 0) :=
      hsz ▸ Heap.get?_push_size _ rfl
    show wpAny _ _ _ _ _ { s with heap := ((s.heap.push (seqObj "list" #[] 0)).update s.heap.objs.size (Obj.mapSeq (· ++ vs.toArray))).push (seqObj "list" vs.toArray 0) }
    rw [hsz]
    refine wpAny_bind (wpAny_holding (wpAny_call_entry slot_list_sort ⟨_, hoL, rfl⟩ entry_list_sort (H hoL hI fun out a1 => ⟨_, rfl, ?_⟩) (args_list_sort _)))
    refine wpAny_pure ⟨_, rfl, ?_⟩
    obtain ⟨c, hc⟩ := sortedAll_at s.heap vs out
    exact h _ out.toList c _ (F.kept fun _ _ => sortedAll_old) (N.kept_cons F (fun _ _ => sortedAll_old) (Nat.le_succ _) hc) (fun p hp => Nat.lt_succ_of_lt (Heap.lt_size (N p hp).1)) a1
end

section
open PySem PySem.W PySem.Calls PyProof.Rows Builtin
set_option Elab.async false
set_option maxRecDepth 100000
set_option maxHeartbeats 8000000
example : ∀ w : World, (hd.heap_39 w.params).In default → Challenge.rw_la0046_01.Holds → True := by k_fill; intros; trivial
noncomputable def SortsTo (ns ns' : List Int) : Prop := ∀ {prog : Program} {w : World} {A : Around} {E : Value → Shared → Prop} {s : Shared} {h₀ : Heap} {L l : Addr} {m : Str → Option Value} {news : List (Addr × Obj)} {vs : List Value} {Q : Value → Shared → Prop},
    Fr h₀ L s.heap m → News h₀ L s.heap news → s.heap.IsList l vs.toArray → IntsAre vs ns →
    (∀ D vs' c h', Fr h₀ L h' m → News h₀ L h' ((D, PySem.W.listOf vs'.toArray c) :: news) → (∀ q ∈ news, q.1 < D) → IntsAre vs' ns' → Q (.ref D) { s with heap := h' }) →
    wpAny (model prog w) A (call (.builtin "sorted") [.ref l]) Q E s
example : True := by
  k_with_none
  trivial
theorem sort_use {ns ns' : List Int} {prog : Program} {w : World} {A : Around} {E : Value → Shared → Prop} {s : Shared} {h₀ : Heap} {L l : Addr} {m : Str → Option Value} {news : List (Addr × Obj)} {vs : List Value} {Q : Value → Shared → Prop} (C : SortsTo ns ns')
    (F : Fr h₀ L s.heap m) (N : News h₀ L s.heap news) (hl : s.heap.IsList l vs.toArray) (hI : IntsAre vs ns)
    (h : ∀ D vs' c h', Fr h₀ L h' m → News h₀ L h' ((D, PySem.W.listOf vs'.toArray c) :: news) → (∀ q ∈ news, q.1 < D) → IntsAre vs' ns' → Q (.ref D) { s with heap := h' }) :
    wpAny (model prog w) A (call (.builtin "sorted") [.ref l]) Q E s := C F N hl hI h
theorem sortsTo (ns : List Int) (hlen : ns.length ≤ 100000) : ∃ ns', SortsTo ns ns' := by
  obtain ⟨ns', h⟩ := sorted_any ns hlen
  exact ⟨ns', h⟩
section
open LCg LCt
variable {prog : Program} {w : World} {A : Around} {E : Value → Shared → Prop} {s : Shared} {h₀ : Heap} {L : Addr} {m : Str → Option Value} {env : Env}
theorem compT_ind {ct elt : PySem.Expr} {x : Str} {scope : Scope} {cl : List (Str × Addr)} {S : List (Addr × Obj) → Prop} {P : Nat → Value → Prop} {Fin : List Value → List (Addr × Obj) → Prop} {n : Nat} (J : Nat → List Value → List (Addr × Obj) → Prop) {news₀ : List (Addr × Obj)}
    (h0 : J 0 [] news₀)
    (step : ∀ i ys news v I oI C oC D m₂ h tk (E' : Value → Shared → Prop) (R : List Value → List (Addr × Obj) → Prop), J i ys news → (∀ ys' news', J (i + 1) ys' news' → R ys' news') → P i v → NsObj oC m₂ → m₂ x = some v → Fr h₀ L h m → News h₀ L h ((I, oI) :: (C, oC) :: (D, lst ys) :: news) → Off3 I C D news → ((@Ne Nat I C) ∧ (@Ne Nat I D) ∧ (@Ne Nat C D)) →
      wpAny (model prog w) A (isTrue ct (compEnvC scope cl C env) (eval ct (compEnvC scope cl C env))) (fun ok s' => if ok = true then
        wpAny (model prog w) A (eval elt (compEnvC scope cl C env)) (CompEnd h₀ L m { s with heap := h, toks := tk } I oI C oC D (lst ys) S (fun y news' => R (ys ++ [y]) news')) E' s'
        else CompEnd h₀ L m { s with heap := h, toks := tk } I oI C oC D (lst ys) S (fun _ news' => R ys news') Value.none s') E' { s with heap := h, toks := tk })
    (fin : ∀ ys news, J n ys news → Fin ys news) : CompRestT prog w A h₀ L m env ct elt x scope cl s S P Fin n 0 [] news₀ := by
  have key : ∀ k i ys news, i + k = n → J i ys news → CompRestT prog w A h₀ L m env ct elt x scope cl s S P Fin k i ys news := by
    intro k
    induction k with
    | zero => intro i ys news e hJ; exact .zero (fin ys news (by rw [← e]; exact hJ))
    | succ k ih =>
      intro i ys news e hJ
      refine .succ fun v I oI C oC D m₂ h tk E' hP hC hx F N off ne => ?_
      exact step i ys news v I oI C oC D m₂ h tk E' (fun ys' news' => CompRestT prog w A h₀ L m env ct elt x scope cl s S P Fin k (i + 1) ys' news') hJ (fun ys' news' h => ih (i + 1) ys' news' (by lia) h) hP hC hx F N off ne
  exact key n 0 [] news₀ (by lia) h0
end
theorem ints_at : ∀ {vs : List Value} {ns : List Int} (_ : IntsAre vs ns) {i : Nat} {v : Value}, vs[i]? = some v → ∃ n t, v = .int n t ∧ ns[i]? = some n
  | _, _, .nil, i, v, h => by simp at h
  | _, _, .cons n t r, i, v, h => by
    cases i with
    | zero => exact ⟨n, t, (by simpa using h.symm), rfl⟩
    | succ i => simpa using ints_at r (i := i) (by simpa using h)
theorem ints_app : ∀ {vs us : List Value} {ns ms : List Int} (_ : IntsAre vs ns) (_ : IntsAre us ms), IntsAre (vs ++ us) (ns ++ ms)
  | _, _, _, _, .nil, k => k
  | _, _, _, _, .cons n t r, k => .cons n t (ints_app r k)
theorem take_snoc {ds : List Int} {i : Nat} {n : Int} (h : ds[i]? = some n) : ds.take (i + 1) = ds.take i ++ [n] := by
  rw [List.take_succ, h]; rfl
theorem low_one {n : Int} (h : n < 3) : lowOf [n] = [n] := by simp [lowOf, h]
theorem low_none {n : Int} (h : ¬ n < 3) : lowOf [n] = [] := by simp [lowOf, h]
local macro_rules | `(tactic| k_lt $h:ident) => `(tactic| (have kRaw := $h; replace $h := allLt_of $h; simp only [AllLt, and_true] at $h:ident))
local macro_rules | `(tactic| k_all) => `(tactic| exact OwnOff.ne (by assumption) (by k_memK))
local macro_rules | `(tactic| k_allIn) => `(tactic| (intro p hp; k_ownIn))
local macro_rules | `(tactic| k_mem) => `(tactic| (first | assumption | exact List.mem_cons_of_mem _ (by assumption) | exact List.mem_cons_of_mem _ (List.mem_cons_of_mem _ (by assumption)) | exact List.mem_cons_of_mem _ (List.mem_cons_of_mem _ (List.mem_cons_of_mem _ (by assumption)))))
example : True := by
  k_with "eval Name" => ((k_here; k_dflt (first | (refine' nameX_L ?F ?v ?_ ?a ?b; (case F => k_asm); (case a => rfl); (case b => rfl); (case v => assumption); k_whole) | (refine' nameX_C ?N ?c ?m ?d ?_ ?a ?b; (case a => rfl); (case b => rfl); (case N => k_asm); (case c => rfl); (case m => k_mem); (case d => assumption); k_whole))))
  trivial
example : True := by
  k_with "CompSrcT" => ((k_here; k_dflt (refine LCt.CompSrcT.ledger (by rfl) (by k_asm) (by k_asm) (by k_mem) (by (simp only [List.size_toArray, sizeLine_eq]; omega)) ?_; intro zzg'; refine stop_of ?_)))
  trivial
example : True := by
  k_with "CompEnd" => ((k_dflt (refine LCg.CompEnd.intro (by k_asm) (by k_asm) _ (fun p hp => hp) (by assumption) (by assumption) ?_)))
  trivial
example : True := by
  k_with "call builtin:sorted" => ((k_here; k_dflt (refine' sort_use ?c ?F ?N ?l ?i ?_; (case F => k_asm); (case N => k_asm); (case l => exact News.isList (by k_asm) (by k_mem)); (case i => assumption); (case c => assumption)); intro zzD' zzvs' zzc' zzh' zzF' zzN' zzl1 zzhi'))
  trivial
example : True := by
  k_with "eval ListComp" => ((k_here; k_dflt (refine LCt.ListComp_T (F₀ := by k_asm) (by with_unfolding_all rfl) (by decide) (by rfl) (by decide) (by rfl) ?_)))
  trivial
theorem part3C {w : World} {p : Program} {loose : List Str} {mean : ExcName → Option Value} {mg mb : Str → Option Value} {h₀ : Heap} {L fa : Addr} {cd : Value} {s : Shared} {oz : Obj} {aH aD : Addr} {hvs dvs : List Value} {hs ds ss : List Int} {nH nD : Nat} {G : List (Addr × Obj)} {m : Str → Option Value} {Q : Flow → Shared → Prop} {E : Value → Shared → Prop}
    (X : (hd.heap_39 w.params).In h₀) (T : Top p loose mean mg mb h₀) (B : Below callerA h₀ [] h₀)
    (F : Fr h₀ L s.heap m) (hm1 : m (Str.ofString "heard") = some (.ref aH)) (N : News h₀ L s.heap G) (hH : (aH, W.listOf hvs.toArray nH) ∈ G) (hz : (L + 1 + 1 + 1 + 1 + 1, oz) ∈ G) (dz : oz.data = .cell (some (.ref aD))) (hD : (aD, W.listOf dvs.toArray nD) ∈ G)
    (hI : IntsAre hvs hs) (hJ : IntsAre dvs ds) (hlow : hs = lowOf ds) (hdl : dvs.length ≤ 100000) (hss : SortsTo hs ss)
    (ret : ∀ {h' : Heap} {tk' : Nat} {G' : List (Addr × Obj)}, Fr h₀ L h' m → News h₀ L h' G' → (∀ q ∈ G, q ∈ G') → Q .next { s with heap := h', toks := tk' }) :
    wpAny (model Challenge.rw_la0046_01.row.prog w) (callerA.deeper (lawEnv L fa cd)) (execs p3C (lawEnv L fa cd)) Q E s := by
  conv in p3C => whnf
  conv in stmtAt turn2Body 3 => whnf
  unfold lawEnv
  conv in (occs := *) lawScope => all_goals whnf
  try k_fold
  k_steps
  rename Fr _ _ _ _ => F1
  rename News _ _ _ _ => N1
  have hsrc : LCg.SrcAt h₀ aD dvs.toArray ((zzD', W.listOf zzvs'.toArray zzc') :: G) := .inr ⟨_, .tail _ hD, rfl, _, rfl⟩
  refine of_stop (compT_ind (fun i ys nw => nw = (zzD', W.listOf zzvs'.toArray zzc') :: G ∧ i ≤ dvs.length ∧ IntsAre ys (lowOf (ds.take i))) ⟨rfl, Nat.zero_le _, .nil⟩ ?_ ?_)
  · rintro i ys nw v I oI C oC D m₂ h tk E' R ⟨rfl, hi, hy⟩ hR hP hC hx F2 N2 off ne
    have hP' : dvs[i]? = some v := by simpa using hP
    obtain ⟨n, t, rfl, hn⟩ := ints_at hJ hP'
    have hlt : i < dvs.length := (List.getElem?_eq_some_iff.mp hP').1
    have hR1 : n < 3 → R (ys ++ [Value.int n t]) ((zzD', W.listOf zzvs'.toArray zzc') :: G) := fun hlt3 => hR _ _ ⟨rfl, hlt, by rw [take_snoc hn, lowOf_append, low_one hlt3]; exact ints_app hy (.cons _ _ .nil)⟩
    have hR2 : ¬ n < 3 → R ys ((zzD', W.listOf zzvs'.toArray zzc') :: G) := fun hlt3 => hR _ _ ⟨rfl, hlt, by rw [take_snoc hn, lowOf_append, low_none hlt3, List.append_nil]; exact hy⟩
    clear F1 N1
    k_steps
    all_goals first | exact hR1 (by assumption) | exact hR2 (by assumption)
  · rintro ys nw ⟨rfl, _, hy⟩
    rw [List.take_of_length_le (by have := IntsAre.length hJ; simp only [List.size_toArray]; lia), ← hlow] at hy
    clear F1 N1
    k_steps
    rename Fr _ _ _ _ => Fz
    rename News _ _ _ _ => Nz
    exact ret Fz Nz (fun q hq => by repeat (first | assumption | refine List.mem_cons_of_mem _ ?_))
end

section
open PySem PySem.W PySem.Calls PyProof.Rows Builtin
set_option Elab.async false
set_option maxRecDepth 100000
set_option maxHeartbeats 8000000
example : ∀ w : World, (hd.heap_39 w.params).In default → Challenge.rw_la0046_01.Holds → True := by k_fill; intros; trivial
section
open LCg LCp
variable {prog : Program} {w : World} {A : Around} {E : Value → Shared → Prop} {s : Shared} {h₀ : Heap} {L : Addr} {m : Str → Option Value} {env : Env}
example : True := by
  k_with_none
  trivial
theorem compP_ind {elt : PySem.Expr} {x x₂ : Str} {scope : Scope} {cl : List (Str × Addr)} {S : List (Addr × Obj) → Prop} {P : Nat → Value → Prop} {Fin : List Value → List (Addr × Obj) → Prop} {n : Nat} (J : Nat → List Value → List (Addr × Obj) → Prop) {news₀ : List (Addr × Obj)}
    (h0 : J 0 [] news₀)
    (step : ∀ i ys news v (R : List Value → List (Addr × Obj) → Prop), J i ys news → (∀ ys' news', J (i + 1) ys' news' → R ys' news') → P i v →
      ∃ (t : Addr) (ot : Obj) (v₁ v₂ : Value) (nt : Nat), v = .ref t ∧ (t, ot) ∈ news ∧ ot.cls = .type "tuple" ∧ ot.data = .seq #[v₁, v₂] nt ∧
      ∀ I oI C oC D m₂ h tk (E' : Value → Shared → Prop), NsObj oC m₂ → m₂ x = some v₁ → m₂ x₂ = some v₂ → Fr h₀ L h m → News h₀ L h ((I, oI) :: (C, oC) :: (D, lst ys) :: news) → Off3 I C D news → ((@Ne Nat I C) ∧ (@Ne Nat I D) ∧ (@Ne Nat C D)) →
      wpAny (model prog w) A (eval elt (compEnvC scope cl C env)) (CompEnd h₀ L m { s with heap := h, toks := tk } I oI C oC D (lst ys) S (fun y news' => R (ys ++ [y]) news')) E' { s with heap := h, toks := tk })
    (fin : ∀ ys news, J n ys news → Fin ys news) : CompRestP prog w A h₀ L m env elt x x₂ scope cl s S P Fin n 0 [] news₀ := by
  have key : ∀ k i ys news, i + k = n → J i ys news → CompRestP prog w A h₀ L m env elt x x₂ scope cl s S P Fin k i ys news := by
    intro k
    induction k with
    | zero => intro i ys news e hJ; exact .zero (fin ys news (by rw [← e]; exact hJ))
    | succ k ih =>
      intro i ys news e hJ
      exact .succ fun v hP => step i ys news v (fun ys' news' => CompRestP prog w A h₀ L m env elt x x₂ scope cl s S P Fin k (i + 1) ys' news') hJ (fun ys' news' h => ih (i + 1) ys' news' (by lia) h) hP
  exact key n 0 [] news₀ (by lia) h0
end
theorem made_at {own : List (Addr × Obj)} : ∀ {vs : List Value} {rs : List Rec} (_ : MadeAre own vs rs) {i : Nat} {v : Value}, vs[i]? = some v → ∃ r t u, rs[i]? = some r ∧ v = .ref t ∧ (t, tupObj [.int r.place u, .ref r.x]) ∈ own
  | [], [], _, i, v, h => by simp at h
  | v0 :: vs, r0 :: rs, ⟨⟨t, u, e, hm⟩, k⟩, i, v, h => by
    cases i with
    | zero => exact ⟨r0, t, u, rfl, by rw [← e]; simpa using h.symm, hm⟩
    | succ i => simpa using made_at k (i := i) (by simpa using h)
noncomputable def boolsOf (f : Rec → Bool) (rs : List Rec) : List Value := rs.map fun r => .bool (f r)
theorem bools_snoc {f : Rec → Bool} {rs : List Rec} {i : Nat} {r : Rec} (h : rs[i]? = some r) : boolsOf f (rs.take (i + 1)) = boolsOf f (rs.take i) ++ [.bool (f r)] := by
  rw [List.take_add_one, h]; simp [boolsOf]
theorem canLay_bools : ∀ ns : List Bool, PyData.canLayAll0 (ns.map PyData.bool) = true
  | [] => rfl
  | _ :: r => by simp [PyData.canLayAll0, PyData.canLay0, canLay_bools r]
theorem depth_bools : ∀ ns : List Bool, PyData.depthAll (ns.map PyData.bool) = 0
  | [] => rfl
  | _ :: r => by simp [PyData.depthAll, PyData.depth, depth_bools r]
theorem shaped_bools (ns : List Bool) : SeqAt.shaped (.list (ns.map PyData.bool)) = true := by
  simp [SeqAt.shaped, PyData.canLay0, PyData.depth, canLay_bools, depth_bools]
theorem same_bools : ∀ ns : List Bool, PySem.Spec.sameAll (ns.map PyData.bool) (ns.map PyData.bool) = true
  | [] => by simp [PySem.Spec.sameAll]
  | a :: r => by simp only [List.map_cons, PySem.Spec.sameAll, PySem.Spec.same, same_bools r]; simp
theorem carried_bools : ∀ ns : List Bool, CarriedAll (ns.map Value.bool) (ns.map PyData.bool)
  | [] => .nil
  | a :: r => .cons (.bool a) (carried_bools r)
section
variable {prog : Program} {w : World} {A : Around} {E : Value → Shared → Prop} {s : Shared} {a b : Addr} {Q : Value → Shared → Prop}
theorem ne_bools {ns : List Bool} (ha : s.heap.IsList a (ns.map Value.bool).toArray) (hb : s.heap.IsList b (ns.map Value.bool).toArray) (hu : A.units + 64 < cLine) (h : Q (.bool false) s) :
    wpAny (model prog w) A (compareOp .NotEq (.ref a) (.ref b)) Q E s :=
  ne_dataH_same (reads_newData ha (carried_bools ns)) (reads_newData hb (carried_bools ns)) (shaped_bools _) (shaped_bools _) hu (SeqAt.noMix_of_shape (.list .bool) rfl _ _ (list_map_has fun _ => rfl) (list_map_has fun _ => rfl)) (by
    have e : PySem.Spec.same (.list (ns.map PyData.bool)) (.list (ns.map PyData.bool)) = true := by simp only [PySem.Spec.same]; exact same_bools ns
    rw [e]; exact h)
end
local macro_rules | `(tactic| k_lt $h:ident) => `(tactic| (have kRaw := $h; replace $h := allLt_of $h; simp only [AllLt, and_true] at $h:ident))
local macro_rules | `(tactic| k_all) => `(tactic| exact OwnOff.ne (by assumption) (by k_memK))
local macro_rules | `(tactic| k_allIn) => `(tactic| (intro p hp; k_ownIn))
local macro_rules | `(tactic| k_mem) => `(tactic| (first | assumption | exact List.mem_cons_of_mem _ (by assumption) | exact List.mem_cons_of_mem _ (List.mem_cons_of_mem _ (by assumption)) | exact List.mem_cons_of_mem _ (List.mem_cons_of_mem _ (List.mem_cons_of_mem _ (by assumption)))))
example : True := by
  k_with "eval Name" => ((k_here; k_dflt (first | (refine' nameX_L ?F ?v ?_ ?a ?b; (case F => k_asm); (case a => rfl); (case b => rfl); (case v => assumption); k_whole) | (refine' nameX_C ?N ?c ?m ?d ?_ ?a ?b; (case a => rfl); (case b => rfl); (case N => k_asm); (case c => rfl); (case m => k_mem); (case d => assumption); k_whole))))
  trivial
example : True := by
  k_with "CompEnd" => ((k_dflt (refine LCg.CompEnd.intro (by k_asm) (by k_asm) _ (fun p hp => hp) (by assumption) (by assumption) ?_)))
  trivial

theorem cold_tup {vs : List Value} : Cold (tupObj vs) := by
  refine ⟨.inl (by show Value.type "tuple" ≠ Value.type "list"; decide), fun b hb => ?_⟩
  obtain ⟨_, _, e, _⟩ := hb
  have h2 : Value.type "tuple" = Value.type "dict" := congrArg Obj.cls e
  revert h2
  decide
theorem acts_use2 {w : World} {p : Program} {loose : List Str} {mean : ExcName → Option Value} {mg mb : Str → Option Value} {Γ : Cfg} {name : Str} {v : Value} {d c : Nat} {Pre : List (Addr × Obj) → Prop} {eff : St → St} {res : St → Value}
  {A : Around} {env env2 : Env} {outer : List Env} {A₀ : Around} {base h₀ : Heap} {L : Addr} {m : Str → Option Value} {news : List (Addr × Obj)} {s : Shared} {σ : St} {pos : Pos} {pl : Sem Bool} {Q E : Value → Shared → Prop}
    (C : Acts w p loose mean mg mb Γ name v d c Pre eff res) (hA : A.frames = some (env :: outer)) (hh : A.handled = none) (hf : env.frame = some L) (hk : env.scope.kind = .function) (hdp : A.depth + d < recursionLimit)
    (B : Below A₀ base outer h₀) (F : Fr h₀ L s.heap m) (X : (hd.heap_39 w.params).In h₀) (N : News h₀ L s.heap news) (T : Top p loose mean mg mb h₀) (hp : Pre news) (M : Mut Γ σ news) (hs : σ.hs.length + c ≤ 16000000)
    (ret : ∀ news' h' tk', Fr h₀ L h' m → News h₀ L h' news' → Stays Γ news news' → Mut Γ (eff σ) news' → Q (res σ) { s with heap := h', toks := tk' }) :
    wpAny (model Challenge.rw_la0046_01.row.prog w) A (getMethod v name pl) (fun r s' => wpAny (model Challenge.rw_la0046_01.row.prog w) A (callWith pos r.1 r.2 (backTo pos (starEach [] env2)) []) Q E s') E s := by
  have e : starEach [] env2 = starEach [] env := by simp only [starEach]
  rw [e]
  exact acts_use C hh hA hf hk hdp B F X N T hp M hs ret
theorem ne_boolsOf {prog : Program} {w : World} {A : Around} {E : Value → Shared → Prop} {s : Shared} {a b : Addr} {Q : Value → Shared → Prop} {f : Rec → Bool} {rs : List Rec} (ha : s.heap.IsList a (boolsOf f rs).toArray) (hb : s.heap.IsList b (boolsOf f rs).toArray) (hu : A.units + 64 < cLine) (h : Q (.bool false) s) :
    wpAny (model prog w) A (compareOp .NotEq (.ref a) (.ref b)) Q E s := by
  have e : boolsOf f rs = (rs.map f).map Value.bool := by simp [boolsOf]
  rw [e] at ha hb
  exact ne_bools ha hb hu h
example : True := by
  k_with "CompEnd" => ((k_dflt (refine LCg.CompEnd.intro (by k_asm) (by k_asm) _ (by first | assumption | exact fun p hp => hp) (by assumption) (by assumption) ?_)))
  trivial
example : True := by
  k_with "getMethod ref" => (refine stop_acts (by assumption) ?_)
  trivial
example : True := by
  k_with "compareOp NotIn" => ((k_here; k_dflt (refine' notin_list_ints ?l ?i ?_; (case l => exact News.isList (by k_asm) (by k_mem)); (case i => assumption))))
  trivial
example : True := by
  k_with "compareOp NotEq ref ref" => ((k_here; k_dflt (refine ne_boolsOf (News.isList (by k_asm) (by first | exact .head _ | exact .tail _ (.head _))) (News.isList (by k_asm) (by first | exact .head _ | exact .tail _ (.head _))) (by ke_room) ?_)))
  trivial
example : True := by
  k_with "SrcLP" => ((k_here; k_dflt (refine LCp.SrcLP.ledger (by rfl) (by k_asm) (by k_asm) (by k_mem) (by (simp only [List.size_toArray, sizeLine_eq]; omega)) ?_; intro zzg'; refine stop_of ?_)))
  trivial
example : True := by
  k_with "eval ListComp" => ((k_here; k_dflt (refine LCp.ListComp_P (F₀ := by k_asm) (by with_unfolding_all rfl) (by decide) (by rfl) (by decide) (by rfl) (by rfl) (by decide) ?_)))
  trivial
theorem part3D {w : World} {p : Program} {loose : List Str} {mean : ExcName → Option Value} {mg mb : Str → Option Value} {h₀ : Heap} {L fa : Addr} {cd : Value} {s : Shared} {oz : Obj} {aM aH aD : Addr} {mvs dvs : List Value} {ds : List Int} {nM nD : Nat} {own G : List (Addr × Obj)} {m : Str → Option Value} {maps : List Rec} {σ : St} {Q : Flow → Shared → Prop} {E : Value → Shared → Prop}
    (X : (hd.heap_39 w.params).In h₀) (T : Top p loose mean mg mb h₀) (B : Below callerA h₀ [] h₀)
    (F : Fr h₀ L s.heap m) (hm1 : m (Str.ofString "made") = some (.ref aM)) (N : News h₀ L s.heap G) (hM : (aM, W.listOf mvs.toArray nM) ∈ G) (hz : (L + 1 + 1 + 1 + 1 + 1, oz) ∈ G) (dz : oz.data = .cell (some (.ref aD))) (hD : (aD, W.listOf dvs.toArray nD) ∈ G)
    (hJ : IntsAre dvs ds) (hml : mvs.length ≤ 8) (M : Mut ⟨aH, maps⟩ σ G) (hmade : MadeAre own mvs maps) (hown : ∀ q ∈ own, Cold q.2 → q ∈ G) (oM : Off ⟨aH, maps⟩ aM) (oz1 : Off ⟨aH, maps⟩ (L + 1 + 1 + 1 + 1 + 1)) (oD : Off ⟨aH, maps⟩ aD) (hs : σ.hs.length ≤ 16000000)
    (hop : ∀ r ∈ maps, σ.op r.place = !(ds.any (· == r.place)))
    (ret : ∀ {h' : Heap} {tk' : Nat} {G' : List (Addr × Obj)}, Fr h₀ L h' m → News h₀ L h' G' → Stays ⟨aH, maps⟩ G G' → Mut ⟨aH, maps⟩ σ G' → Q .next { s with heap := h', toks := tk' }) :
    wpAny (model Challenge.rw_la0046_01.row.prog w) (callerA.deeper (lawEnv L fa cd)) (execs p3D (lawEnv L fa cd)) Q E s := by
  conv in p3D => whnf
  conv in stmtAt turn2Body 4 => whnf
  unfold lawEnv
  conv in (occs := *) lawScope => all_goals whnf
  try k_fold
  have hmlen := hmade.length
  k_steps
  refine of_stop (compP_ind (fun i ys nw => Stays ⟨aH, maps⟩ G nw ∧ Mut ⟨aH, maps⟩ σ nw ∧ i ≤ mvs.length ∧ ys = boolsOf (fun r => σ.op r.place) (maps.take i)) ⟨Stays.refl _, M, Nat.zero_le _, rfl⟩ ?_ ?_)
  · rintro i ys nw v R ⟨hS, hM2, hi, rfl⟩ hR hP
    have hP' : mvs[i]? = some v := by simpa using hP
    have hlt : i < mvs.length := (List.getElem?_eq_some_iff.mp hP').1
    obtain ⟨r, t, u, hr, rfl, ht⟩ := made_at hmade hP'
    have hrm : r ∈ maps := List.mem_of_getElem? hr
    have htG := hown _ ht cold_tup
    have htn := hS _ htG (off_cold N M htG cold_tup)
    refine ⟨t, _, _, _, _, rfl, htn, rfl, rfl, ?_⟩
    intro I oI C oC D m₂ h tk E' hC hx1 hx2 F2 N2 off ne
    have C2 := map_opened (w := w) (p := p) (loose := loose) (mean := mean) (mg := mg) (mb := mb) (Γ := ⟨aH, maps⟩) hrm
    have offm := off.mem
    have M2 : Mut ⟨aH, maps⟩ σ ((I, oI) :: (C, oC) :: (D, LCg.lst (boolsOf (fun r => σ.op r.place) (maps.take i))) :: nw) := mut_keep (h₀ := h₀) (h := h) (L := L) (P := fun _ => True) hM2 (fun q hq _ => .tail _ (.tail _ (.tail _ hq))) trivial fun _ _ => ⟨trivial, trivial⟩
    clear F
    k_steps
    refine of_stop (acts_use2 C2 rfl rfl rfl rfl (law_depth (by lia)) B (by k_asm) X (by k_asm) T trivial M2 (by lia) ?_)
    intro news' h' tk' F' N' S' M'
    obtain ⟨⟨vH, nH, hvH, _⟩, hmm, _⟩ := hM2
    have oI3 : ∀ a, a = I ∨ a = C ∨ a = D → Off ⟨aH, maps⟩ a := fun a ha => by
      refine ⟨fun e => ?_, fun r hr e => ?_⟩
      · have := offm _ hvH
        rw [e] at ha
        rcases ha with ha | ha | ha
        · exact this.1 ha
        · exact this.2.1 ha
        · exact this.2.2 ha
      · obtain ⟨_, o, ho, _⟩ := hmm r hr
        have := offm _ ho
        rw [e] at ha
        rcases ha with ha | ha | ha
        · exact this.1 ha
        · exact this.2.1 ha
        · exact this.2.2 ha
    have keepn : ∀ q ∈ nw, q ∈ news' → q ∈ offs news' [I, C, D] := fun q hq h => offs_mem h (notin_ne (all_cons (offm q hq).1 (all_cons (offm q hq).2.1 (all_cons (offm q hq).2.2 all_nil))))
    have hsub : ∀ p ∈ (I, oI) :: (C, oC) :: (D, LCg.lst (boolsOf (fun r => σ.op r.place) (maps.take i))) :: offs news' [I, C, D], p ∈ news' := by
      intro q hq
      simp only [List.mem_cons] at hq
      rcases hq with rfl | rfl | rfl | hq
      · exact S' _ (.head _) (oI3 _ (.inl rfl))
      · exact S' _ (.tail _ (.head _)) (oI3 _ (.inr (.inl rfl)))
      · exact S' _ (.tail _ (.tail _ (.head _))) (oI3 _ (.inr (.inr rfl)))
      · exact (offs_in hq).1
    have off2 : LCg.Off3 I C D (offs news' [I, C, D]) := LCg.Off3.of fun q hq => by
      have := (offs_in hq).2
      simp only [List.mem_cons, List.not_mem_nil, or_false, not_or] at this
      exact this
    have stay2 : Stays ⟨aH, maps⟩ G (offs news' [I, C, D]) := fun q hq ho => keepn q (hS q hq ho) (S' q (.tail _ (.tail _ (.tail _ (hS q hq ho)))) ho)
    have hsrc : LCg.SrcAt h₀ aM mvs.toArray (offs news' [I, C, D]) := .inr ⟨_, stay2 _ hM oM, rfl, _, rfl⟩
    have mut2 : Mut ⟨aH, maps⟩ σ (offs news' [I, C, D]) := mut_keep (h₀ := h₀) (h := h') (L := L) (P := fun a => a ≠ I ∧ a ≠ C ∧ a ≠ D) M' (fun q hq hn => offs_mem hq (notin_ne (all_cons hn.1 (all_cons hn.2.1 (all_cons hn.2.2 all_nil))))) (offm _ hvH) fun r hr => by
      obtain ⟨hx, o, ho, _⟩ := hmm r hr
      exact ⟨offm _ hx, offm _ ho⟩
    have done := hR (boolsOf (fun r => σ.op r.place) (maps.take i) ++ [.bool (σ.op r.place)]) _ ⟨stay2, mut2, hlt, (bools_snoc hr).symm⟩
    clear F2 N2
    dsimp only
    k_steps
    exact done
  · rintro ys nw ⟨hS, hM2, _, rfl⟩
    rw [List.take_of_length_le (by simp only [List.size_toArray]; lia)]
    have hMn := hS _ hM oM
    have hzn := hS _ hz oz1
    have hDn := hS _ hD oD
    clear F
    k_steps
    rename_i D1 h1 tk1 F1 N1 o1
    refine of_stop (compP_ind (fun i ys nw' => nw' = (D1, LCg.lst (boolsOf (fun r => σ.op r.place) maps)) :: nw ∧ i ≤ mvs.length ∧ ys = boolsOf (fun r => σ.op r.place) (maps.take i)) ⟨rfl, Nat.zero_le _, rfl⟩ ?_ ?_)
    · rintro i ys nw' v R ⟨rfl, hi, rfl⟩ hR hP
      have hP' : mvs[i]? = some v := by simpa using hP
      have hlt : i < mvs.length := (List.getElem?_eq_some_iff.mp hP').1
      obtain ⟨r, t, u, hr, rfl, ht⟩ := made_at hmade hP'
      have hrm : r ∈ maps := List.mem_of_getElem? hr
      have htG := hown _ ht cold_tup
      have htn := hS _ htG (off_cold N M htG cold_tup)
      refine ⟨t, _, _, _, _, rfl, .tail _ htn, rfl, rfl, ?_⟩
      intro I oI C oC D m₂ h tk E' hC hx1 hx2 F2 N2 off ne
      have hsrc : LCg.SrcAt h₀ aM mvs.toArray ((D1, LCg.lst (boolsOf (fun r => σ.op r.place) maps)) :: nw) := .inr ⟨_, .tail _ hMn, rfl, _, rfl⟩
      have done := hR _ _ ⟨rfl, hlt, (bools_snoc hr).symm⟩
      rw [hop r hrm] at done
      clear F1 N1
      k_steps
      exact done
    · rintro ys nw' ⟨rfl, _, rfl⟩
      rw [List.take_of_length_le (by simp only [List.size_toArray]; lia)]
      clear F1 N1
      k_steps
      rename Fr _ _ _ _ => Fz
      rename News _ _ _ _ => Nz
      exact ret Fz Nz (fun q hq ho => .tail _ (.tail _ (hS q hq ho))) (mut_keep (h₀ := h₀) (h := s.heap) (L := L) (P := fun _ => True) hM2 (fun q hq _ => .tail _ (.tail _ hq)) trivial fun _ _ => ⟨trivial, trivial⟩)
end

section
open PySem PySem.W PySem.Calls PyProof.Rows Builtin
set_option Elab.async false
set_option maxRecDepth 100000
set_option maxHeartbeats 8000000
noncomputable abbrev spec (L aD aS : Addr) (zfs : List (Addr × Addr)) : List Addr := aD :: aS :: (L + 1 + 1 + 1 + 1 + 1) :: (L + 1) :: zfs.map Prod.snd
structure Stat (Γ : Cfg) (L aD aS : Addr) (zfs : List (Addr × Addr)) (fix : List (Addr × Obj)) : Prop where
  off : ∀ a ∈ spec L aD aS zfs, Off Γ a ∧ ∀ r ∈ Γ.maps, r.x ≠ a
  fixo : ∀ q ∈ fix, Off Γ q.1 ∧ ∀ a ∈ spec L aD aS zfs, q.1 ≠ a
  nd : (spec L aD aS zfs).Nodup
structure Wd (Γ : Cfg) (L aD aS : Addr) (zfs : List (Addr × Addr)) (ds : List Demo) (fix G : List (Addr × Obj)) (σ : St) (dvs svs : List Value) (nD nS : Nat) (cls : Nat → Bool) (ok oz : Obj) : Prop where
  fx : ∀ q ∈ fix, q ∈ G
  mu : Mut Γ σ G
  dn : (aD, W.listOf dvs.toArray nD) ∈ G
  sh : (aS, W.listOf svs.toArray nS) ∈ G
  zz : (L + 1 + 1 + 1 + 1 + 1, oz) ∈ G
  kk : (L + 1, ok) ∈ G
  ad : ∀ (j : Nat) (d : Demo) (z f : Addr), ds[j]? = some d → zfs[j]? = some (z, f) → ∃ p, (f, p) ∈ G ∧ AdD p (.ref d.x) (cls j)
section
variable {Γ : Cfg} {L aD aS : Addr} {zfs : List (Addr × Addr)} {ds : List Demo} {fix G G' : List (Addr × Obj)} {σ σ' : St} {dvs svs : List Value} {nD nS : Nat} {cls : Nat → Bool} {ok oz : Obj}
theorem zf_mem {j : Nat} {z f : Addr} (h : zfs[j]? = some (z, f)) : f ∈ spec L aD aS zfs :=
  List.mem_cons_of_mem _ (List.mem_cons_of_mem _ (List.mem_cons_of_mem _ (List.mem_cons_of_mem _ (List.mem_map.mpr ⟨_, List.mem_of_getElem? h, rfl⟩))))
theorem Stat.apart (S : Stat Γ L aD aS zfs fix) : aD ≠ aS ∧ aD ≠ L + 1 + 1 + 1 + 1 + 1 ∧ aD ≠ L + 1 ∧ aS ≠ L + 1 + 1 + 1 + 1 + 1 ∧ aS ≠ L + 1 ∧ L + 1 + 1 + 1 + 1 + 1 ≠ L + 1 := by
  have h := S.nd
  simp only [spec, List.nodup_cons, List.mem_cons, not_or] at h
  exact ⟨h.1.1, h.1.2.1, h.1.2.2.1, h.2.1.1, h.2.1.2.1, h.2.2.1.1⟩
theorem Stat.apartf (S : Stat Γ L aD aS zfs fix) {j : Nat} {z f : Addr} (hf : zfs[j]? = some (z, f)) : f ≠ aD ∧ f ≠ aS ∧ f ≠ L + 1 + 1 + 1 + 1 + 1 ∧ f ≠ L + 1 := by
  have hm : f ∈ zfs.map Prod.snd := List.mem_map.mpr ⟨_, List.mem_of_getElem? hf, rfl⟩
  have h := S.nd
  simp only [spec, List.nodup_cons, List.mem_cons, not_or] at h
  refine ⟨fun e => ?_, fun e => ?_, fun e => ?_, fun e => ?_⟩
  · exact h.1.2.2.2 (e ▸ hm)
  · exact h.2.1.2.2 (e ▸ hm)
  · exact h.2.2.1.2 (e ▸ hm)
  · exact h.2.2.2.1 (e ▸ hm)
theorem Stat.apartff (S : Stat Γ L aD aS zfs fix) {j j' : Nat} {z f z' f' : Addr} (hf : zfs[j]? = some (z, f)) (hf' : zfs[j']? = some (z', f')) (hne : j ≠ j') : f ≠ f' := by
  have h := S.nd
  simp only [spec, List.nodup_cons] at h
  have hnd := h.2.2.2.2
  intro e
  have e1 : (zfs.map Prod.snd)[j]? = some f := by simp [hf]
  have e2 : (zfs.map Prod.snd)[j']? = some f := by simp [hf', e]
  have hl : j < (zfs.map Prod.snd).length := (List.getElem?_eq_some_iff.mp e1).1
  exact hne ((List.getElem?_inj hl hnd).mp (e1.trans e2.symm))
theorem Stat.mut (S : Stat Γ L aD aS zfs fix) {G G' : List (Addr × Obj)} {l : List Addr} (hl : ∀ a ∈ l, a ∈ spec L aD aS zfs) (M : Mut Γ σ G) (k : ∀ q ∈ G, q.1 ∉ l → q ∈ G') : Mut Γ σ G' :=
  mut_keep (h₀ := default) (h := default) (L := L) (P := fun a => a ∉ l) M k (fun h => (S.off _ (hl _ h)).1.1 rfl) fun r hr => ⟨fun h => (S.off _ (hl _ h)).2 r hr rfl, fun h => (S.off _ (hl _ h)).1.2 r hr rfl⟩
theorem Wd.stays (S : Stat Γ L aD aS zfs fix) (V : Wd Γ L aD aS zfs ds fix G σ dvs svs nD nS cls ok oz) (k : Stays Γ G G') (M : Mut Γ σ' G') : Wd Γ L aD aS zfs ds fix G' σ' dvs svs nD nS cls ok oz where
  fx q hq := k q (V.fx q hq) (S.fixo q hq).1
  mu := M
  dn := k _ V.dn (S.off aD (by simp)).1
  sh := k _ V.sh (S.off aS (by simp)).1
  zz := k _ V.zz (S.off _ (by simp)).1
  kk := k _ V.kk (S.off _ (by simp)).1
  ad j d z f h1 h2 := by
    obtain ⟨p, hp, h⟩ := V.ad j d z f h1 h2
    exact ⟨p, k _ hp (S.off _ (zf_mem h2)).1, h⟩
theorem Wd.done {dvs' : List Value} {nD' : Nat} {oz' : Obj} (S : Stat Γ L aD aS zfs fix) (V : Wd Γ L aD aS zfs ds fix G σ dvs svs nD nS cls ok oz) (k : ∀ q ∈ G, q.1 ≠ aD → q.1 ≠ L + 1 + 1 + 1 + 1 + 1 → q ∈ G') (hd : (aD, W.listOf dvs'.toArray nD') ∈ G') (hz : (L + 1 + 1 + 1 + 1 + 1, oz') ∈ G') :
    Wd Γ L aD aS zfs ds fix G' σ dvs' svs nD' nS cls ok oz' where
  fx q hq := k q (V.fx q hq) ((S.fixo q hq).2 _ (by simp)) ((S.fixo q hq).2 _ (by simp))
  mu := S.mut (l := [aD, L + 1 + 1 + 1 + 1 + 1]) (by simp) V.mu fun q hq hn => k q hq (fun e => hn (by simp [e])) (fun e => hn (by simp [e]))
  dn := hd
  sh := k _ V.sh S.apart.1.symm S.apart.2.2.2.1
  zz := hz
  kk := k _ V.kk S.apart.2.2.1.symm S.apart.2.2.2.2.2.symm
  ad j d z f h1 h2 := by
    obtain ⟨p, hp, h⟩ := V.ad j d z f h1 h2
    exact ⟨p, k _ hp (S.apartf h2).1 (S.apartf h2).2.2.1, h⟩
theorem Wd.shutl {svs' : List Value} {nS' : Nat} (S : Stat Γ L aD aS zfs fix) (V : Wd Γ L aD aS zfs ds fix G σ dvs svs nD nS cls ok oz) (k : ∀ q ∈ G, q.1 ≠ aS → q ∈ G') (hd : (aS, W.listOf svs'.toArray nS') ∈ G') :
    Wd Γ L aD aS zfs ds fix G' σ dvs svs' nD nS' cls ok oz where
  fx q hq := k q (V.fx q hq) ((S.fixo q hq).2 _ (by simp))
  mu := S.mut (l := [aS]) (by simp) V.mu fun q hq hn => k q hq (fun e => hn (by simp [e]))
  dn := k _ V.dn S.apart.1
  sh := hd
  zz := k _ V.zz S.apart.2.2.2.1.symm
  kk := k _ V.kk S.apart.2.2.2.2.1.symm
  ad j d z f h1 h2 := by
    obtain ⟨p, hp, h⟩ := V.ad j d z f h1 h2
    exact ⟨p, k _ hp (S.apartf h2).2.1, h⟩
theorem Wd.cellk {ok' : Obj} (S : Stat Γ L aD aS zfs fix) (V : Wd Γ L aD aS zfs ds fix G σ dvs svs nD nS cls ok oz) (k : ∀ q ∈ G, q.1 ≠ L + 1 → q ∈ G') (hd : (L + 1, ok') ∈ G') :
    Wd Γ L aD aS zfs ds fix G' σ dvs svs nD nS cls ok' oz where
  fx q hq := k q (V.fx q hq) ((S.fixo q hq).2 _ (by simp))
  mu := S.mut (l := [L + 1]) (by simp) V.mu fun q hq hn => k q hq (fun e => hn (by simp [e]))
  dn := k _ V.dn S.apart.2.2.1
  sh := k _ V.sh S.apart.2.2.2.2.1
  zz := k _ V.zz S.apart.2.2.2.2.2
  kk := hd
  ad j d z f h1 h2 := by
    obtain ⟨p, hp, h⟩ := V.ad j d z f h1 h2
    exact ⟨p, k _ hp (S.apartf h2).2.2.2, h⟩
theorem Wd.adc {j : Nat} {d : Demo} {z f : Addr} {p' : Obj} (S : Stat Γ L aD aS zfs fix) (V : Wd Γ L aD aS zfs ds fix G σ dvs svs nD nS cls ok oz) (hj : ds[j]? = some d) (hf : zfs[j]? = some (z, f)) (k : ∀ q ∈ G, q.1 ≠ f → Off Γ q.1 → q ∈ G') (hp : (f, p') ∈ G') (hA : AdD p' (.ref d.x) true) (M : Mut Γ σ' G') :
    Wd Γ L aD aS zfs ds fix G' σ' dvs svs nD nS (fun i => cls i || decide (i = j)) ok oz where
  fx q hq := k q (V.fx q hq) ((S.fixo q hq).2 _ (zf_mem hf)) (S.fixo q hq).1
  mu := M
  dn := k _ V.dn (S.apartf hf).1.symm (S.off aD (by simp)).1
  sh := k _ V.sh (S.apartf hf).2.1.symm (S.off aS (by simp)).1
  zz := k _ V.zz (S.apartf hf).2.2.1.symm (S.off _ (by simp)).1
  kk := k _ V.kk (S.apartf hf).2.2.2.symm (S.off _ (by simp)).1
  ad i d' z' f' h1 h2 := by
    by_cases e : i = j
    · subst e
      rw [hj] at h1
      rw [hf] at h2
      cases h1
      cases h2
      exact ⟨p', hp, by simpa using hA⟩
    · obtain ⟨p, hp, h⟩ := V.ad i d' z' f' h1 h2
      exact ⟨p, k _ hp (S.apartff h2 hf e) (S.off _ (zf_mem h2)).1, by simpa [e] using h⟩
end
end

section
open PySem PySem.W PySem.Calls PyProof.Rows Builtin
set_option Elab.async false
set_option maxRecDepth 100000
set_option maxHeartbeats 8000000
structure Core (Γ : Cfg) (L aD aS : Addr) (zfs : List (Addr × Addr)) (ds : List Demo) (fix G : List (Addr × Obj)) (σ : St) (done shut : List Int) (dvs svs : List Value) (nD nS : Nat) (cls : Nat → Bool) (ok oz : Obj) (bd bs : Nat) : Prop where
  wd : Wd Γ L aD aS zfs ds fix G σ dvs svs nD nS cls ok oz
  dz : oz.data = .cell (some (.ref aD))
  hs : σ.hs = lowOf done
  op : ∀ r ∈ Γ.maps, σ.op r.place = !(done.any (· == r.place))
  iD : IntsAre dvs done
  lD : done.length ≤ bd
  iS : IntsAre svs shut
  lS : shut.length ≤ bs
  cl : ∀ j : Nat, cls j = shut.any (· == (j : Int))
theorem contains_any (l : List Int) (q : Int) : l.contains q = l.any (· == q) := by
  rw [Bool.eq_iff_iff]
  simp [List.any_eq_true]
theorem close_op {σ : St} {done l : List Int} {q : Int} (h : σ.op q = !(done.any (· == q))) : (σ.close l).op q = !((done ++ l).any (· == q)) := by
  show (σ.op q && !l.contains q) = _
  rw [h, contains_any, List.any_append, Bool.not_or]
theorem close_hs {σ : St} {done l : List Int} (h : σ.hs = lowOf done) : (σ.close l).hs = lowOf (done ++ l) := by
  show σ.hs ++ lowOf l = _
  rw [h, lowOf_append]
theorem low_all {l : List Int} (h : ∀ x ∈ l, x < 0) : lowOf l = l := by
  unfold lowOf
  rw [List.filter_eq_self]
  intro x hx
  have := h x hx
  exact decide_eq_true (by lia)
theorem clean_hs {σ : St} {done l : List Int} (h : σ.hs = lowOf done) (hn : ∀ x ∈ l, x < 0) : (σ.clean l).hs = lowOf (done ++ l) := by
  show σ.hs ++ l = _
  rw [h, lowOf_append, low_all hn]
theorem clean_op {σ : St} {done l : List Int} {q : Int} (h : σ.op q = !(done.any (· == q))) (hn : ∀ x ∈ l, x < 0) (hq : 100 ≤ q) : (σ.clean l).op q = !((done ++ l).any (· == q)) := by
  have e : l.any (· == q) = false := by
    rw [List.any_eq_false]
    intro x hx
    have := hn x hx
    simp only [beq_iff_eq]
    lia
  show σ.op q = _
  rw [h, List.any_append, e, Bool.or_false]
theorem cleaned_neg {rvs : List Value} {news : List (Addr × Obj)} {p : Int} {t : Th} (h : RB rvs news p t) : ∀ x ∈ t.cleaned, x < 0 := by
  induction h with
  | leaf h1 h2 => intro x hx; rw [List.mem_singleton.mp hx]; lia
  | map h1 => intro x hx; cases hx
  | demo _ _ _ _ _ ib ic => intro x hx; exact (List.mem_append.mp hx).elim (ib x) (ic x)
theorem cold_of_tup {o : Obj} (h : o.cls = .type "tuple") : Cold o := by
  refine ⟨.inl (by rw [h]; decide), fun b hb => ?_⟩
  obtain ⟨_, _, rfl, _⟩ := hb
  have h2 : Value.type "dict" = Value.type "tuple" := h
  revert h2
  decide
section
variable {Γ : Cfg} {L aD aS : Addr} {zfs : List (Addr × Addr)} {ds : List Demo} {fix G G' : List (Addr × Obj)} {σ σ' : St} {done shut : List Int} {dvs svs : List Value} {nD nS : Nat} {cls : Nat → Bool} {ok oz : Obj} {bd bs : Nat}
theorem Core.close {l : List Int} {vs : List Value} {nD' : Nat} {oz' : Obj} {c : Nat} (K : Core Γ L aD aS zfs ds fix G σ done shut dvs svs nD nS cls ok oz bd bs) (V : Wd Γ L aD aS zfs ds fix G' (σ.close l) (dvs ++ vs) svs nD' nS cls ok oz') (dz : oz'.data = .cell (some (.ref aD))) (hi : IntsAre vs l) (hl : l.length ≤ c) :
    Core Γ L aD aS zfs ds fix G' (σ.close l) (done ++ l) shut (dvs ++ vs) svs nD' nS cls ok oz' (bd + c) bs where
  wd := V
  dz := dz
  hs := close_hs K.hs
  op r hr := close_op (K.op r hr)
  iD := ints_app K.iD hi
  lD := by rw [List.length_append]; have := K.lD; lia
  iS := K.iS
  lS := K.lS
  cl := K.cl
theorem Core.clean {l : List Int} {vs : List Value} {nD' : Nat} {oz' : Obj} {c : Nat} (K : Core Γ L aD aS zfs ds fix G σ done shut dvs svs nD nS cls ok oz bd bs) (V : Wd Γ L aD aS zfs ds fix G' (σ.clean l) (dvs ++ vs) svs nD' nS cls ok oz') (dz : oz'.data = .cell (some (.ref aD))) (hi : IntsAre vs l) (hl : l.length ≤ c) (hn : ∀ x ∈ l, x < 0) :
    Core Γ L aD aS zfs ds fix G' (σ.clean l) (done ++ l) shut (dvs ++ vs) svs nD' nS cls ok oz' (bd + c) bs where
  wd := V
  dz := dz
  hs := clean_hs K.hs hn
  op r hr := clean_op (K.op r hr) hn (K.wd.mu.2.2.2 r hr)
  iD := ints_app K.iD hi
  lD := by rw [List.length_append]; have := K.lD; lia
  iS := K.iS
  lS := K.lS
  cl := K.cl
theorem Core.up {bd' bs' : Nat} (K : Core Γ L aD aS zfs ds fix G σ done shut dvs svs nD nS cls ok oz bd bs) (h1 : bd ≤ bd') (h2 : bs ≤ bs') : Core Γ L aD aS zfs ds fix G σ done shut dvs svs nD nS cls ok oz bd' bs' :=
  { K with lD := Nat.le_trans K.lD h1, lS := Nat.le_trans K.lS h2 }
theorem Core.move (K : Core Γ L aD aS zfs ds fix G σ done shut dvs svs nD nS cls ok oz bd bs) {ok' : Obj} (V : Wd Γ L aD aS zfs ds fix G' σ dvs svs nD nS cls ok' oz) : Core Γ L aD aS zfs ds fix G' σ done shut dvs svs nD nS cls ok' oz bd bs :=
  { K with wd := V }
end
noncomputable def J2 (aT aR aM aB aA aH : Addr) (maps : List Rec) (L aD aS : Addr) (zfs : List (Addr × Addr)) (ds : List Demo) (fix : List (Addr × Obj)) (i : Nat) (m : Str → Option Value) (G : List (Addr × Obj)) : Prop :=
  ∃ (σ : St) (done shut : List Int) (dvs svs : List Value) (nD nS : Nat) (cls : Nat → Bool) (ok oz : Obj) (zk : Option Value),
    (m (Str.ofString "things") = some (.ref aT) ∧ m (Str.ofString "rows") = some (.ref aR) ∧ m (Str.ofString "made") = some (.ref aM) ∧ m (Str.ofString "bases") = some (.ref aB) ∧ m (Str.ofString "adapters") = some (.ref aA) ∧ m (Str.ofString "shut") = some (.ref aS) ∧ m (Str.ofString "heard") = some (.ref aH)) ∧
    ok.data = .cell zk ∧ Core ⟨aH, maps⟩ L aD aS zfs ds fix G σ done shut dvs svs nD nS cls ok oz (16 * i) i
section
variable {w : World} {p : Program} {loose : List Str} {mean : ExcName → Option Value} {mg mb : Str → Option Value} {h₀ : Heap} {L fa : Addr} {cd : Value}
  {aT aR aM aB aA aH aD aS l1 l2 : Addr} {maps : List Rec} {zfs : List (Addr × Addr)} {ds : List Demo} {fix own : List (Addr × Obj)} {rvs mvs : List Value} {nT nR nM nB nA : Nat}
theorem branches {s : Shared} {G : List (Addr × Obj)} {m : Str → Option Value} {σ : St} {done shut : List Int} {dvs svs : List Value} {nD nS i kn : Nat} {cls : Nat → Bool} {ok oz : Obj} {u ud : Tok} {kd : Int} {Q : Flow → Shared → Prop} {E : Value → Shared → Prop}
    (X : (hd.heap_39 w.params).In h₀) (T : Top p loose mean mg mb h₀) (B : Below callerA h₀ [] h₀)
    (S : Stat ⟨aH, maps⟩ L aD aS zfs fix) (hfix : ∀ q ∈ own, Cold q.2 → q ∈ fix)
    (hT : (aT, W.listOf (Value.none :: Value.ref l1 :: Value.ref l2 :: ds.map fun d => Value.ref d.x).toArray nT) ∈ fix) (hR : (aR, W.listOf rvs.toArray nR) ∈ fix) (hB : (aB, W.listOf (ds.map fun d => Value.ref d.ab).toArray nB) ∈ fix) (hA : (aA, W.listOf (zfs.map fun z => Value.ref z.1).toArray nA) ∈ fix)
    (hds : ∀ k d, ds[k]? = some d → DemoOK w p loose mean mg mb aH maps rvs own k d) (hdl : ds.length = 4) (hzl : zfs.length = 4) (hz : ∀ (j : Nat) (z f : Addr), zfs[j]? = some (z, f) → (z, instObj 505 f) ∈ fix) (oD : @LT.lt Nat _ (L + 1 + 1 + 1 + 1 + 1) aD)
    (F : Fr h₀ L s.heap m) (N : News h₀ L s.heap G) (mT : m (Str.ofString "things") = some (.ref aT)) (mR : m (Str.ofString "rows") = some (.ref aR)) (mB : m (Str.ofString "bases") = some (.ref aB)) (mA : m (Str.ofString "adapters") = some (.ref aA)) (mS : m (Str.ofString "shut") = some (.ref aS))
    (mK : m (Str.ofString "kind") = some (.int kd ud)) (hk0 : 0 ≤ kd) (hk4 : kd < 4) (dk : ok.data = .cell (some (.int (kn : Int) u))) (hkn : kn < 4) (hi : i < 13)
    (K : Core ⟨aH, maps⟩ L aD aS zfs ds fix G σ done shut dvs svs nD nS cls ok oz (16 * i) i)
    (cont : ∀ {G' : List (Addr × Obj)} {σ' : St} {done' shut' : List Int} {dvs' svs' : List Value} {nD' nS' : Nat} {cls' : Nat → Bool} {oz' : Obj} {h' : Heap} {tk' : Nat}, Fr h₀ L h' m → News h₀ L h' G' → Core ⟨aH, maps⟩ L aD aS zfs ds fix G' σ' done' shut' dvs' svs' nD' nS' cls' ok oz' (16 * (i + 1)) (i + 1) → Q .next { s with heap := h', toks := tk' }) :
    wpAny (model Challenge.rw_la0046_01.row.prog w) (callerA.deeper (lawEnv L fa cd)) (execs p3B (lawEnv L fa cd)) Q E s := by
  obtain ⟨d, hd0⟩ : ∃ d, ds[kn]? = some d := ⟨ds[kn], by simp [hdl, hkn]⟩
  obtain ⟨⟨z, f⟩, hzf⟩ : ∃ zf, zfs[kn]? = some zf := ⟨zfs[kn], by simp [hzl, hkn]⟩
  obtain ⟨hx, ⟨o, ho, hD⟩, hb1, hb2, hr1, hr2, ⟨tr, ub, uc, htr, hm⟩, hd1, hd2, hw1, hw2⟩ := hds kn d hd0
  have hp2 : 2 ^ kn ≤ 8 := by
    have : 2 ^ kn ≤ 2 ^ 3 := Nat.pow_le_pow_right (by lia) (by lia)
    simpa using this
  have hbd : Bears w p loose mean mg mb aH maps own (.ref d.x) (.demo d.tb d.tc d.cb d.cc) := .demo hx ho hD hb1 hb2
  have hrb : RB rvs own (3 + (kn : Int)) (.demo d.tb d.tc d.cb d.cc) := .demo (by lia) htr hm hr1 hr2
  have hwt : (Th.demo d.tb d.tc d.cb d.cc).weight ≤ 16 := by show d.tb.weight + d.tc.weight ≤ 16; lia
  have hdt : (Th.demo d.tb d.tc d.cb d.cc).depth ≤ 4 := by show max d.tb.depth d.tc.depth + 1 ≤ 4; lia
  have hcl := (Th.demo d.tb d.tc d.cb d.cc).closed_len
  have hcn := (Th.demo d.tb d.tc d.cb d.cc).cleaned_len
  have hcl2 := d.tc.closed_len
  have hneg := cleaned_neg hrb
  have hpT : Pick (Value.none :: Value.ref l1 :: Value.ref l2 :: ds.map fun d => Value.ref d.x) (3 + (kn : Int)) (.ref d.x) := ⟨kn + 3, by simp [hd0], by lia, by lia⟩
  have hpB : Pick (ds.map fun d => Value.ref d.ab) (kn : Int) (.ref d.ab) := ⟨kn, by simp [hd0], rfl, by lia⟩
  have hpA : Pick (zfs.map fun z => Value.ref z.1) (kn : Int) (.ref z) := ⟨kn, by simp [hzf], rfl, by lia⟩
  have hpR : Pick rvs (kn : Int) (.ref tr) := ⟨kn, htr, rfl, by lia⟩
  have V := K.wd
  have hsl : σ.hs.length ≤ 16 * i := by
    rw [K.hs]
    exact Nat.le_trans (List.length_filter_le ..) K.lD
  have keeps : ∀ {G2 : List (Addr × Obj)} {σ2 : St} {dv sv : List Value} {n1 n2 : Nat} {c2 : Nat → Bool} {oz2 : Obj}, Wd ⟨aH, maps⟩ L aD aS zfs ds fix G2 σ2 dv sv n1 n2 c2 ok oz2 → Keeps own G2 := fun V2 q hq hc => V2.fx q (hfix q hq hc)
  have tups : ∀ {G2 : List (Addr × Obj)} {σ2 : St} {dv sv : List Value} {n1 n2 : Nat} {c2 : Nat → Bool} {oz2 : Obj}, Wd ⟨aH, maps⟩ L aD aS zfs ds fix G2 σ2 dv sv n1 n2 c2 ok oz2 → ∀ q ∈ own, q.2.cls = .type "tuple" → q ∈ G2 := fun V2 q hq hc => V2.fx q (hfix q hq (cold_of_tup hc))
  have hdv : dvs.length ≤ 100000 := by
    have e1 := IntsAre.length K.iD
    have e2 := K.lD
    lia
  refine part3B X T B F N mK hk0 hk4 fun tk0 => ?_
  by_cases k0 : kd = 0
  · rw [if_pos k0, br0_eq]
    refine execs_then (step0 X T B F mT N (V.fx _ hT) V.kk dk hpT (bears_close hbd) (keeps V) V.mu (by lia) (by lia) ?_)
    intro G1 h1 tk1 F1 N1 S1 M1
    have V1 := V.stays S S1 M1
    show wpAny _ _ (execs ad0 _) _ _ _
    refine done0 X T B F1 mR N1 (V1.fx _ hR) V1.kk dk V1.dn V1.zz K.dz (law_closed hrb) (tups V1) oD hdv (by lia) (by lia) (by lia) ?_
    intro G2 vs oz2 nD2 h2 tk2 F2 N2 a1 a2 a3 a4 a5
    exact cont F2 N2 ((K.close (V1.done S a5 a1 a2) a3 a4 (c := 16) (by lia)).up (by lia) (by lia))
  rw [if_neg k0]
  by_cases k1 : kd = 1
  · rw [if_pos k1, br1_eq]
    refine execs_then (step1 X T B F mT N (V.fx _ hT) V.kk dk hpT (bears_cleanup hbd) (keeps V) V.mu (by lia) (by lia) ?_)
    intro G1 h1 tk1 F1 N1 S1 M1
    have V1 := V.stays S S1 M1
    show wpAny _ _ (execs ad1 _) _ _ _
    refine done1 X T B F1 mR N1 (V1.fx _ hR) V1.kk dk V1.dn V1.zz K.dz (law_cleaned hrb) (tups V1) oD hdv (by lia) (by lia) (by lia) ?_
    intro G2 vs oz2 nD2 h2 tk2 F2 N2 a1 a2 a3 a4 a5
    exact cont F2 N2 ((K.clean (V1.done S a5 a1 a2) a3 a4 (c := 16) (by lia) hneg).up (by lia) (by lia))
  rw [if_neg k1]
  by_cases k2 : kd = 2
  · rw [if_pos k2, br2_eq]
    refine execs_then (step2 X T B F mT N (V.fx _ hT) V.kk dk hpT (demo_pop hx ho hD hb1 hb2) mB (V.fx _ hB) (S.fixo _ hB).1 (S.off _ (by simp)).1 hpB (keeps V) V.mu (by lia) (by lia) ?_)
    intro G1 h1 tk1 F1 N1 S1 M1
    have V1 := V.stays S S1 M1
    show wpAny _ _ (execs ad2 _) _ _ _
    refine done2 X T B F1 mR N1 (V1.fx _ hR) V1.kk dk V1.dn V1.zz K.dz (law_closed hr2) (tups V1) oD hpR (tups V1 _ hm rfl) hdv (by lia) (by lia) (by lia) ?_
    intro G2 vs oz2 nD2 h2 tk2 F2 N2 a1 a2 a3 a4 a5
    exact cont F2 N2 ((K.close (V1.done S a5 a1 a2) a3 a4 (c := 16) (by lia)).up (by lia) (by lia))
  rw [if_neg k2, br3_eq]
  obtain ⟨po, hpo, hA0⟩ := V.ad kn d z f hd0 hzf
  refine execs_then (step3 X T B F mA N (V.fx _ hA) V.kk dk hpA (bears_close hbd) (V.fx _ (hz _ _ _ hzf)) hpo hA0 (fun G2 k q hq hc => k q (V.fx q (hfix q hq hc)) ((S.fixo _ (hfix q hq hc)).2 _ (zf_mem hzf))) V.mu (S.off _ (zf_mem hzf)).1 (by lia) (by lia) ?_)
  intro G1 h1 tk1 p1 F1 N1 S1 hp1 hA1 M1
  have V1 := V.adc S hd0 hzf S1 hp1 hA1 M1
  show wpAny _ _ (execs sh3 _) _ _ _
  by_cases hc : (shut.any (· == (kn : Int))) = true
  · refine test3a X T B F1 mS N1 V1.sh V1.kk dk K.iS hc fun tk2 => ?_
    have e1 : cls kn = true := (K.cl kn).trans hc
    rw [e1, if_pos rfl] at V1
    have e2 : (fun i => cls i || decide (i = kn)) = cls := by
      funext i
      by_cases e : i = kn
      · subst e; simp [e1]
      · simp [e]
    rw [e2] at V1
    exact cont F1 N1 ((K.move V1).up (by lia) (by lia))
  · have hcf : (shut.any (· == (kn : Int))) = false := Bool.eq_false_iff.mpr hc
    have e1 : cls kn = false := (K.cl kn).trans hcf
    rw [e1, if_neg Bool.false_ne_true] at V1
    refine test3b X T B F1 mS N1 V1.sh V1.kk dk K.iS hcf fun tk2 => ?_
    rw [ifBody_eq]
    have hsv : svs.length ≤ 100 := by
      have := IntsAre.length K.iS
      have := K.lS
      lia
    refine execs_then (app3 X T B F1 mS N1 V1.sh V1.kk dk S.apart.2.2.2.2.1.symm hsv ?_)
    intro h2 tk2 n2 F2 N2
    have V2 := V1.shutl S (G' := (aS, W.listOf (svs ++ [Value.int (kn : Int) u]).toArray n2) :: offs G1 [aS]) (fun q hq hn => .tail _ (offs_mem hq (notin_ne (all_cons hn all_nil)))) (.head _)
    show wpAny _ _ (execs ad3 _) _ _ _
    refine done3 X T B F2 mR N2 (V2.fx _ hR) V2.kk dk V2.dn V2.zz K.dz (law_closed hrb) (tups V2) oD hdv (by lia) (by lia) (by lia) ?_
    intro G3 vs oz3 nD3 h3 tk3 F3 N3 a1 a2 a3 a4 a5
    have V3 := V2.done S a5 a1 a2
    refine cont F3 N3 (shut' := shut ++ [(kn : Int)]) (done' := done ++ (Th.demo d.tb d.tc d.cb d.cc).closed) ⟨V3, a3, close_hs K.hs, fun r hr => close_op (K.op r hr), ints_app K.iD a4, ?_, ints_app K.iS (.cons _ _ .nil), ?_, ?_⟩
    · rw [List.length_append]; have := K.lD; lia
    · rw [List.length_append]; have := K.lS; simp only [List.length_singleton]; lia
    · intro j
      rw [List.any_append, ← K.cl j]
      congr 1
      simp only [List.any_cons, List.any_nil, Bool.or_false]
      rw [Bool.eq_iff_iff]
      simp only [decide_eq_true_eq, beq_iff_eq]
      lia
end
end

section
open PySem PySem.W PySem.Calls PyProof.Rows Builtin
set_option Elab.async false
set_option maxRecDepth 100000
set_option maxHeartbeats 8000000
section
variable {w : World} {p : Program} {loose : List Str} {mean : ExcName → Option Value} {mg mb : Str → Option Value} {h₀ : Heap} {L fa : Addr} {cd : Value}
  {aT aR aM aB aA aH aD aS l1 l2 : Addr} {maps : List Rec} {zfs : List (Addr × Addr)} {ds : List Demo} {fix own : List (Addr × Obj)} {rvs mvs : List Value} {nT nR nM nB nA : Nat}
theorem core_ne {Γ : Cfg} {G : List (Addr × Obj)} {σ : St} {dvs svs : List Value} {nD nS : Nat} {cls : Nat → Bool} {ok oz : Obj} {I : Addr} {h : Heap} (V : Wd Γ L aD aS zfs ds fix G σ dvs svs nD nS cls ok oz) (hdl : ds.length = 4) (hzl : zfs.length = 4) (hnI : ∀ q ∈ G, q.1 ≠ I) : (∀ a ∈ spec L aD aS zfs, I ≠ a) ∧ Off Γ I := by
  refine ⟨fun a ha => ?_, ?_, fun r hr => ?_⟩
  · simp only [spec, List.mem_cons] at ha
    rcases ha with rfl | rfl | rfl | rfl | ha
    · exact (hnI _ V.dn).symm
    · exact (hnI _ V.sh).symm
    · exact (hnI _ V.zz).symm
    · exact (hnI _ V.kk).symm
    · obtain ⟨⟨z, f⟩, hm, rfl⟩ := List.mem_map.mp ha
      obtain ⟨j, hj, he⟩ := List.mem_iff_getElem.mp hm
      have hj' : zfs[j]? = some (z, f) := by rw [List.getElem?_eq_getElem hj, he]
      obtain ⟨p, hp, _⟩ := V.ad j (ds[j]'(by lia)) z f (List.getElem?_eq_getElem _) hj'
      exact (hnI _ hp).symm
  · obtain ⟨vs, n, hv, _⟩ := V.mu.1
    exact (hnI _ hv).symm
  · obtain ⟨_, o, ho, _⟩ := V.mu.2.1 r hr
    exact (hnI _ ho).symm
theorem turn2 {s : Shared} {G : List (Addr × Obj)} {m : Str → Option Value} {i : Nat} {n : Int} {t : Tok} {I : Addr} {oI : Obj} {px : Pos} {Q : Flow → Shared → Prop} {E : Value → Shared → Prop}
    (X : (hd.heap_39 w.params).In h₀) (T : Top p loose mean mg mb h₀) (B : Below callerA h₀ [] h₀)
    (S : Stat ⟨aH, maps⟩ L aD aS zfs fix) (hfix : ∀ q ∈ own, Cold q.2 → q ∈ fix)
    (hT : (aT, W.listOf (Value.none :: Value.ref l1 :: Value.ref l2 :: ds.map fun d => Value.ref d.x).toArray nT) ∈ fix) (hR : (aR, W.listOf rvs.toArray nR) ∈ fix) (hB : (aB, W.listOf (ds.map fun d => Value.ref d.ab).toArray nB) ∈ fix) (hA : (aA, W.listOf (zfs.map fun z => Value.ref z.1).toArray nA) ∈ fix) (hM : (aM, W.listOf mvs.toArray nM) ∈ fix)
    (hds : ∀ k d, ds[k]? = some d → DemoOK w p loose mean mg mb aH maps rvs own k d) (hdl : ds.length = 4) (hzl : zfs.length = 4) (hz : ∀ (j : Nat) (z f : Addr), zfs[j]? = some (z, f) → (z, instObj 505 f) ∈ fix) (oD : @LT.lt Nat _ (L + 1 + 1 + 1 + 1 + 1) aD) (hmade : MadeAre own mvs maps) (hml : mvs.length ≤ 8)
    (F : Fr h₀ L s.heap m) (N : News h₀ L s.heap ((I, oI) :: G)) (hnI : ∀ q ∈ G, q.1 ≠ I) (hi : i < 13) (hJ : J2 aT aR aM aB aA aH maps L aD aS zfs ds fix i m G) :
    wpAny (model Challenge.rw_la0046_01.row.prog w) (callerA.deeper (lawEnv L fa cd)) (assign (.Name (Str.ofString "drawn") px) (lawEnv L fa cd) (.int n t)) (fun _ s₃ =>
      wpAny (model Challenge.rw_la0046_01.row.prog w) (callerA.deeper (lawEnv L fa cd)) (execs turn2Body (lawEnv L fa cd)) (OwnPost h₀ L s I oI (J2 aT aR aM aB aA aH maps L aD aS zfs ds fix (i + 1)) Q) E s₃) E s := by
  obtain ⟨σ, done, shut, dvs, svs, nD, nS, cls, ok, oz, zk, ⟨mT, mR, mM, mB, mA, mS, mH⟩, dk, K⟩ := hJ
  obtain ⟨nIs, oI1⟩ := core_ne (h := s.heap) K.wd hdl hzl hnI
  have S' : Stat ⟨aH, maps⟩ L aD aS zfs ((I, oI) :: fix) := ⟨S.off, fun q hq => by
    rcases List.mem_cons.mp hq with rfl | hq
    · exact ⟨oI1, nIs⟩
    · exact S.fixo q hq, S.nd⟩
  have V0 : Wd ⟨aH, maps⟩ L aD aS zfs ds ((I, oI) :: fix) ((I, oI) :: G) σ dvs svs nD nS cls ok oz := {
    fx := fun q hq => by
      rcases List.mem_cons.mp hq with rfl | hq
      · exact .head _
      · exact .tail _ (K.wd.fx q hq)
    mu := mut_keep (h₀ := h₀) (h := s.heap) (L := L) (P := fun _ => True) K.wd.mu (fun q hq _ => .tail _ hq) trivial fun _ _ => ⟨trivial, trivial⟩
    dn := .tail _ K.wd.dn
    sh := .tail _ K.wd.sh
    zz := .tail _ K.wd.zz
    kk := .tail _ K.wd.kk
    ad := fun j d z f h1 h2 => by
      obtain ⟨p, hp, h⟩ := K.wd.ad j d z f h1 h2
      exact ⟨p, .tail _ hp, h⟩ }
  have K0 : Core ⟨aH, maps⟩ L aD aS zfs ds ((I, oI) :: fix) ((I, oI) :: G) σ done shut dvs svs nD nS cls ok oz (16 * i) i := { K with wd := V0 }
  have NA : News h₀ L s.heap ((L + 1, ok) :: offs ((I, oI) :: G) [L + 1]) := offs_news (pre := [(L + 1, ok)]) N (in_cons V0.kk in_nil)
  rw [turn2_parts]
  refine wpAny_mono (part3A (Q := thenQ (model Challenge.rw_la0046_01.row.prog w) (callerA.deeper (lawEnv L fa cd)) (p3B ++ (p3C ++ p3D)) (lawEnv L fa cd) E (OwnPost h₀ L s I oI (J2 aT aR aM aB aA aH maps L aD aS zfs ds fix (i + 1)) Q))
    X T B F NA dk (offs_off _ _) ?_) (fun _ s₃ h => execs_then h) (fun _ _ h => h)
  intro h1 tk1 ok1 m1 uk ud F1 dk1 N1 mk1 mA1
  show wpAny _ _ (execs (p3B ++ _) _) _ _ _
  have hr4 := fmod_range n (k := 4) (by lia)
  have hr5 := fmod_range (Int.fdiv n 4) (k := 4) (by lia)
  obtain ⟨kn, hkn⟩ : ∃ kn : Nat, Int.fmod n 4 = (kn : Int) := ⟨(Int.fmod n 4).toNat, by lia⟩
  rw [hkn] at dk1 hr4
  have V1 := V0.cellk S' (G' := (L + 1, ok1) :: offs ((I, oI) :: G) [L + 1]) (fun q hq hn => .tail _ (offs_mem hq (notin_ne (all_cons hn all_nil)))) (.head _)
  have K1 := K0.move V1
  have pass1 : ∀ y, y ≠ Str.ofString "kind" → y ≠ Str.ofString "drawn" → m1 y = m y := mA1
  have nm : ∀ {y : Str} {v : Value}, m y = some v → y ≠ Str.ofString "kind" → y ≠ Str.ofString "drawn" → m1 y = some v := fun h a b => (pass1 _ a b).trans h
  have mT1 := nm mT (by decide) (by decide)
  have mR1 := nm mR (by decide) (by decide)
  have mM1 := nm mM (by decide) (by decide)
  have mB1 := nm mB (by decide) (by decide)
  have mA1' := nm mA (by decide) (by decide)
  have mS1 := nm mS (by decide) (by decide)
  have mH1 := nm mH (by decide) (by decide)
  refine execs_then (branches X T B S' (fun q hq hc => .tail _ (hfix q hq hc)) (.tail _ hT) (.tail _ hR) (.tail _ hB) (.tail _ hA) hds hdl hzl (fun j z f h => .tail _ (hz j z f h)) oD F1 N1 mT1 mR1 mB1 mA1' mS1 mk1 hr5.1 hr5.2 dk1 (by lia) hi K1 ?_)
  intro G2 σ2 done2 shut2 dvs2 svs2 nD2 nS2 cls2 oz2 h2 tk2 F2 N2 K2
  show wpAny _ _ (execs (p3C ++ _) _) _ _ _
  obtain ⟨⟨hvs, nH, hH, hI⟩, _⟩ := id K2.wd.mu
  have hlen : σ2.hs.length ≤ 100000 := by
    rw [K2.hs]
    have := List.length_filter_le (fun i : Int => decide (i < 3)) done2
    have := K2.lD
    show (done2.filter _).length ≤ _
    lia
  obtain ⟨ss, hss⟩ := sortsTo σ2.hs hlen
  have hdv : dvs2.length ≤ 100000 := by
    have := IntsAre.length K2.iD
    have := K2.lD
    lia
  refine execs_then (part3C X T B F2 mH1 N2 hH K2.wd.zz K2.dz K2.wd.dn hI K2.iD K2.hs hdv hss ?_)
  intro h3 tk3 G3 F3 N3 S3
  have V3 := K2.wd.stays S' (G' := G3) (fun q hq _ => S3 q hq) (mut_keep (h₀ := h₀) (h := s.heap) (L := L) (P := fun _ => True) K2.wd.mu (fun q hq _ => S3 q hq) trivial fun _ _ => ⟨trivial, trivial⟩)
  have K3 := K2.move V3
  show wpAny _ _ (execs p3D _) _ _ _
  refine part3D X T B F3 mM1 N3 (V3.fx _ (.tail _ hM)) V3.zz K3.dz V3.dn K3.iD hml V3.mu hmade (fun q hq hc => V3.fx q (.tail _ (hfix q hq hc))) (S'.fixo _ (.tail _ hM)).1 (S'.off _ (by simp)).1 (S'.off _ (by simp)).1 (by lia) (fun r hr => K3.op r hr) ?_
  intro h4 tk4 G4 F4 N4 S4 M4
  have V4 := V3.stays S' S4 M4
  have V5 : Wd ⟨aH, maps⟩ L aD aS zfs ds fix (offs G4 [I]) σ2 dvs2 svs2 nD2 nS2 cls2 ok1 oz2 := {
    fx := fun q hq => offs_mem (V4.fx q (.tail _ hq)) (notin_ne (all_cons (hnI q (K.wd.fx q hq)) all_nil))
    mu := mut_keep (h₀ := h₀) (h := s.heap) (L := L) (P := fun a => a ≠ I) V4.mu (fun q hq hn => offs_mem hq (notin_ne (all_cons hn all_nil))) oI1.1.symm fun r hr => by
      obtain ⟨hx, _⟩ := K.wd.mu.2.1 r hr
      exact ⟨hnI _ hx, (oI1.2 r hr).symm⟩
    dn := offs_mem V4.dn (notin_ne (all_cons (nIs aD (by simp)).symm all_nil))
    sh := offs_mem V4.sh (notin_ne (all_cons (nIs aS (by simp)).symm all_nil))
    zz := offs_mem V4.zz (notin_ne (all_cons (nIs _ (by simp)).symm all_nil))
    kk := offs_mem V4.kk (notin_ne (all_cons (nIs _ (by simp)).symm all_nil))
    ad := fun j d z f h1 h2 => by
      obtain ⟨p, hp, h⟩ := V4.ad j d z f h1 h2
      exact ⟨p, offs_mem hp (notin_ne (all_cons (nIs _ (zf_mem h2)).symm all_nil)), h⟩ }
  show OwnEnd _ _ _ _ _ _ _
  refine ⟨h4, tk4, m1, offs G4 [I], rfl, F4, ?_, fun q hq => (offs_off G4 [I]) q hq I (.head _), σ2, done2, shut2, dvs2, svs2, nD2, nS2, cls2, ok1, oz2, _, ⟨mT1, mR1, mM1, mB1, mA1', mS1, mH1⟩, dk1, { K3 with wd := V5 }⟩
  exact offs_news (pre := [(I, oI)]) N4 (in_cons (V4.fx _ (.head _)) in_nil)
end
end

section
open PySem PySem.W PySem.Calls PyProof.Rows Builtin
set_option Elab.async false
set_option maxRecDepth 100000
set_option maxHeartbeats 8000000
example : ∀ w : World, (hd.heap_39 w.params).In default → Challenge.rw_la0046_01.Holds → True := by k_fill; intros; trivial
noncomputable def iterOf : Stmt → PySem.Expr
  | .For _ i _ _ _ => i
  | _ => .Name (Str.ofString "x") ⟨0,0,0,0⟩
noncomputable def tposOf : Stmt → Pos
  | .For (.Name _ q) _ _ _ _ => q
  | _ => ⟨0,0,0,0⟩
noncomputable def fposOf : Stmt → Pos
  | .For _ _ _ _ q => q
  | _ => ⟨0,0,0,0⟩
example : True := by
  k_with_none
  trivial
theorem for1_eq : stmtAt lawBody 5 = .For (.Name (Str.ofString "k") (tposOf (stmtAt lawBody 5))) (iterOf (stmtAt lawBody 5)) turn1Body [] (fposOf (stmtAt lawBody 5)) := by kernel_rfl
theorem for2_eq : stmtAt lawBody 9 = .For (.Name (Str.ofString "drawn") (tposOf (stmtAt lawBody 9))) (iterOf (stmtAt lawBody 9)) turn2Body [] (fposOf (stmtAt lawBody 9)) := by kernel_rfl
example : True := by
  k_with "pyIter" => (refine stop_of ?_)
  trivial
local macro_rules | `(tactic| k_lt $h:ident) => `(tactic| (have kRaw := $h; replace $h := allLt_of $h; simp only [AllLt, and_true] at $h:ident))
theorem loop1 {w : World} {p : Program} {loose : List Str} {mean : ExcName → Option Value} {mg mb : Str → Option Value} {h₀ : Heap} {L fa : Addr} {cd : Value} {s : Shared} {lS aH aT aR aM aB l1 l2 : Addr} {svs : List Value} {ns : List Int} {own₀ ext G : List (Addr × Obj)} {m : Str → Option Value} {Q : Flow → Shared → Prop} {E : Value → Shared → Prop}
    (X : (hd.heap_39 w.params).In h₀) (T : Top p loose mean mg mb h₀) (B : Below callerA h₀ [] h₀) (hS : h₀.IsList lS svs.toArray) (hI : IntsAre svs ns) (hlen : ns.length ≤ 63)
    (s1 : @LT.lt Nat _ (L + 1 + 1 + 1 + 1 + 1) aT) (s2 : @LT.lt Nat _ aT aR) (s3 : @LT.lt Nat _ aR aM) (s4 : @LT.lt Nat _ aM aB)
    (hE : PassesOwn (model Challenge.rw_la0046_01.row.prog w) (callerA.deeper (lawEnv L fa cd)) (lawEnv L fa cd) E) (hl1 : ∀ maps, Bears w p loose mean mg mb aH maps own₀ (.ref l1) (.leaf 1)) (hl2 : ∀ maps, Bears w p loose mean mg mb aH maps own₀ (.ref l2) (.leaf 2))
    (F : Fr h₀ L s.heap m) (N : News h₀ L s.heap G) (hex : ∀ q ∈ ext, q.1 ≠ aT ∧ q.1 ≠ aR ∧ q.1 ≠ aM ∧ q.1 ≠ aB ∧ q.1 ≠ L + 1 + 1 + 1 + 1 ∧ q.1 ≠ L + 1 + 1 + 1 ∧ q.1 ≠ L + 1 + 1 ∧ q.1 ≠ L + 1)
    (hJ : J1 w p loose mean mg mb L lS aH aT aR aM aB l1 l2 own₀ ext 0 m G)
    (ret : ∀ h' tk' m' G', Fr h₀ L h' m' → News h₀ L h' G' → J1 w p loose mean mg mb L lS aH aT aR aM aB l1 l2 own₀ ext 4 m' G' → Q .next { s with heap := h', toks := tk' }) :
    wpAny (model Challenge.rw_la0046_01.row.prog w) (callerA.deeper (lawEnv L fa cd)) (exec (stmtAt lawBody 5) (lawEnv L fa cd)) Q E s := by
  rw [for1_eq]
  refine For_own (h₀ := h₀) (m := m) F ?_ ?_ ?_
  · conv in iterOf (stmtAt lawBody 5) => whnf
    generalize hQ : (fun (xv : Value) (s₁ : Shared) => wpAny (model Challenge.rw_la0046_01.row.prog w) (callerA.deeper (lawEnv L fa cd)) (pyIter xv) _ E s₁) = Q2
    unfold lawEnv
    conv in (occs := *) lawScope => all_goals whnf
    try k_fold
    k_steps
    rename Fr _ _ _ _ => F1
    rename News _ _ _ _ => N1
    rename IsRange _ _ _ _ _ _ _ _ => hr
    subst hQ
    refine own_range (n := 4) (fun i m nw => J1 w p loose mean mg mb L lS aH aT aR aM aB l1 l2 own₀ ext i m nw) rfl hr (by decide) (by decide) F1 N1 hJ ?_ ?_
    · intro I i t m₁ news₁ h tk oI hi hJ1 hn1 F2 N2
      exact turn1 X T B hS hI hlen hi s1 s2 s3 s4 hl1 hl2 F2 N2 hn1 hex hJ1
    · intro h' tk' m' news' F2 N2 hJ1
      exact ret h' tk' m' news' F2 N2 hJ1
  · intro _; rfl
  · exact hE
example : True := by
  k_with "eval Name" => ((k_here; k_dflt (refine' nameX_L ?F ?v ?_ ?a ?b; (case F => k_asm); (case a => rfl); (case b => rfl); (case v => assumption); k_whole)))
  trivial
theorem loop2 {w : World} {p : Program} {loose : List Str} {mean : ExcName → Option Value} {mg mb : Str → Option Value} {h₀ : Heap} {L fa : Addr} {cd : Value} {s : Shared} {lS : Addr} {svs : List Value} {ns : List Int} {G : List (Addr × Obj)} {m : Str → Option Value} {Q : Flow → Shared → Prop} {E : Value → Shared → Prop}
    {aT aR aM aB aA aH aD aS l1 l2 : Addr} {maps : List Rec} {zfs : List (Addr × Addr)} {ds : List Demo} {fix own : List (Addr × Obj)} {rvs mvs : List Value} {nT nR nM nB nA : Nat}
    (X : (hd.heap_39 w.params).In h₀) (T : Top p loose mean mg mb h₀) (B : Below callerA h₀ [] h₀) (hS : h₀.IsList lS svs.toArray) (hI : IntsAre svs ns) (hlen : ns.length ≤ 63)
    (hE : PassesOwn (model Challenge.rw_la0046_01.row.prog w) (callerA.deeper (lawEnv L fa cd)) (lawEnv L fa cd) E)
    (S : Stat ⟨aH, maps⟩ L aD aS zfs fix) (hfix : ∀ q ∈ own, Cold q.2 → q ∈ fix)
    (hT : (aT, W.listOf (Value.none :: Value.ref l1 :: Value.ref l2 :: ds.map fun d => Value.ref d.x).toArray nT) ∈ fix) (hR : (aR, W.listOf rvs.toArray nR) ∈ fix) (hB : (aB, W.listOf (ds.map fun d => Value.ref d.ab).toArray nB) ∈ fix) (hA : (aA, W.listOf (zfs.map fun z => Value.ref z.1).toArray nA) ∈ fix) (hM : (aM, W.listOf mvs.toArray nM) ∈ fix)
    (hds : ∀ k d, ds[k]? = some d → DemoOK w p loose mean mg mb aH maps rvs own k d) (hdl : ds.length = 4) (hzl : zfs.length = 4) (hz : ∀ (j : Nat) (z f : Addr), zfs[j]? = some (z, f) → (z, instObj 505 f) ∈ fix) (oD : @LT.lt Nat _ (L + 1 + 1 + 1 + 1 + 1) aD) (hmade : MadeAre own mvs maps) (hml : mvs.length ≤ 8)
    (F : Fr h₀ L s.heap m) (N : News h₀ L s.heap G) (mSc : m (Str.ofString "script") = some (.ref lS)) (hJ : J2 aT aR aM aB aA aH maps L aD aS zfs ds fix 0 m G)
    (ret : ∀ h' tk' m' G', Fr h₀ L h' m' → News h₀ L h' G' → (∀ q ∈ fix, q ∈ G') → Q .next { s with heap := h', toks := tk' }) :
    wpAny (model Challenge.rw_la0046_01.row.prog w) (callerA.deeper (lawEnv L fa cd)) (exec (stmtAt lawBody 9) (lawEnv L fa cd)) Q E s := by
  rw [for2_eq]
  refine For_own (h₀ := h₀) (m := m) F ?_ ?_ ?_
  · conv in iterOf (stmtAt lawBody 9) => whnf
    generalize hQ : (fun (xv : Value) (s₁ : Shared) => wpAny (model Challenge.rw_la0046_01.row.prog w) (callerA.deeper (lawEnv L fa cd)) (pyIter xv) _ E s₁) = Q2
    unfold lawEnv
    conv in (occs := *) lawScope => all_goals whnf
    try k_fold
    k_steps
    rename News _ _ _ _ => N1
    rename Fr _ _ _ _ => F1
    rename IntsAre _ (_ ++ _) => hI1
    rename_i D1 wl1 hR1 hI2 hC hL l1 h1 kRaw1 ll1 D ws h2 kRaw2 ll2
    subst hQ
    have hD : ∀ q ∈ G, q.1 < D := fun q hq => kRaw2 q (.tail _ (.tail _ hq))
    obtain ⟨σ, done, shut, dvs, svs', nD, nS, cls, ok, oz, zk, names, dk, K⟩ := hJ
    obtain ⟨nIs, oI1⟩ := core_ne (h := s.heap) K.wd hdl hzl (fun q hq => Nat.ne_of_lt (hD q hq))
    have N2 : News h₀ L h2 ((D, W.listOf ws.toArray 0) :: G) := News.perm N1 fun q hq => by
      rcases List.mem_cons.mp hq with rfl | hq
      · exact .head _
      · exact .tail _ (.tail _ (.tail _ hq))
    have hsub : ∀ q ∈ G, q ∈ (D, W.listOf ws.toArray 0) :: G := fun q hq => .tail _ hq
    have hwl : ws.length ≤ 13 := by
      have := IntsAre.length hI1
      rw [this, List.length_append, List.length_take]
      simp only [List.length_cons, List.length_nil]
      omega
    have S' : Stat ⟨aH, maps⟩ L aD aS zfs ((D, W.listOf ws.toArray 0) :: fix) := ⟨S.off, fun q hq => by
      rcases List.mem_cons.mp hq with rfl | hq
      · exact ⟨oI1, nIs⟩
      · exact S.fixo q hq, S.nd⟩
    have V0 : Wd ⟨aH, maps⟩ L aD aS zfs ds ((D, W.listOf ws.toArray 0) :: fix) ((D, W.listOf ws.toArray 0) :: G) σ dvs svs' nD nS cls ok oz := {
      fx := fun q hq => by
        rcases List.mem_cons.mp hq with rfl | hq
        · exact .head _
        · exact .tail _ (K.wd.fx q hq)
      mu := mut_keep (h₀ := h₀) (h := s.heap) (L := L) (P := fun _ => True) K.wd.mu (fun q hq _ => .tail _ hq) trivial fun _ _ => ⟨trivial, trivial⟩
      dn := .tail _ K.wd.dn
      sh := .tail _ K.wd.sh
      zz := .tail _ K.wd.zz
      kk := .tail _ K.wd.kk
      ad := fun j d z f h1 h2 => by
        obtain ⟨p, hp, h⟩ := K.wd.ad j d z f h1 h2
        exact ⟨p, .tail _ hp, h⟩ }
    refine own_list (vs := ws) (nl := 0) (fun i m nw => J2 aT aR aM aB aA aH maps L aD aS zfs ds ((D, W.listOf ws.toArray 0) :: fix) i m nw) rfl F1 N2 ⟨σ, done, shut, dvs, svs', nD, nS, cls, ok, oz, zk, names, dk, { K with wd := V0 }⟩ ?_ ?_ ?_
    · intro i m nw hj
      obtain ⟨_, _, _, _, _, _, _, _, _, _, _, _, _, K'⟩ := hj
      exact K'.wd.fx _ (.head _)
    · intro I i v m₁ news₁ h tk oI hv hJ1 hn1 F2 N3
      obtain ⟨n, t, rfl, _⟩ := ints_at hI1 hv
      have hlt : i < ws.length := (List.getElem?_eq_some_iff.mp hv).1
      exact turn2 X T B S' (fun q hq hc => .tail _ (hfix q hq hc)) (.tail _ hT) (.tail _ hR) (.tail _ hB) (.tail _ hA) (.tail _ hM) hds hdl hzl (fun j z f h => .tail _ (hz j z f h)) oD hmade hml F2 N3 hn1 (by omega) hJ1
    · intro h' tk' m' news' F2 N3 hJ1
      obtain ⟨_, _, _, _, _, _, _, _, _, _, _, _, _, K'⟩ := hJ1
      exact ret h' tk' m' news' F2 N3 (fun q hq => K'.wd.fx q (.tail _ hq))
  · intro _; rfl
  · exact hE
end

section
open PySem PySem.W PySem.Calls PyProof.Rows Builtin
set_option Elab.async false
set_option maxRecDepth 100000
set_option maxHeartbeats 8000000
noncomputable def restBody : List Stmt := lawBody.drop 6
noncomputable def retS : List Stmt := [stmtAt lawBody 10]
theorem rest_eq : restBody = p2A ++ (p2B ++ ([stmtAt lawBody 9] ++ retS)) := by kernel_rfl
theorem data_ne {h₀ h : Heap} {L : Addr} {news : List (Addr × Obj)} (N : News h₀ L h news) {a b : Addr} {o q : Obj} (ha : (a, o) ∈ news) (hb : (b, q) ∈ news) (hne : o.data ≠ q.data) : a ≠ b := fun e => by
  subst e
  exact hne (congrArg Obj.data (Option.some.inj ((N _ ha).1.symm.trans (N _ hb).1)))
theorem execs_one {M : Model} {A : Around} {E : Value → Shared → Prop} {env : Env} {Q : Flow → Shared → Prop} {a : Stmt} {s : Shared} (h : wpAny M A (exec a env) Q E s) : wpAny M A (execs [a] env) Q E s :=
  wpAny_execs_cons (wpAny_mono h (fun f _ h => by cases f <;> first | exact wpAny_execs_nil h | exact h) fun _ _ h => h)
theorem len4 {α : Type} {l : List α} (h : l.length = 4) : ∃ a b c d, l = [a, b, c, d] := by
  match l, h with
  | [a, b, c, d], _ => exact ⟨a, b, c, d, rfl⟩
noncomputable def Γ0 (aH : Addr) (maps : List Rec) : Cfg := ⟨aH, maps⟩
section
open Classical in
noncomputable def coldOf (own : List (Addr × Obj)) : List (Addr × Obj) := own.filter fun q => decide (Cold q.2)
theorem cold_in {own : List (Addr × Obj)} {q : Addr × Obj} (h : q ∈ own) (hc : Cold q.2) : q ∈ coldOf own := by
  unfold coldOf
  rw [List.mem_filter]
  exact ⟨h, by simpa using hc⟩
theorem of_cold {own : List (Addr × Obj)} {q : Addr × Obj} (h : q ∈ coldOf own) : q ∈ own ∧ Cold q.2 := by
  unfold coldOf at h
  rw [List.mem_filter] at h
  exact ⟨h.1, by simpa using h.2⟩
end
theorem ret_true {w : World} {L fa : Addr} {cd : Value} {s : Shared} {Q : Flow → Shared → Prop} {E : Value → Shared → Prop} (h : Q (.ret (.bool true)) s) :
    wpAny (model Challenge.rw_la0046_01.row.prog w) (callerA.deeper (lawEnv L fa cd)) (execs retS (lawEnv L fa cd)) Q E s := by
  conv in retS => whnf
  conv in stmtAt lawBody 10 => whnf
  exact fun Γ p hΓ => h
theorem tail {w : World} {p : Program} {loose : List Str} {mean : ExcName → Option Value} {mg mb : Str → Option Value} {h₀ : Heap} {L fa : Addr} {cd : Value} {s : Shared} {lS aH aT aR aM aB l1 l2 ta : Addr} {nH : Nat} {oz to : Obj} {zz : Option Value} {tp : Array Value} {svs : List Value} {ns : List Int} {own₀ G : List (Addr × Obj)} {m : Str → Option Value} {Q : Flow → Shared → Prop} {E : Value → Shared → Prop}
    (X : (hd.heap_39 w.params).In h₀) (T : Top p loose mean mg mb h₀) (B : Below callerA h₀ [] h₀) (hS : h₀.IsList lS svs.toArray) (hI : IntsAre svs ns) (hlen : ns.length ≤ 63)
    (s0 : @LT.lt Nat _ (L + 1 + 1 + 1 + 1 + 1) aH) (s1 : @LT.lt Nat _ aH aT) (s2 : @LT.lt Nat _ aT aR) (s3 : @LT.lt Nat _ aR aM) (s4 : @LT.lt Nat _ aM aB)
    (hE : PassesOwn (model Challenge.rw_la0046_01.row.prog w) (callerA.deeper (lawEnv L fa cd)) (lawEnv L fa cd) E)
    (hl1 : ∀ maps, Bears w p loose mean mg mb aH maps own₀ (.ref l1) (.leaf 1)) (hl2 : ∀ maps, Bears w p loose mean mg mb aH maps own₀ (.ref l2) (.leaf 2))
    (F : Fr h₀ L s.heap m) (N : News h₀ L s.heap G) (dz : oz.data = .cell zz) (ht : to = tabObj tp)
    (hJ : J1 w p loose mean mg mb L lS aH aT aR aM aB l1 l2 own₀ [(aH, W.listOf (List.toArray []) nH), (L + 1 + 1 + 1 + 1 + 1, oz), (ta, to)] 0 m G)
    (ret : ∀ {h' : Heap} {tk' : Nat} {m' : Str → Option Value} {G' : List (Addr × Obj)}, Fr h₀ L h' m' → News h₀ L h' G' → (ta, to) ∈ G' → Q (.ret (.bool true)) { s with heap := h', toks := tk' }) :
    wpAny (model Challenge.rw_la0046_01.row.prog w) (callerA.deeper (lawEnv L fa cd)) (exec (stmtAt lawBody 5) (lawEnv L fa cd)) (thenQ (model Challenge.rw_la0046_01.row.prog w) (callerA.deeper (lawEnv L fa cd)) restBody (lawEnv L fa cd) E Q) E s := by
  have s01 : @LT.lt Nat _ (L + 1 + 1 + 1 + 1 + 1) aT := Nat.lt_trans s0 s1
  have hex : ∀ q ∈ [(aH, W.listOf (List.toArray []) nH), (L + 1 + 1 + 1 + 1 + 1, oz), (ta, to)], q.1 ≠ aT ∧ q.1 ≠ aR ∧ q.1 ≠ aM ∧ q.1 ≠ aB ∧ q.1 ≠ L + 1 + 1 + 1 + 1 ∧ q.1 ≠ L + 1 + 1 + 1 ∧ q.1 ≠ L + 1 + 1 ∧ q.1 ≠ L + 1 := by
    obtain ⟨ds, rvs, mvs, maps, nB, nM, nR, nT, og, oe, of, ok, zg, ze, zf, zk, own, _, ⟨gB, gM, gR, gT⟩, ⟨gg, ge, gf, gk⟩, ⟨dg, de, df, dk⟩, hext, _⟩ := id hJ
    have gt : (ta, to) ∈ G := hext _ (.tail _ (.tail _ (.head _)))
    have td : to.data = .fields tp := by rw [ht]
    intro q hq
    simp only [List.mem_cons, List.not_mem_nil, or_false] at hq
    rcases hq with rfl | rfl | rfl
    · exact ⟨Nat.ne_of_lt (by lia), Nat.ne_of_lt (by lia), Nat.ne_of_lt (by lia), Nat.ne_of_lt (by lia), Nat.ne_of_gt (by lia), Nat.ne_of_gt (by lia), Nat.ne_of_gt (by lia), Nat.ne_of_gt (by lia)⟩
    · exact ⟨Nat.ne_of_lt (by lia), Nat.ne_of_lt (by lia), Nat.ne_of_lt (by lia), Nat.ne_of_lt (by lia), Nat.ne_of_gt (Nat.lt_succ_self _), Nat.ne_of_gt (by lia), Nat.ne_of_gt (by lia), Nat.ne_of_gt (by lia)⟩
    · exact ⟨data_ne N gt gT (by rw [td]; exact fun e => nomatch e), data_ne N gt gR (by rw [td]; exact fun e => nomatch e), data_ne N gt gM (by rw [td]; exact fun e => nomatch e), data_ne N gt gB (by rw [td]; exact fun e => nomatch e),
        data_ne N gt gg (by rw [td, dg]; exact fun e => nomatch e), data_ne N gt ge (by rw [td, de]; exact fun e => nomatch e), data_ne N gt gf (by rw [td, df]; exact fun e => nomatch e), data_ne N gt gk (by rw [td, dk]; exact fun e => nomatch e)⟩
  refine loop1 X T B hS hI hlen s01 s2 s3 s4 hE hl1 hl2 F N hex hJ ?_
  intro h1 tk1 m1 G1 F1 N1 hJ1
  show wpAny _ _ (execs restBody _) _ _ _
  rw [rest_eq]
  clear hex hJ
  obtain ⟨ds, rvs, mvs, maps, nB, nM, nR, nT, og, oe, of, ok, zg, ze, zf, zk, own, ⟨mB, mM, mR, mT, mH, mS⟩, ⟨gB, gM, gR, gT⟩, ⟨gg, ge, gf, gk⟩, ⟨dg, de, df, dk⟩, hext, hown0, hownG, hsafe, hdl, hrl, hds, hmaps, hmade, hml⟩ := hJ1
  have gH : (aH, W.listOf (List.toArray []) nH) ∈ G1 := hext _ (.head _)
  have gz : (L + 1 + 1 + 1 + 1 + 1, oz) ∈ G1 := hext _ (.tail _ (.head _))
  have gt : (ta, to) ∈ G1 := hext _ (.tail _ (.tail _ (.head _)))
  obtain ⟨d0, d1, d2, d3, rfl⟩ := len4 hdl
  have k0 := hds 0 d0 rfl
  have k1 := hds 1 d1 rfl
  have k2 := hds 2 d2 rfl
  have k3 := hds 3 d3 rfl
  have ownT : ∀ q ∈ own, q ∈ offs G1 [aT] := fun q hq => offs_mem (hownG q hq) (notin_ne (all_cons (nol_ne N1 (hownG q hq) gT (hsafe q hq).2) all_nil))
  have NA : News h₀ L h1 ((aT, W.listOf (List.toArray [.none, .ref l1, .ref l2, .ref d0.x, .ref d1.x, .ref d2.x, .ref d3.x]) nT) :: offs G1 [aT]) := offs_news (pre := [(aT, _)]) N1 (in_cons gT in_nil)
  obtain ⟨q0, he0, hD0⟩ := k0.dict
  obtain ⟨q1, he1, hD1⟩ := k1.dict
  obtain ⟨q2, he2, hD2⟩ := k2.dict
  obtain ⟨q3, he3, hD3⟩ := k3.dict
  refine execs_then (part2A X T B F1 mT NA (offs_off _ _) (ownT _ k0.inst) (ownT _ k1.inst) (ownT _ k2.inst) (ownT _ k3.inst) (ownT _ he0) (ownT _ he1) (ownT _ he2) (ownT _ he3) hD0 hD1 hD2 hD3 ?_)
  intro aA h2 tk2 m2 z0 z1 z2 z3 f0 f1 f2 f3 p0 p1 p2 p3 G2 F2 N2 mA2 mm2 hsub gA gz0 gz1 gz2 gz3 gf0 gf1 gf2 gf3 A0 A1 A2 A3 o01 o12 o23 oold oA
  have old2 : ∀ q ∈ G1, q ∈ G2 ∧ @LT.lt Nat _ q.1 f0 ∧ q.1 ≠ aA := fun q hq => by
    by_cases e : q.1 = aT
    · have e1 : q = (aT, W.listOf (List.toArray [.none, .ref l1, .ref l2, .ref d0.x, .ref d1.x, .ref d2.x, .ref d3.x]) nT) := by
        obtain ⟨a, o⟩ := q
        dsimp only at e
        subst e
        exact congrArg (Prod.mk a) (Option.some.inj ((N1 _ hq).1.symm.trans (N1 _ gT).1))
      rw [e1]
      exact ⟨hsub _ (.head _), oold _ (.head _), oA _ (.head _)⟩
    · have := List.mem_cons_of_mem (aT, W.listOf (List.toArray [.none, .ref l1, .ref l2, .ref d0.x, .ref d1.x, .ref d2.x, .ref d3.x]) nT) (offs_mem (l := [aT]) hq (notin_ne (all_cons e all_nil)))
      exact ⟨hsub _ this, oold _ this, oA _ this⟩
  show wpAny _ _ (execs (p2B ++ _) _) _ _ _
  have NB : News h₀ L h2 ((L + 1 + 1 + 1 + 1 + 1, oz) :: offs G2 [L + 1 + 1 + 1 + 1 + 1]) := offs_news (pre := [(_, oz)]) N2 (in_cons (old2 _ gz).1 in_nil)
  refine execs_then (part2B X T B F2 NB dz (offs_off _ _) ?_)
  intro aS aD h3 tk3 oz3 m3 F3 dz3 N3 mS3 mm3 oS oSD oLS
  have old3 : ∀ q ∈ G2, q.1 ≠ L + 1 + 1 + 1 + 1 + 1 → @LT.lt Nat _ q.1 aS ∧ q ∈ (aD, W.listOf (List.toArray []) 0) :: (aS, W.listOf (List.toArray []) 0) :: (L + 1 + 1 + 1 + 1 + 1, oz3) :: offs G2 [L + 1 + 1 + 1 + 1 + 1] := fun q hq hn =>
    ⟨oS q (offs_mem hq (notin_ne (all_cons hn all_nil))), .tail _ (.tail _ (.tail _ (offs_mem hq (notin_ne (all_cons hn all_nil)))))⟩
  generalize hG3 : ((aD, W.listOf (List.toArray []) 0) :: (aS, W.listOf (List.toArray []) 0) :: (L + 1 + 1 + 1 + 1 + 1, oz3) :: offs G2 [L + 1 + 1 + 1 + 1 + 1]) = G3 at N3 old3
  have lf0 : @LT.lt Nat _ (L + 1 + 1 + 1 + 1 + 1) f0 := (old2 _ gz).2.1
  have up : ∀ q ∈ G1, @LT.lt Nat _ (L + 1 + 1 + 1 + 1 + 1) q.1 → q ∈ G3 ∧ @LT.lt Nat _ q.1 f0 ∧ @LT.lt Nat _ q.1 aS := fun q hq hl =>
    ⟨(old3 q (old2 q hq).1 (Nat.ne_of_gt hl)).2, (old2 q hq).2.1, (old3 q (old2 q hq).1 (Nat.ne_of_gt hl)).1⟩
  have hDl : (aD, W.listOf (List.toArray []) 0) ∈ G3 := hG3 ▸ .head _
  have hSl : (aS, W.listOf (List.toArray []) 0) ∈ G3 := hG3 ▸ .tail _ (.head _)
  have hZ : (L + 1 + 1 + 1 + 1 + 1, oz3) ∈ G3 := hG3 ▸ .tail _ (.tail _ (.head _))
  have hK : (L + 1, ok) ∈ G3 := (old3 _ (old2 _ gk).1 (Nat.ne_of_lt (by show @LT.lt Nat _ (L + 1) _; lia))).2
  have hmp : ∀ r ∈ maps, (r.x, instObj 205 r.dx) ∈ G1 ∧ (@LT.lt Nat _ (L + 1 + 1 + 1 + 1 + 1) r.x) ∧ ∃ o, (r.dx, o) ∈ G1 ∧ MapD o true ∧ @LT.lt Nat _ (L + 1 + 1 + 1 + 1 + 1) r.dx := fun r hr => by
    obtain ⟨h1, ⟨o, h2, h3⟩, _⟩ := hmaps.1 r hr
    exact ⟨hownG _ h1, (hsafe _ h1).1, o, hownG _ h2, h3, (hsafe _ h2).1⟩
  have M0 : Mut ⟨aH, maps⟩ ⟨[], fun _ => true⟩ G3 := by
    refine ⟨⟨[], nH, (up _ gH s0).1, .nil⟩, fun r hr => ?_, hmaps.2, fun r hr => (hmaps.1 r hr).2.2.1⟩
    obtain ⟨h1, l1, o, h2, h3, l2⟩ := hmp r hr
    exact ⟨(up _ h1 l1).1, o, (up _ h2 l2).1, h3⟩
  have offb : ∀ b : Addr, (@LE.le Nat _ b (L + 1 + 1 + 1 + 1 + 1) ∨ @LE.le Nat _ f0 b ∨ @LE.le Nat _ aS b) → Off ⟨aH, maps⟩ b ∧ ∀ r ∈ maps, r.x ≠ b := fun b hb => by
    have key : ∀ a : Addr, @LT.lt Nat _ (L + 1 + 1 + 1 + 1 + 1) a → @LT.lt Nat _ a f0 → @LT.lt Nat _ a aS → a ≠ b := fun a h1 h2 h3 => by
      rcases hb with h | h | h
      · exact Nat.ne_of_gt (by lia)
      · exact Nat.ne_of_lt (by lia)
      · exact Nat.ne_of_lt (by lia)
    refine ⟨⟨(key aH s0 (up _ gH s0).2.1 (up _ gH s0).2.2).symm, fun r hr => ?_⟩, fun r hr => ?_⟩
    · obtain ⟨_, _, o, h2, _, l2⟩ := hmp r hr
      exact (key _ l2 (up _ h2 l2).2.1 (up _ h2 l2).2.2).symm
    · obtain ⟨h1, l1, _⟩ := hmp r hr
      exact key _ l1 (up _ h1 l1).2.1 (up _ h1 l1).2.2
  have c0 := A0.cls
  have c1 := A1.cls
  have c2 := A2.cls
  have c3 := A3.cls
  have fz : ∀ (f : Addr) (po : Obj), (f, po) ∈ G2 → po.cls = .type "dict" → @LE.le Nat _ f0 f → (f, po) ∈ G3 ∧ @LT.lt Nat _ f aS := fun f po hf _ hl => by
    have hn : f ≠ L + 1 + 1 + 1 + 1 + 1 := Nat.ne_of_gt (by lia)
    exact ⟨(old3 _ hf hn).2, (old3 _ hf hn).1⟩
  obtain ⟨w0, v0⟩ := fz f0 p0 gf0 c0 (Nat.le_refl _)
  obtain ⟨w1, v1⟩ := fz f1 p1 gf1 c1 (by lia)
  obtain ⟨w2, v2⟩ := fz f2 p2 gf2 c2 (by lia)
  obtain ⟨w3, v3⟩ := fz f3 p3 gf3 c3 (by lia)
  -- an entry of before the adapters
  have so : ∀ q ∈ G1, @LT.lt Nat _ (L + 1 + 1 + 1 + 1 + 1) q.1 → ∀ a ∈ spec L aD aS [(z0, f0), (z1, f1), (z2, f2), (z3, f3)], q.1 ≠ a := fun q hq hl a ha => by
    obtain ⟨_, u1, u2⟩ := up q hq hl
    simp only [spec, List.map_cons, List.map_nil, List.mem_cons, List.not_mem_nil, or_false] at ha
    rcases ha with rfl | rfl | rfl | rfl | rfl | rfl | rfl | rfl
    · exact Nat.ne_of_lt (by lia)
    · exact Nat.ne_of_lt (by lia)
    · exact Nat.ne_of_gt (by lia)
    · exact Nat.ne_of_gt (by lia)
    · exact Nat.ne_of_lt (by lia)
    · exact Nat.ne_of_lt (by lia)
    · exact Nat.ne_of_lt (by lia)
    · exact Nat.ne_of_lt (by lia)
  -- an entry of the heap behind the adapters
  have sn : ∀ q ∈ G2, q.1 ≠ L + 1 + 1 + 1 + 1 + 1 → q.1 ≠ L + 1 → q.2.cls ≠ .type "dict" → ∀ a ∈ spec L aD aS [(z0, f0), (z1, f1), (z2, f2), (z3, f3)], q.1 ≠ a := fun q hq n5 n1 hc a ha => by
    have u2 := (old3 q hq n5).1
    simp only [spec, List.map_cons, List.map_nil, List.mem_cons, List.not_mem_nil, or_false] at ha
    rcases ha with rfl | rfl | rfl | rfl | rfl | rfl | rfl | rfl
    · exact Nat.ne_of_lt (by lia)
    · exact Nat.ne_of_lt (by lia)
    · exact n5
    · exact n1
    · exact news_ne N2 hq gf0 (by rw [c0]; exact hc)
    · exact news_ne N2 hq gf1 (by rw [c1]; exact hc)
    · exact news_ne N2 hq gf2 (by rw [c2]; exact hc)
    · exact news_ne N2 hq gf3 (by rw [c3]; exact hc)
  have sa : ∀ a ∈ spec L aD aS [(z0, f0), (z1, f1), (z2, f2), (z3, f3)], Off ⟨aH, maps⟩ a ∧ ∀ r ∈ maps, r.x ≠ a := fun a ha => by
    refine offb a ?_
    simp only [spec, List.map_cons, List.map_nil, List.mem_cons, List.not_mem_nil, or_false] at ha
    rcases ha with rfl | rfl | rfl | rfl | rfl | rfl | rfl | rfl
    · exact .inr (.inr (by lia))
    · exact .inr (.inr (by lia))
    · exact .inl (by lia)
    · exact .inl (by lia)
    · exact .inr (.inl (by lia))
    · exact .inr (.inl (by lia))
    · exact .inr (.inl (by lia))
    · exact .inr (.inl (by lia))
  have gt2 := (old2 _ gt).1
  have gz2' := (old2 _ gz).1
  have gk2 := (old2 _ gk).1
  have td : to.data = .fields tp := by rw [ht]
  have tc : to.cls = .none := by rw [ht]
  have zn5 : ∀ (z f : Addr), (z, instObj 505 f) ∈ G2 → z ≠ L + 1 + 1 + 1 + 1 + 1 := fun z f h => data_ne N2 h gz2' (by rw [dz]; exact fun e => nomatch e)
  have zn1 : ∀ (z f : Addr), (z, instObj 505 f) ∈ G2 → z ≠ L + 1 := fun z f h => data_ne N2 h gk2 (by rw [dk]; exact fun e => nomatch e)
  have offz : ∀ (z f : Addr), (z, instObj 505 f) ∈ G2 → Off ⟨aH, maps⟩ z := fun z f h => by
    refine ⟨news_ne N2 h (old2 _ gH).1 (by intro e; cases e), fun r hr => ?_⟩
    obtain ⟨_, _, o, h2, h3, _⟩ := hmp r hr
    obtain ⟨_, _, rfl, _⟩ := id h3
    exact news_ne N2 h (old2 _ h2).1 (by intro e; cases e)
  have listOff : ∀ (a : Addr) (vs : List Value) (n : Nat), (a, W.listOf vs.toArray n) ∈ G2 → a ≠ aH → Off ⟨aH, maps⟩ a := fun a vs n h hn => by
    refine ⟨hn, fun r hr => ?_⟩
    obtain ⟨_, _, o, h2, h3, _⟩ := hmp r hr
    obtain ⟨_, _, rfl, _⟩ := id h3
    exact news_ne N2 h (old2 _ h2).1 (by show Value.type "list" ≠ Value.type "dict"; decide)
  have S : Stat ⟨aH, maps⟩ L aD aS [(z0, f0), (z1, f1), (z2, f2), (z3, f3)] ((aT, W.listOf (List.toArray [.none, .ref l1, .ref l2, .ref d0.x, .ref d1.x, .ref d2.x, .ref d3.x]) nT) :: (aR, W.listOf rvs.toArray nR) :: (aM, W.listOf mvs.toArray nM) :: (aB, W.listOf (List.toArray [.ref d0.ab, .ref d1.ab, .ref d2.ab, .ref d3.ab]) nB) :: (aA, W.listOf (List.toArray [.ref z0, .ref z1, .ref z2, .ref z3]) 4) ::
      (z0, instObj 505 f0) :: (z1, instObj 505 f1) :: (z2, instObj 505 f2) :: (z3, instObj 505 f3) :: (ta, to) :: coldOf own) := by
    refine ⟨sa, fun q hq => ?_, ?_⟩
    · simp only [List.mem_cons] at hq
      rcases hq with rfl | rfl | rfl | rfl | rfl | rfl | rfl | rfl | rfl | rfl | hq
      · exact ⟨listOff _ _ _ (old2 _ gT).1 (Nat.ne_of_gt (by lia)), so _ gT (by show @LT.lt Nat _ _ aT; lia)⟩
      · exact ⟨listOff _ _ _ (old2 _ gR).1 (Nat.ne_of_gt (by lia)), so _ gR (by show @LT.lt Nat _ _ aR; lia)⟩
      · exact ⟨listOff _ _ _ (old2 _ gM).1 (Nat.ne_of_gt (by lia)), so _ gM (by show @LT.lt Nat _ _ aM; lia)⟩
      · exact ⟨listOff _ _ _ (old2 _ gB).1 (Nat.ne_of_gt (by lia)), so _ gB (by show @LT.lt Nat _ _ aB; lia)⟩
      · exact ⟨listOff _ _ _ gA (old2 _ gH).2.2.symm, sn _ gA (old2 _ gz).2.2.symm (old2 _ gk).2.2.symm (by show Value.type "list" ≠ Value.type "dict"; decide)⟩
      · exact ⟨offz _ _ gz0, sn _ gz0 (zn5 _ _ gz0) (zn1 _ _ gz0) (by intro e; cases e)⟩
      · exact ⟨offz _ _ gz1, sn _ gz1 (zn5 _ _ gz1) (zn1 _ _ gz1) (by intro e; cases e)⟩
      · exact ⟨offz _ _ gz2, sn _ gz2 (zn5 _ _ gz2) (zn1 _ _ gz2) (by intro e; cases e)⟩
      · exact ⟨offz _ _ gz3, sn _ gz3 (zn5 _ _ gz3) (zn1 _ _ gz3) (by intro e; cases e)⟩
      · refine ⟨⟨data_ne N2 gt2 (old2 _ gH).1 (by rw [td]; exact fun e => nomatch e), fun r hr => ?_⟩, sn _ gt2 (data_ne N2 gt2 gz2' (by rw [td, dz]; exact fun e => nomatch e)) (data_ne N2 gt2 gk2 (by rw [td, dk]; exact fun e => nomatch e)) (by rw [tc]; exact fun e => nomatch e)⟩
        obtain ⟨_, _, o, h2, h3, _⟩ := hmp r hr
        obtain ⟨_, _, rfl, _⟩ := id h3
        exact data_ne N2 gt2 (old2 _ h2).1 (by rw [td]; exact fun e => nomatch e)
      · obtain ⟨h1, h2⟩ := of_cold hq
        exact ⟨off_cold N3 M0 (up q (hownG q h1) (hsafe q h1).1).1 h2, so q (hownG q h1) (hsafe q h1).1⟩
    · simp only [spec, List.map_cons, List.map_nil, List.nodup_cons, List.mem_cons, List.not_mem_nil, or_false, not_or, not_false_eq_true, List.nodup_nil, and_true]
      refine ⟨⟨Nat.ne_of_gt (by lia), Nat.ne_of_gt (by lia), Nat.ne_of_gt (by lia), Nat.ne_of_gt (by lia), Nat.ne_of_gt (by lia), Nat.ne_of_gt (by lia), Nat.ne_of_gt (by lia)⟩, ⟨Nat.ne_of_gt (by lia), Nat.ne_of_gt (by lia), Nat.ne_of_gt (by lia), Nat.ne_of_gt (by lia), Nat.ne_of_gt (by lia), Nat.ne_of_gt (by lia)⟩,
        ⟨Nat.ne_of_gt (by lia), Nat.ne_of_lt (by lia), Nat.ne_of_lt (by lia), Nat.ne_of_lt (by lia), Nat.ne_of_lt (by lia)⟩, ⟨Nat.ne_of_lt (by lia), Nat.ne_of_lt (by lia), Nat.ne_of_lt (by lia), Nat.ne_of_lt (by lia)⟩, ⟨Nat.ne_of_lt (by lia), Nat.ne_of_lt (by lia), Nat.ne_of_lt (by lia)⟩, ⟨Nat.ne_of_lt (by lia), Nat.ne_of_lt (by lia)⟩, Nat.ne_of_lt (by lia)⟩
  generalize hfx : ((aT, W.listOf (List.toArray [.none, .ref l1, .ref l2, .ref d0.x, .ref d1.x, .ref d2.x, .ref d3.x]) nT) :: (aR, W.listOf rvs.toArray nR) :: (aM, W.listOf mvs.toArray nM) :: (aB, W.listOf (List.toArray [.ref d0.ab, .ref d1.ab, .ref d2.ab, .ref d3.ab]) nB) :: (aA, W.listOf (List.toArray [.ref z0, .ref z1, .ref z2, .ref z3]) 4) ::
      (z0, instObj 505 f0) :: (z1, instObj 505 f1) :: (z2, instObj 505 f2) :: (z3, instObj 505 f3) :: (ta, to) :: coldOf own) = fix at S
  have fT : (aT, W.listOf (List.toArray [.none, .ref l1, .ref l2, .ref d0.x, .ref d1.x, .ref d2.x, .ref d3.x]) nT) ∈ fix := hfx ▸ .head _
  have fR : (aR, W.listOf rvs.toArray nR) ∈ fix := hfx ▸ .tail _ (.head _)
  have fM : (aM, W.listOf mvs.toArray nM) ∈ fix := hfx ▸ .tail _ (.tail _ (.head _))
  have fB : (aB, W.listOf (List.toArray [.ref d0.ab, .ref d1.ab, .ref d2.ab, .ref d3.ab]) nB) ∈ fix := hfx ▸ .tail _ (.tail _ (.tail _ (.head _)))
  have fA : (aA, W.listOf (List.toArray [.ref z0, .ref z1, .ref z2, .ref z3]) 4) ∈ fix := hfx ▸ .tail _ (.tail _ (.tail _ (.tail _ (.head _))))
  have fz0 : (z0, instObj 505 f0) ∈ fix := hfx ▸ .tail _ (.tail _ (.tail _ (.tail _ (.tail _ (.head _)))))
  have fz1 : (z1, instObj 505 f1) ∈ fix := hfx ▸ .tail _ (.tail _ (.tail _ (.tail _ (.tail _ (.tail _ (.head _))))))
  have fz2 : (z2, instObj 505 f2) ∈ fix := hfx ▸ .tail _ (.tail _ (.tail _ (.tail _ (.tail _ (.tail _ (.tail _ (.head _)))))))
  have fz3 : (z3, instObj 505 f3) ∈ fix := hfx ▸ .tail _ (.tail _ (.tail _ (.tail _ (.tail _ (.tail _ (.tail _ (.tail _ (.head _))))))))
  have ft : (ta, to) ∈ fix := hfx ▸ .tail _ (.tail _ (.tail _ (.tail _ (.tail _ (.tail _ (.tail _ (.tail _ (.tail _ (.head _)))))))))
  have fo : ∀ q ∈ own, Cold q.2 → q ∈ fix := fun q hq hc => hfx ▸ .tail _ (.tail _ (.tail _ (.tail _ (.tail _ (.tail _ (.tail _ (.tail _ (.tail _ (.tail _ (cold_in hq hc))))))))))
  have nta : ta ≠ L + 1 + 1 + 1 + 1 + 1 := data_ne N2 gt2 gz2' (by rw [td, dz]; exact fun e => nomatch e)
  have V : Wd ⟨aH, maps⟩ L aD aS [(z0, f0), (z1, f1), (z2, f2), (z3, f3)] [d0, d1, d2, d3] fix G3 ⟨[], fun _ => true⟩ [] [] 0 0 (fun _ => false) ok oz3 := {
    fx := fun q hq => by
      rw [← hfx] at hq
      simp only [List.mem_cons] at hq
      rcases hq with rfl | rfl | rfl | rfl | rfl | rfl | rfl | rfl | rfl | rfl | hq
      · exact (up _ gT (by show @LT.lt Nat _ _ aT; lia)).1
      · exact (up _ gR (by show @LT.lt Nat _ _ aR; lia)).1
      · exact (up _ gM (by show @LT.lt Nat _ _ aM; lia)).1
      · exact (up _ gB (by show @LT.lt Nat _ _ aB; lia)).1
      · exact (old3 _ gA (old2 _ gz).2.2.symm).2
      · exact (old3 _ gz0 (zn5 _ _ gz0)).2
      · exact (old3 _ gz1 (zn5 _ _ gz1)).2
      · exact (old3 _ gz2 (zn5 _ _ gz2)).2
      · exact (old3 _ gz3 (zn5 _ _ gz3)).2
      · exact (old3 _ gt2 nta).2
      · obtain ⟨h1, _⟩ := of_cold hq
        exact (up q (hownG q h1) (hsafe q h1).1).1
    mu := M0
    dn := hDl
    sh := hSl
    zz := hZ
    kk := hK
    ad := fun j d z f h1 h2 => by
      match j with
      | 0 => cases h1; cases h2; exact ⟨p0, w0, A0⟩
      | 1 => cases h1; cases h2; exact ⟨p1, w1, A1⟩
      | 2 => cases h1; cases h2; exact ⟨p2, w2, A2⟩
      | 3 => cases h1; cases h2; exact ⟨p3, w3, A3⟩
      | j + 4 => simp at h1 }
  have nm2 : ∀ {y : Str} {v : Value}, m1 y = some v → y ≠ Str.ofString "adapters" → y ≠ Str.ofString "shut" → m3 y = some v := fun h a b => (mm3 _ b).trans ((mm2 _ a).trans h)
  have mA3 : m3 (Str.ofString "adapters") = some (.ref aA) := (mm3 _ (by decide)).trans mA2
  show wpAny _ _ (execs ([stmtAt lawBody 9] ++ _) _) _ _ _
  refine execs_then (execs_one (loop2 X T B hS hI hlen hE S fo fT fR fB fA fM hds rfl rfl ?_ (by lia) hmade (by rw [hmade.length]; lia) F3 N3 (nm2 mS (by decide) (by decide)) ?_ ?_))
  · intro j z f h
    match j with
    | 0 => cases h; exact fz0
    | 1 => cases h; exact fz1
    | 2 => cases h; exact fz2
    | 3 => cases h; exact fz3
    | j + 4 => simp at h
  · exact ⟨⟨[], fun _ => true⟩, [], [], [], [], 0, 0, fun _ => false, ok, oz3, _, ⟨nm2 mT (by decide) (by decide), nm2 mR (by decide) (by decide), nm2 mM (by decide) (by decide), nm2 mB (by decide) (by decide), mA3, mS3, nm2 mH (by decide) (by decide)⟩, dk,
      ⟨V, dz3, rfl, fun r hr => rfl, .nil, Nat.zero_le _, .nil, Nat.zero_le _, fun j => rfl⟩⟩
  · intro h4 tk4 m4 G4 F4 N4 hf4
    show wpAny _ _ (execs retS _) _ _ _
    exact ret_true (ret F4 N4 (hf4 _ ft))
end

section
open PySem PySem.W PySem.Calls PyProof.Rows Builtin
set_option Elab.async false
set_option maxRecDepth 100000
set_option maxHeartbeats 8000000
example : ∀ w : World, (hd.heap_39 w.params).In default → Challenge.rw_la0046_01.Holds → True := by k_fill; intros; trivial
noncomputable def isLeaf : Stmt → Bool
  | .FunctionDef (name := n) .. => n == Str.ofString "_law_leaf"
  | _ => false
noncomputable def leafDef : Stmt := (Challenge.rw_la0046_01.row.prog.main.body.find? isLeaf).getD (.Pass ⟨0,0,0,0⟩)
noncomputable def leafBody : List Stmt := match leafDef with | .FunctionDef (body := b) .. => b | _ => []
noncomputable def lamOf : Stmt → PySem.Expr
  | .Assign _ (.Lambda _ b _ _) _ => b
  | _ => .Name (Str.ofString "x") ⟨0,0,0,0⟩
noncomputable def lamScope : Stmt → Scope
  | .Assign _ (.Lambda _ _ sc _) _ => sc
  | _ => { kind := .module, names := [], isGenerator := false, isCoroutine := false, more := [] }
noncomputable def lamArgs : Stmt → Arguments
  | .Assign _ (.Lambda a _ _ _) _ => a
  | _ => { posonlyargs := [], args := [], vararg := none, kwonlyargs := [], kw_defaults := [], kwarg := none, defaults := [] }
example : True := by
  k_with_none
  trivial
theorem ints_snoc {k : Int} {u : Tok} : ∀ {vs : List Value} {ns : List Int}, IntsAre vs ns → IntsAre (vs ++ [.int k u]) (ns ++ [k])
  | _, _, .nil => .cons _ _ .nil
  | _, _, .cons n t h => .cons n t (ints_snoc h)
theorem mut_heard {h₀ h : Heap} {L : Addr} {news : List (Addr × Obj)} {Γ : Cfg} {σ σ' : St} {hv : List Value} {nH nH' : Nat} {k : Int} {u : Tok} (N : News h₀ L h news) (M : Mut Γ σ news) (hH : (Γ.aH, W.listOf hv.toArray nH) ∈ news) (hI : IntsAre hv σ.hs)
    (h1 : σ'.hs = σ.hs ++ [k]) (h2 : ∀ r ∈ Γ.maps, σ'.op r.place = σ.op r.place) : Mut Γ σ' (reLed Γ.aH (W.listOf (hv ++ [Value.int k u]).toArray nH') news) := by
  obtain ⟨_, hm, hp, hb⟩ := M
  refine ⟨⟨_, _, .head _, h1 ▸ ints_snoc hI⟩, fun r hr => ?_, hp, hb⟩
  obtain ⟨hx, o, ho, hd⟩ := hm r hr
  obtain ⟨es, n, rfl, _⟩ := id hd
  refine ⟨reLed_old hx (news_ne N hx hH (by intro e; cases e)), _, reLed_old ho (news_ne N ho hH (by show Value.type "dict" ≠ Value.type "list"; decide)), ?_⟩
  rw [h2 r hr]; exact hd
theorem stays_heard {Γ : Cfg} {news : List (Addr × Obj)} {o' : Obj} : Stays Γ news (reLed Γ.aH o' news) := fun _ hp ho => reLed_old hp ho.1
local macro_rules | `(tactic| k_get) => `(tactic| assumption)
example : True := by
  k_with "eval Name" => ((k_here; k_dflt (refine' nameX_F ?N ?c ?m ?d ?_ ?a ?b; (case a => rfl); (case b => rfl); (case N => k_asm); (case c => rfl); (case m => assumption); (case d => k_asm); k_whole)))
  trivial
example : True := by
  k_with "call builtin:list.append" => (refine stop_of ?_)
  trivial
theorem leaf_close {w : World} {p : Program} {loose : List Str} {mean : ExcName → Option Value} {mg mb : Str → Option Value} {aH x dx f c' ch cp : Addr} {maps : List Rec} {es : List DictEntry} {n : Nat} {qual : Str} {pm ctv : Value} {oc oh op : Obj} {vs : Array Value} {tq u : Tok} {i : Int}
    (hi3 : i < 3) (hget : getL (Str.ofString "close") es = some (some (.ref f))) (hoc : oc.data = .fields vs) (hq : vs[1]? = some (.str qual tq)) (hoh : oh.data = .cell (some (.ref aH))) (hop : op.data = .cell (some (.int i u))) {ar : Arguments} {bd : PySem.Expr} {sc : Scope} (har : ar = lamArgs (stmtAt leafBody 1)) (hbd : bd = lamOf (stmtAt leafBody 1)) (hsc : sc = lamScope (stmtAt leafBody 1)) :
    Acts w p loose mean mg mb ⟨aH, maps⟩ (Str.ofString "close") (.ref x) 10 1 (fun news' => ∀ q ∈ [(x, instObj 399 dx), (dx, dictOf es n), (f, kla_obj (Str.ofString "<lambda>") qual ar bd sc [(Str.ofString "place", cp), (Str.ofString "heard", ch)] pm c' ctv), (c', oc), (ch, oh), (cp, op)], q ∈ news') (fun σ => σ.close [i]) := by
  subst har; subst hbd; subst hsc
  conv in lamScope (stmtAt leafBody 1) => whnf
  conv in lamOf (stmtAt leafBody 1) => whnf
  conv in lamArgs (stmtAt leafBody 1) => whnf
  intro A env outer A₀ base h₀ L m news s σ pos pl Q E hh hA hf hk hdp B F X N T hpre M hsz ret
  rcases A with ⟨ah, dp, afr, gd, un⟩
  dsimp only at hh hA hdp
  subst hh
  subst hA
  have hx := hpre _ (.head _)
  have hd' := hpre _ (.tail _ (.head _))
  have hfn := hpre _ (.tail _ (.tail _ (.head _)))
  have hcc := hpre _ (.tail _ (.tail _ (.tail _ (.head _))))
  have hch := hpre _ (.tail _ (.tail _ (.tail _ (.tail _ (.head _)))))
  have hcp := hpre _ (.tail _ (.tail _ (.tail _ (.tail _ (.tail _ (.head _))))))
  obtain ⟨⟨hv, nH, hH, hI⟩, _⟩ := id M
  have hlen := IntsAre.length hI
  refine method_usual (C := 399) (X.keeps F.keep) (InstAt.of_news N hx hd') (by k_is) (by k_is) (by k_is) (by rfl) ?_
  refine get_own F X (InstAt.of_news N hx hd') (by k_is) (by k_is) (by k_is) (by rfl) hget (by rfl) ?_
  dsimp only
  refine callWith_F0 (FnAt.of N hfn) ?_
  dsimp only [List.nil_append]
  refine wpAny_call ?_
  refine' kla_code B F X N T rfl hf hk hfn ?k7 ?k8 ?k9 ?kB ?_ ?c2 ?c3 ?c4 ?c5
  (case k7 => exact codeRec_news N hcc hoc hq)
  (case k8 => dsimp only; lia)
  (case k9 => exact rfl)
  (case c5 => decide)
  (case kB => exact locs rfl)
  (case c2 => exact rfl)
  (case c3 => exact rfl)
  (case c4 => exact rfl)
  intro g' L' h' FG' F' N' B' X' T'
  dsimp only
  clear F
  k_fold
  k_steps
  refine of_stop (append_K F' (News.perm N' (reLed_pre hH)) reLed_upd ?_ (by rw [sizeLine_eq, List.size_toArray, hlen]; lia))
  intro h2' F2 N2
  k_steps
  rename News h₀ L _ _ => N4
  rw [List.push_toArray] at N4
  refine ret _ _ _ (by assumption) N4 stays_heard (mut_heard N M hH hI ?_ ?_)
  · show σ.hs ++ lowOf [i] = _
    have : lowOf [i] = [i] := by simp [lowOf, hi3]
    rw [this]
  · intro r hr
    have hb := M.2.2.2 r hr
    have : r.place ≠ i := by lia
    simp [St.close, this]
theorem leaf_cleanup {w : World} {p : Program} {loose : List Str} {mean : ExcName → Option Value} {mg mb : Str → Option Value} {aH x dx f c' ch cp : Addr} {maps : List Rec} {es : List DictEntry} {n : Nat} {qual : Str} {pm ctv : Value} {oc oh op : Obj} {vs : Array Value} {tq u : Tok} {i : Int}
    (hget : getL (Str.ofString "cleanup") es = some (some (.ref f))) (hoc : oc.data = .fields vs) (hq : vs[1]? = some (.str qual tq)) (hoh : oh.data = .cell (some (.ref aH))) (hop : op.data = .cell (some (.int i u))) {ar : Arguments} {bd : PySem.Expr} {sc : Scope} (har : ar = lamArgs (stmtAt leafBody 2)) (hbd : bd = lamOf (stmtAt leafBody 2)) (hsc : sc = lamScope (stmtAt leafBody 2)) :
    Acts w p loose mean mg mb ⟨aH, maps⟩ (Str.ofString "cleanup") (.ref x) 10 1 (fun news' => ∀ q ∈ [(x, instObj 399 dx), (dx, dictOf es n), (f, kla_obj (Str.ofString "<lambda>") qual ar bd sc [(Str.ofString "place", cp), (Str.ofString "heard", ch)] pm c' ctv), (c', oc), (ch, oh), (cp, op)], q ∈ news') (fun σ => σ.clean [-i]) := by
  subst har; subst hbd; subst hsc
  conv in lamScope (stmtAt leafBody 2) => whnf
  conv in lamOf (stmtAt leafBody 2) => whnf
  conv in lamArgs (stmtAt leafBody 2) => whnf
  intro A env outer A₀ base h₀ L m news s σ pos pl Q E hh hA hf hk hdp B F X N T hpre M hsz ret
  rcases A with ⟨ah, dp, afr, gd, un⟩
  dsimp only at hh hA hdp
  subst hh
  subst hA
  have hx := hpre _ (.head _)
  have hd' := hpre _ (.tail _ (.head _))
  have hfn := hpre _ (.tail _ (.tail _ (.head _)))
  have hcc := hpre _ (.tail _ (.tail _ (.tail _ (.head _))))
  have hch := hpre _ (.tail _ (.tail _ (.tail _ (.tail _ (.head _)))))
  have hcp := hpre _ (.tail _ (.tail _ (.tail _ (.tail _ (.tail _ (.head _))))))
  obtain ⟨⟨hv, nH, hH, hI⟩, _⟩ := id M
  have hlen := IntsAre.length hI
  refine method_usual (C := 399) (X.keeps F.keep) (InstAt.of_news N hx hd') (by k_is) (by k_is) (by k_is) (by rfl) ?_
  refine get_own F X (InstAt.of_news N hx hd') (by k_is) (by k_is) (by k_is) (by rfl) hget (by rfl) ?_
  dsimp only
  refine callWith_F0 (FnAt.of N hfn) ?_
  dsimp only [List.nil_append]
  refine wpAny_call ?_
  refine' kla_code B F X N T rfl hf hk hfn ?k7 ?k8 ?k9 ?kB ?_ ?c2 ?c3 ?c4 ?c5
  (case k7 => exact codeRec_news N hcc hoc hq)
  (case k8 => dsimp only; lia)
  (case k9 => exact rfl)
  (case c5 => decide)
  (case kB => exact locs rfl)
  (case c2 => exact rfl)
  (case c3 => exact rfl)
  (case c4 => exact rfl)
  intro g' L' h' FG' F' N' B' X' T'
  dsimp only
  clear F
  k_fold
  k_steps
  refine of_stop (append_K F' (News.perm N' (reLed_pre hH)) reLed_upd ?_ (by rw [sizeLine_eq, List.size_toArray, hlen]; lia))
  intro h2' F2 N2
  k_steps
  rename News h₀ L _ _ => N4
  rw [List.push_toArray] at N4
  refine ret _ _ _ (by assumption) N4 stays_heard (mut_heard N M hH hI rfl fun _ _ => rfl)
end

section
open PySem PySem.W PySem.Calls PyProof.Rows Builtin
set_option Elab.async false
set_option maxRecDepth 100000
set_option maxHeartbeats 8000000
example : ∀ w : World, (hd.heap_39 w.params).In default → Challenge.rw_la0046_01.Holds → True := by k_fill; intros; trivial
example : True := by
  k_with_none
  k_with "getMethod str" => ((k_here; with_reducible refine meth_enc ?_))
  trivial
example : True := by
  k_with "call builtin:str.encode" => ((k_here; first | (refine call_enc (enc_leaf _ _) (by decide) ?_) | (refine call_enc (enc_nil _ _) (by decide) ?_)))
  trivial
local macro_rules | `(tactic| k_lt $h:ident) => `(tactic| (have kRaw := $h; replace $h := allLt_of $h; simp only [AllLt, and_true] at $h:ident))
local macro_rules | `(tactic| k_all) => `(tactic| (intro q hq; exact Nat.ne_of_lt (lt_raw (by assumption) (by k_ownIn))))
local macro_rules | `(tactic| k_allIn) => `(tactic| (intro p hp; k_ownIn))
noncomputable def metaD (w : World) (t1 t2 t3 t4 t5 : Tok) (d : Addr) : List DictEntry :=
  [{ hash := PyData.keyHash w.params (Str.ofString "user"), key := .str (Str.ofString "user") t1, val := .bytes #[108, 101, 97, 102] t2 }, { hash := PyData.keyHash w.params (Str.ofString "description"), key := .str (Str.ofString "description") t3, val := .bytes #[] t4 },
    { hash := PyData.keyHash w.params (Str.ofString "extension"), key := .str (Str.ofString "extension") t5, val := .ref d }]
theorem mk_meta {w : World} {p : Program} {loose : List Str} {mean : ExcName → Option Value} {mg mb : Str → Option Value} {A : Around} {env : Env} {outer : List Env} {A₀ : Around} {base h₀ : Heap} {L : Addr} {m : Str → Option Value} {news : List (Addr × Obj)} {s : Shared} {t : Tok} {Q E : Value → Shared → Prop}
    (hh : A.handled = none) (hA : A.frames = some (env :: outer)) (hf : env.frame = some L) (hk : env.scope.kind = .function) (hdp : A.depth + 5 < recursionLimit)
    (B : Below A₀ base outer h₀) (F : Fr h₀ L s.heap m) (X : (hd.heap_39 w.params).In h₀) (N : News h₀ L s.heap news) (T : Top p loose mean mg mb h₀)
    (ret : ∀ {x dx d : Addr} {o : Obj} {t1 t2 t3 t4 t5 : Tok} {h' : Heap} {tk' : Nat}, Fr h₀ L h' m → News h₀ L h' ((d, o) :: (x, instObj 399 dx) :: (dx, dictOf (metaD w t1 t2 t3 t4 t5 d) 3) :: news) → (∀ q ∈ news, q.1 < dx) → @LT.lt Nat _ dx x → @LT.lt Nat _ x d → Q (.ref x) { s with heap := h', toks := tk' }) :
    wpAny (model Challenge.rw_la0046_01.row.prog w) A (call (.ref 399) ([.str (Str.ofString "leaf") t] ++ [])) Q E s := by
  rcases A with ⟨ah, dp, afr, gd, un⟩
  dsimp only at hh hA hdp
  subst hh
  subst hA
  refine' call_cls F X N ?k4 ?k5 ?k6 ?_; (case k4 => k_is); (case k5 => k_is); (case k6 => k_is)
  intro x dx h1 F1 N1 l1 l2
  k_dflt (refine' code_def B F1 X N1 T rfl hf hk ?k6 ?k7 ?k8 ?k9 ?kB ?_ ?c2 ?c3 ?c4 ?c5; (case k6 => k_is); (case k7 => k_is); (case k8 => ktr_room); (case k9 => exact binds_K (by k_in) rfl (by k_is) rfl rfl rfl); (case c5 => decide); (case kB => exact locs rfl); (case c2 => exact rfl); (case c3 => exact rfl); (case c4 => exact rfl); k_whole)
  intro g' L' h2 FG' F' N' B' X' T'
  dsimp only
  k_fold
  replace l2 := ltN l2
  have m1 := l1
  k_steps
  rename Fr h₀ _ _ _ => Fz
  rename News h₀ _ _ _ => Nz
  rename _ ∧ _ ∧ AllLt _ _ => lz
  exact ret Fz Nz m1 l2 lz.1
end

section
open PySem PySem.W PySem.Calls PyProof.Rows Builtin
set_option Elab.async false
set_option maxRecDepth 100000
set_option maxHeartbeats 8000000
theorem Acts.pre {w : World} {p : Program} {loose : List Str} {mean : ExcName → Option Value} {mg mb : Str → Option Value} {Γ : Cfg} {name : Str} {v : Value} {d c : Nat} {Pre Pre' : List (Addr × Obj) → Prop} {eff : St → St} {res : St → Value}
    (h : Acts w p loose mean mg mb Γ name v d c Pre eff res) (k : ∀ G, Pre' G → Pre G) : Acts w p loose mean mg mb Γ name v d c Pre' eff res :=
  fun A env outer A₀ base h₀ L m news s σ pos pl Q E hh hA hf hk hdp B F X N T hp M hs ret => h A env outer A₀ base h₀ L m news s σ pos pl Q E hh hA hf hk hdp B F X N T (k _ hp) M hs ret
section
open Classical in
noncomputable def safeOf (L : Addr) (G : List (Addr × Obj)) : List (Addr × Obj) := G.filter fun q => decide (Safe L q)
theorem safe_in {L : Addr} {G : List (Addr × Obj)} {q : Addr × Obj} (h : q ∈ G) (hs : Safe L q) : q ∈ safeOf L G := by
  unfold safeOf
  rw [List.mem_filter]
  exact ⟨h, by simpa using hs⟩
theorem of_safe {L : Addr} {G : List (Addr × Obj)} {q : Addr × Obj} (h : q ∈ safeOf L G) : q ∈ G ∧ Safe L q := by
  unfold safeOf at h
  rw [List.mem_filter] at h
  exact ⟨h.1, by simpa using h.2⟩
end
theorem cold_dict {es : List DictEntry} {n : Nat} (h : getL (Str.ofString "_opened") es = some none) : Cold (dictOf es n) :=
  ⟨.inl (by show Value.type "dict" ≠ Value.type "list"; decide), fun b ⟨es1, n1, e, h1, _⟩ => by rw [← dictOf_inj e, h] at h1; cases h1⟩
theorem cold_data {o : Obj} (h : ∀ its n, o.data ≠ .seq its n) (k : ∀ es n, o.data ≠ (dictOf es n).data) : Cold o :=
  ⟨.inr h, fun b ⟨es1, n1, e, _⟩ => k es1 n1 (by rw [e])⟩
theorem leaf_bears {w : World} {p : Program} {loose : List Str} {mean : ExcName → Option Value} {mg mb : Str → Option Value} {L aH x dx f f2 c' c2 ch cp : Addr} {G : List (Addr × Obj)} {es : List DictEntry} {n : Nat} {qual : Str} {pm ctv ctv2 : Value} {oc oc2 oh op : Obj} {vs vs2 : Array Value} {tq tq2 u : Tok} {i : Int}
    {ar ar2 : Arguments} {bd bd2 : PySem.Expr} {sc sc2 : Scope}
    (gx : (x, instObj 399 dx) ∈ G) (gd : (dx, dictOf es n) ∈ G) (gf : (f, kla_obj (Str.ofString "<lambda>") qual ar bd sc [(Str.ofString "place", cp), (Str.ofString "heard", ch)] pm c' ctv) ∈ G) (gc : (c', oc) ∈ G)
    (gf2 : (f2, kla_obj (Str.ofString "<lambda>") qual ar2 bd2 sc2 [(Str.ofString "place", cp), (Str.ofString "heard", ch)] pm c2 ctv2) ∈ G) (gc2 : (c2, oc2) ∈ G) (gh : (ch, oh) ∈ G) (gp : (cp, op) ∈ G)
    (hi3 : i < 3) (h0 : getL (Str.ofString "_opened") es = some none) (h1 : getL (Str.ofString "close") es = some (some (.ref f))) (h2 : getL (Str.ofString "cleanup") es = some (some (.ref f2)))
    (hoc : oc.data = .fields vs) (hq : vs[1]? = some (.str qual tq)) (hoc2 : oc2.data = .fields vs2) (hq2 : vs2[1]? = some (.str qual tq2)) (hoh : oh.data = .cell (some (.ref aH))) (hop : op.data = .cell (some (.int i u)))
    (har : ar = lamArgs (stmtAt leafBody 1)) (hbd : bd = lamOf (stmtAt leafBody 1)) (hsc : sc = lamScope (stmtAt leafBody 1))
    (har2 : ar2 = lamArgs (stmtAt leafBody 2)) (hbd2 : bd2 = lamOf (stmtAt leafBody 2)) (hsc2 : sc2 = lamScope (stmtAt leafBody 2))
    (ox : @LT.lt Nat _ (L + 1 + 1 + 1 + 1 + 1) x) (od : @LT.lt Nat _ (L + 1 + 1 + 1 + 1 + 1) dx) (of : @LT.lt Nat _ (L + 1 + 1 + 1 + 1 + 1) f) (of2 : @LT.lt Nat _ (L + 1 + 1 + 1 + 1 + 1) f2) (oc' : @LT.lt Nat _ (L + 1 + 1 + 1 + 1 + 1) c') (oc2' : @LT.lt Nat _ (L + 1 + 1 + 1 + 1 + 1) c2)
    (oh' : @LT.lt Nat _ (L + 1 + 1 + 1 + 1 + 1) ch) (op' : @LT.lt Nat _ (L + 1 + 1 + 1 + 1 + 1) cp) :
    ∀ maps, Bears w p loose mean mg mb aH maps (safeOf L G) (.ref x) (.leaf i) := fun maps => by
  have cx : Cold (instObj 399 dx) := cold_inst
  have cd : Cold (dictOf es n) := cold_dict h0
  have fn : ∀ {qual : Str} {ar : Arguments} {bd : PySem.Expr} {sc : Scope} {pm : Value} {c' : Addr} {ctv : Value}, Cold (kla_obj (Str.ofString "<lambda>") qual ar bd sc [(Str.ofString "place", cp), (Str.ofString "heard", ch)] pm c' ctv) := cold_data (fun _ _ e => nomatch e) (fun _ _ e => nomatch e)
  have fl : ∀ {o : Obj} {vs : Array Value}, o.data = .fields vs → Cold o := fun h => cold_data (fun _ _ e => by rw [h] at e; cases e) (fun _ _ e => by rw [h] at e; cases e)
  have cl : ∀ {o : Obj} {v : Value}, o.data = .cell (some v) → Cold o := fun h => cold_data (fun _ _ e => by rw [h] at e; cases e) (fun _ _ e => by rw [h] at e; cases e)
  refine .leaf [(x, instObj 399 dx), (dx, dictOf es n), (f, kla_obj (Str.ofString "<lambda>") qual ar bd sc [(Str.ofString "place", cp), (Str.ofString "heard", ch)] pm c' ctv), (c', oc), (ch, oh), (cp, op), (f2, kla_obj (Str.ofString "<lambda>") qual ar2 bd2 sc2 [(Str.ofString "place", cp), (Str.ofString "heard", ch)] pm c2 ctv2), (c2, oc2)] ?_ ?_ ?_ ?_
  · exact in_cons (safe_in gx ⟨ox, cx.1⟩) (in_cons (safe_in gd ⟨od, cd.1⟩) (in_cons (safe_in gf ⟨of, fn.1⟩) (in_cons (safe_in gc ⟨oc', (fl hoc).1⟩) (in_cons (safe_in gh ⟨oh', (cl hoh).1⟩) (in_cons (safe_in gp ⟨op', (cl hop).1⟩) (in_cons (safe_in gf2 ⟨of2, fn.1⟩) (in_cons (safe_in gc2 ⟨oc2', (fl hoc2).1⟩) in_nil)))))))
  · intro q hq
    simp only [List.mem_cons, List.not_mem_nil, or_false] at hq
    rcases hq with rfl | rfl | rfl | rfl | rfl | rfl | rfl | rfl
    · exact cx
    · exact cd
    · exact fn
    · exact fl hoc
    · exact cl hoh
    · exact cl hop
    · exact fn
    · exact fl hoc2
  · intro maps'
    refine (leaf_close hi3 h1 hoc hq hoh hop har hbd hsc (n := n) (pm := pm) (ctv := ctv) (dx := dx) (c' := c') (ch := ch) (cp := cp)).pre fun G' hG => ?_
    exact in_cons (hG _ (.head _)) (in_cons (hG _ (.tail _ (.head _))) (in_cons (hG _ (.tail _ (.tail _ (.head _)))) (in_cons (hG _ (.tail _ (.tail _ (.tail _ (.head _))))) (in_cons (hG _ (.tail _ (.tail _ (.tail _ (.tail _ (.head _)))))) (in_cons (hG _ (.tail _ (.tail _ (.tail _ (.tail _ (.tail _ (.head _))))))) in_nil)))))
  · intro maps'
    refine (leaf_cleanup h2 hoc2 hq2 hoh hop har2 hbd2 hsc2 (n := n) (pm := pm) (ctv := ctv2) (dx := dx) (c' := c2) (ch := ch) (cp := cp)).pre fun G' hG => ?_
    exact in_cons (hG _ (.head _)) (in_cons (hG _ (.tail _ (.head _))) (in_cons (hG _ (.tail _ (.tail _ (.tail _ (.tail _ (.tail _ (.tail _ (.head _)))))))) (in_cons (hG _ (.tail _ (.tail _ (.tail _ (.tail _ (.tail _ (.tail _ (.tail _ (.head _))))))))) (in_cons (hG _ (.tail _ (.tail _ (.tail _ (.tail _ (.head _)))))) (in_cons (hG _ (.tail _ (.tail _ (.tail _ (.tail _ (.tail _ (.head _))))))) in_nil)))))
theorem tailM {w : World} {p : Program} {loose : List Str} {mean : ExcName → Option Value} {mg mb : Str → Option Value} {h₀ : Heap} {L fa : Addr} {cd : Value} {s : Shared} {lS aH aT aR aM aB l1 l2 ta : Addr} {nH nT nR nM nB : Nat} {oz og oe of ok to : Obj} {zz zg ze zf zk : Option Value} {tp : Array Value} {svs : List Value} {ns : List Int} {G : List (Addr × Obj)} {m : Str → Option Value} {P Q : Flow → Shared → Prop} {E : Value → Shared → Prop}
    {sc : Scope} {st : Stmt} {rest : List Stmt}
    (hsc : sc = lawScope) (hst : st = stmtAt lawBody 5) (hrest : rest = restBody)
    (X : (hd.heap_39 w.params).In h₀) (T : Top p loose mean mg mb h₀) (B : Below callerA h₀ [] h₀) (hS : h₀.IsList lS svs.toArray) (hI : IntsAre svs ns) (hlen : ns.length ≤ 63)
    (s0 : @LT.lt Nat _ (L + 1 + 1 + 1 + 1 + 1) aH) (s1 : @LT.lt Nat _ aH aT) (s2 : @LT.lt Nat _ aT aR) (s3 : @LT.lt Nat _ aR aM) (s4 : @LT.lt Nat _ aM aB)
    (hE : PassesOwn (model Challenge.rw_la0046_01.row.prog w) (callerA.deeper (envOfC (Str.ofString "law") sc L fa cd)) (envOfC (Str.ofString "law") sc L fa cd) E)
    (hl1 : ∀ maps, Bears w p loose mean mg mb aH maps (safeOf L G) (.ref l1) (.leaf 1)) (hl2 : ∀ maps, Bears w p loose mean mg mb aH maps (safeOf L G) (.ref l2) (.leaf 2))
    (F : Fr h₀ L s.heap m) (N : News h₀ L s.heap G) (ht : to = tabObj tp)
    (mB : m (Str.ofString "bases") = some (.ref aB)) (mM : m (Str.ofString "made") = some (.ref aM)) (mR : m (Str.ofString "rows") = some (.ref aR)) (mT : m (Str.ofString "things") = some (.ref aT)) (mH : m (Str.ofString "heard") = some (.ref aH)) (mS : m (Str.ofString "script") = some (.ref lS))
    (gB : (aB, W.listOf (List.toArray []) nB) ∈ G) (gM : (aM, W.listOf (List.toArray []) nM) ∈ G) (gR : (aR, W.listOf (List.toArray []) nR) ∈ G) (gT : (aT, W.listOf (List.toArray [.none, .ref l1, .ref l2]) nT) ∈ G) (gH : (aH, W.listOf (List.toArray []) nH) ∈ G)
    (gz : (L + 1 + 1 + 1 + 1 + 1, oz) ∈ G) (gg : (L + 1 + 1 + 1 + 1, og) ∈ G) (ge : (L + 1 + 1 + 1, oe) ∈ G) (gf : (L + 1 + 1, of) ∈ G) (gk : (L + 1, ok) ∈ G) (gt : (ta, to) ∈ G)
    (dz : oz.data = .cell zz) (dg : og.data = .cell zg) (de : oe.data = .cell ze) (df : of.data = .cell zf) (dk : ok.data = .cell zk)
    (hP : ∀ s', wpAny (model Challenge.rw_la0046_01.row.prog w) (callerA.deeper (envOfC (Str.ofString "law") sc L fa cd)) (execs rest (envOfC (Str.ofString "law") sc L fa cd)) Q E s' → P .next s') (hP2 : ∀ f s', f ≠ .next → Q f s' → P f s')
    (ret : ∀ {h' : Heap} {tk' : Nat} {m' : Str → Option Value} {G' : List (Addr × Obj)}, Fr h₀ L h' m' → News h₀ L h' G' → (ta, to) ∈ G' → Q (.ret (.bool true)) { s with heap := h', toks := tk' }) :
    wpAny (model Challenge.rw_la0046_01.row.prog w) (callerA.deeper (envOfC (Str.ofString "law") sc L fa cd)) (exec st (envOfC (Str.ofString "law") sc L fa cd)) P E s := by
  subst hsc hst hrest
  refine wpAny_mono (tail (own₀ := safeOf L G) (nH := nH) X T B hS hI hlen s0 s1 s2 s3 s4 hE hl1 hl2 F N dz ht ?_ ret) (fun f s' h => ?_) (fun _ _ h => h)
  · refine ⟨[], [], [], [], nB, nM, nR, nT, og, oe, of, ok, zg, ze, zf, zk, safeOf L G, ⟨mB, mM, mR, mT, mH, mS⟩, ⟨gB, gM, gR, gT⟩, ⟨gg, ge, gf, gk⟩, ⟨dg, de, df, dk⟩, in_cons gH (in_cons gz (in_cons gt in_nil)), fun _ h => h, fun _ h => (of_safe h).1, fun _ h => (of_safe h).2, rfl, rfl, fun k d h => by simp at h, ?_, ?_, Nat.zero_le _⟩
    · exact ⟨(fun r h => by cases h), .nil⟩
    · exact trivial
  · cases f with
    | next => exact hP _ h
    | brk => exact hP2 _ _ (fun e => nomatch e) h
    | cont => exact hP2 _ _ (fun e => nomatch e) h
    | ret v => exact hP2 _ _ (fun e => nomatch e) h
end

section
open PySem PySem.W PySem.Calls PyProof.Rows Builtin
set_option Elab.async false
set_option maxRecDepth 100000
set_option maxHeartbeats 8000000
example : True := by
  k_with_none
  k_with "call ref" => (((with_reducible show wpAny _ _ (call (Value.ref 399) _ _) _ _ _); k_dflt (refine' mk_meta rfl rfl rfl rfl ?d ?B ?F ?X ?N ?T ?_; (case d => ktr_room); (case B => k_asm); (case F => k_asm); (case X => k_asm); (case N => k_asm); (case T => k_asm)); intro zzx' zzdx' zzd' zzo' zzt1' zzt2' zzt3' zzt4' zzt5' zzh' zztk' zzF' zzN' zzl1 zzl2 zzl3; (try k_lt zzl1); (dsimp only [metaD] at zzN')))
  trivial
example : True := by
  k_with "exec For Name Call cons nil" => ((refine stop_of ?_))
  trivial
theorem holds : PySem.Challenge.rw_la0046_01.Holds := by
  refine hd ?_
  k_go0; (all_goals try k_fold)
  k_steps
  refine of_stop ?_
  rename Fr _ _ _ _ => F1
  rename News _ _ _ _ => N1
  rename (hd.heap_39 _).In _ => X1
  rename Top _ _ _ _ _ _ => T1
  rename Below callerA _ [] _ => B1
  rename (ghostOf _ _).IsList _ _ => hS
  rename IntsAre _ _ => hI
  refine' tailM (G := _) ?hsc ?hst ?hrest X1 T1 B1 hS hI ?hlen ?s0 ?s1 ?s2 ?s3 ?s4 ?hE ?hl1 ?hl2 F1 N1 ?ht ?mB ?mM ?mR ?mT ?mH ?mS (List.mem_of_getElem? (i := 0) rfl) (List.mem_of_getElem? (i := 1) rfl) (List.mem_of_getElem? (i := 2) rfl) (List.mem_of_getElem? (i := 3) rfl) (List.mem_of_getElem? (i := 20) rfl) (List.mem_of_getElem? (i := 21) rfl) (List.mem_of_getElem? (i := 22) rfl) (List.mem_of_getElem? (i := 23) rfl) (List.mem_of_getElem? (i := 24) rfl) (List.mem_of_getElem? (i := 25) rfl) (List.mem_of_getElem? (i := 26) rfl)
    (by with_unfolding_all assumption) (by with_unfolding_all assumption) (by with_unfolding_all assumption) (by with_unfolding_all assumption) (by with_unfolding_all assumption) (fun _ h => h) ?hP2 ?ret
  case hsc => kernel_rfl
  case hst => kernel_rfl
  case hrest => kernel_rfl
  case hlen => omega
  case s0 => omega
  case s1 => omega
  case s2 => omega
  case s3 => omega
  case s4 => omega
  case hE => passes_own
  case ht => rfl
  case mB => rfl
  case mM => rfl
  case mR => rfl
  case mT => rfl
  case mH => rfl
  case mS => rfl
  case hP2 => intro f s' hf h; cases f <;> first | exact absurd rfl hf | exact h
  case hl1 => exact leaf_bears (List.mem_of_getElem? (i := 16) rfl) (List.mem_of_getElem? (i := 17) rfl) (List.mem_of_getElem? (i := 13) rfl) (List.mem_of_getElem? (i := 14) rfl) (List.mem_of_getElem? (i := 11) rfl) (List.mem_of_getElem? (i := 12) rfl) (List.mem_of_getElem? (i := 18) rfl) (List.mem_of_getElem? (i := 19) rfl) (by decide) (by rfl) (by rfl) (by rfl) (by with_unfolding_all assumption) (by with_unfolding_all assumption) (by with_unfolding_all assumption) (by with_unfolding_all assumption) (by with_unfolding_all assumption) (by with_unfolding_all assumption) (by kernel_rfl) (by kernel_rfl) (by kernel_rfl) (by kernel_rfl) (by kernel_rfl) (by kernel_rfl) (by omega) (by omega) (by omega) (by omega) (by omega) (by omega) (by omega) (by omega)
  case hl2 => exact leaf_bears (List.mem_of_getElem? (i := 7) rfl) (List.mem_of_getElem? (i := 8) rfl) (List.mem_of_getElem? (i := 5) rfl) (List.mem_of_getElem? (i := 14) rfl) (List.mem_of_getElem? (i := 4) rfl) (List.mem_of_getElem? (i := 12) rfl) (List.mem_of_getElem? (i := 9) rfl) (List.mem_of_getElem? (i := 10) rfl) (by decide) (by rfl) (by rfl) (by rfl) (by with_unfolding_all assumption) (by with_unfolding_all assumption) (by with_unfolding_all assumption) (by with_unfolding_all assumption) (by with_unfolding_all assumption) (by with_unfolding_all assumption) (by kernel_rfl) (by kernel_rfl) (by kernel_rfl) (by kernel_rfl) (by kernel_rfl) (by kernel_rfl) (by omega) (by omega) (by omega) (by omega) (by omega) (by omega) (by omega) (by omega)
  case ret =>
    intro h' tk' m' G' F' N' hta
    refine ⟨?g, GrownAt.of N' hta, True.intro⟩
    k_steps
end

end Mine
set_option maxRecDepth 100000 in
set_option maxHeartbeats 8000000 in
theorem PySem.Challenge.cw_la0046_01_holds : PySem.Challenge.rw_la0046_01.Holds := by
  exact Mine.holds
