import PyProof.Rows.All
import Wide.All
import OpenK.AllK
import Wide.FinOn
import PySem.Challenge.RW_jm0050_01
open PySem PySem.W PyProof.Rows
set_option Elab.async false
set_option rowWalk.seconds 0
set_option maxRecDepth 100000
set_option maxHeartbeats 8000000
namespace Mine
-- part JA
/-! the head. Its twins of the large tables (the library's own congruence proofs) would make the compiled file 48 MB: their names are taken, so that they are left out (8 MB) -/
def tiny : Str := Str.ofString "a"
theorem tiny_eq : tiny = tiny := rfl
name_quick tw13644967317610210180 for tiny by tiny_eq
name_quick tw8046428333131317782 for tiny by tiny_eq
name_quick tw5648365089029836997 for tiny by tiny_eq
name_quick tw5053286283802260062 for tiny by tiny_eq
name_quick tw91745854970519851 for tiny by tiny_eq
name_quick tw9846979006405998758 for tiny by tiny_eq
name_quick tw11039982909365457474 for tiny by tiny_eq
name_quick tw3842499565281636097 for tiny by tiny_eq
name_quick tw6871332797003602673 for tiny by tiny_eq
name_quick tw991762244170817979 for tiny by tiny_eq
name_quick tw5014498984703893071 for tiny by tiny_eq
name_quick tw17711665794430913416 for tiny by tiny_eq
name_quick tw2787203994750327776 for tiny by tiny_eq
name_quick tw11950746460896010383 for tiny by tiny_eq
name_quick tw10507381489520072443 for tiny by tiny_eq
name_quick tw11555913686565405377 for tiny by tiny_eq
name_quick tw9935789471918832997 for tiny by tiny_eq
name_quick tw5316099549190599629 for tiny by tiny_eq
name_quick tw8588349961266375008 for tiny by tiny_eq
name_quick tw574595731603822890 for tiny by tiny_eq
name_quick tw9411631526144854193 for tiny by tiny_eq
name_quick tw5149253581943688334 for tiny by tiny_eq
name_quick tw16544615213558885390 for tiny by tiny_eq
name_quick tw3811951470641220188 for tiny by tiny_eq
name_quick tw8922087195651950008 for tiny by tiny_eq
name_quick tw15650526019399987606 for tiny by tiny_eq
name_quick tw4522195979858024750 for tiny by tiny_eq
name_quick tw18298770857413335567 for tiny by tiny_eq
name_quick tw1620942036584292796 for tiny by tiny_eq
name_quick tw2409541865893933086 for tiny by tiny_eq
name_quick tw14789654413854641363 for tiny by tiny_eq
name_quick tw2753183056886766183 for tiny by tiny_eq
name_quick tw13874360660043525563 for tiny by tiny_eq
name_quick tw16473646477487232981 for tiny by tiny_eq
name_quick tw606524479310877958 for tiny by tiny_eq
name_quick tw1453187283813637995 for tiny by tiny_eq
name_quick tw11239971478714228196 for tiny by tiny_eq
name_quick tw641432561648180711 for tiny by tiny_eq
name_quick tw6068921953312553933 for tiny by tiny_eq
name_quick tw16687441889238845935 for tiny by tiny_eq
name_quick tw8913383070916934525 for tiny by tiny_eq
name_quick tw508031395042560437 for tiny by tiny_eq
name_quick tw9968504445252891157 for tiny by tiny_eq
name_quick tw5330597560948908831 for tiny by tiny_eq
name_quick tw11398446607633802948 for tiny by tiny_eq
name_quick tw3983452272965371191 for tiny by tiny_eq
name_quick tw8384363919654729340 for tiny by tiny_eq
name_quick tw2468964694744815684 for tiny by tiny_eq
name_quick tw13395730031839554247 for tiny by tiny_eq
name_quick tw2486115212739488813 for tiny by tiny_eq
name_quick tw14275338181364600218 for tiny by tiny_eq
name_quick tw5612059476629439064 for tiny by tiny_eq
name_quick tw14282101682336622149 for tiny by tiny_eq
name_quick tw1775865390970079537 for tiny by tiny_eq
name_quick tw1094084484568280549 for tiny by tiny_eq
name_quick tw775583219052142962 for tiny by tiny_eq
name_quick tw2798939887189416458 for tiny by tiny_eq
name_quick tw3390296755258880898 for tiny by tiny_eq
name_quick tw8691934647376204858 for tiny by tiny_eq
name_quick tw382481959569907498 for tiny by tiny_eq
name_quick tw18380318915870238032 for tiny by tiny_eq
name_quick tw4210368062254319682 for tiny by tiny_eq
name_quick tw4302249931230209992 for tiny by tiny_eq
name_quick tw452812082248892372 for tiny by tiny_eq
name_quick tw17380332620615214413 for tiny by tiny_eq
name_quick tw16977867970775145851 for tiny by tiny_eq
name_quick tw5294507904365341 for tiny by tiny_eq
name_quick tw7358450005571978053 for tiny by tiny_eq
name_quick tw3277356175797162159 for tiny by tiny_eq
name_quick tw9931125409101860249 for tiny by tiny_eq
name_quick tw2454980011739184107 for tiny by tiny_eq
name_quick tw5273996164752478280 for tiny by tiny_eq
name_quick tw12159657536222917325 for tiny by tiny_eq
name_quick tw7109157343146289882 for tiny by tiny_eq
name_quick tw7287457958718388213 for tiny by tiny_eq
name_quick tw2729231729690008117 for tiny by tiny_eq
name_quick tw1183672496853382735 for tiny by tiny_eq
name_quick tw11111973384363172087 for tiny by tiny_eq
name_quick tw15580488345604184254 for tiny by tiny_eq
name_quick tw8302965242400810779 for tiny by tiny_eq
name_quick tw8123863198977478246 for tiny by tiny_eq
name_quick tw14049143930090855456 for tiny by tiny_eq
name_quick tw1146639496358593011 for tiny by tiny_eq
name_quick tw13981752205544012785 for tiny by tiny_eq
name_quick tw8000620744424296266 for tiny by tiny_eq
name_quick tw3069255385276393480 for tiny by tiny_eq
name_quick tw10157478552014977560 for tiny by tiny_eq
name_quick tw9005341740810035478 for tiny by tiny_eq
name_quick tw13691562609770937704 for tiny by tiny_eq
name_quick tw16032357095344348171 for tiny by tiny_eq
name_quick tw3339061845610557558 for tiny by tiny_eq
name_quick tw3047044877271880718 for tiny by tiny_eq
name_quick tw9403087764954736315 for tiny by tiny_eq
name_quick tw7841580209698099079 for tiny by tiny_eq
name_quick tw17472463236954121630 for tiny by tiny_eq
name_quick tw5282186094295566219 for tiny by tiny_eq
name_quick tw7992096989080929011 for tiny by tiny_eq
name_quick tw588083384715153282 for tiny by tiny_eq
name_quick tw10991114014048483881 for tiny by tiny_eq
name_quick tw9682097292313900681 for tiny by tiny_eq
name_quick tw11749650302377153380 for tiny by tiny_eq
name_quick tw2133733659136271361 for tiny by tiny_eq
name_quick tw1903755352803766393 for tiny by tiny_eq
name_quick tw13264483480074765366 for tiny by tiny_eq
name_quick tw16970521803586902672 for tiny by tiny_eq
name_quick tw4549264635362432922 for tiny by tiny_eq
name_quick tw11454884309896995340 for tiny by tiny_eq
name_quick tw11063587369821985114 for tiny by tiny_eq
name_quick tw15529907855090481048 for tiny by tiny_eq
name_quick tw5846730267101623273 for tiny by tiny_eq
name_quick tw2594125636175337662 for tiny by tiny_eq
name_quick tw684792373943506619 for tiny by tiny_eq
name_quick tw9979828085523756461 for tiny by tiny_eq
name_quick tw6226434605377998936 for tiny by tiny_eq
name_quick tw5397982130534290783 for tiny by tiny_eq
name_quick tw14425054116126429682 for tiny by tiny_eq
name_quick tw481797311338261308 for tiny by tiny_eq
name_quick tw10551004752477596707 for tiny by tiny_eq
name_quick tw4500940763699244141 for tiny by tiny_eq
name_quick tw11531142100339822498 for tiny by tiny_eq
name_quick tw13493213297741552694 for tiny by tiny_eq
name_quick tw11736863847044213896 for tiny by tiny_eq
name_quick tw12437549801236852799 for tiny by tiny_eq
name_quick tw7350676774984357120 for tiny by tiny_eq
name_quick tw16531210770047267931 for tiny by tiny_eq
name_quick tw7834509743639902756 for tiny by tiny_eq
name_quick tw13535545980664900205 for tiny by tiny_eq
name_quick tw13386904564349828512 for tiny by tiny_eq
name_quick tw10372934577850942149 for tiny by tiny_eq
name_quick tw13375862297620640377 for tiny by tiny_eq
name_quick tw9969079832954411081 for tiny by tiny_eq
name_quick tw5437299202374948082 for tiny by tiny_eq
name_quick tw3574495070392301295 for tiny by tiny_eq
name_quick tw9903386970904990518 for tiny by tiny_eq
name_quick tw1198150589453784209 for tiny by tiny_eq
name_quick tw10254433623405246555 for tiny by tiny_eq
name_quick tw9100611297550000030 for tiny by tiny_eq
name_quick tw10123950101331211456 for tiny by tiny_eq
name_quick tw12419627735573910445 for tiny by tiny_eq
name_quick tw17628948184443158594 for tiny by tiny_eq
name_quick tw116368364704903373 for tiny by tiny_eq
name_quick tw6736159423376219261 for tiny by tiny_eq
name_quick tw10044203105729562111 for tiny by tiny_eq
name_quick tw7822469052771407063 for tiny by tiny_eq
name_quick tw15319012651952051439 for tiny by tiny_eq
name_quick tw12032228106328265848 for tiny by tiny_eq
name_quick tw11730147626878825911 for tiny by tiny_eq
name_quick tw4091106638502067703 for tiny by tiny_eq
name_quick tw745867028531913451 for tiny by tiny_eq
name_quick tw10896702745292229727 for tiny by tiny_eq
name_quick tw5271661753635881197 for tiny by tiny_eq
name_quick tw505569792845645308 for tiny by tiny_eq
name_quick tw17177203335829059268 for tiny by tiny_eq
name_quick tw8240382865577290850 for tiny by tiny_eq
name_quick tw2434820131601927596 for tiny by tiny_eq
name_quick tw553549246165743792 for tiny by tiny_eq
name_quick tw8180361643310281665 for tiny by tiny_eq
name_quick tw11595894683854896546 for tiny by tiny_eq
name_quick tw13768418657359373462 for tiny by tiny_eq
name_quick tw4935822856360991910 for tiny by tiny_eq
name_quick tw10709252459138710932 for tiny by tiny_eq
name_quick tw6365262850644313309 for tiny by tiny_eq
name_quick tw5045307667782306055 for tiny by tiny_eq
name_quick tw8049229334020762559 for tiny by tiny_eq
name_quick tw9581023604901358085 for tiny by tiny_eq
name_quick tw18331915246650455838 for tiny by tiny_eq
name_quick tw13762435903996199213 for tiny by tiny_eq
name_quick tw8831491068870339601 for tiny by tiny_eq
name_quick tw17417520148865024950 for tiny by tiny_eq
name_quick tw16614007426463035156 for tiny by tiny_eq
name_quick tw2105075017285395862 for tiny by tiny_eq
name_quick tw11421550363004495537 for tiny by tiny_eq
name_quick tw12008493158661078951 for tiny by tiny_eq
name_quick tw14632488045542388680 for tiny by tiny_eq
name_quick tw2548927204208839767 for tiny by tiny_eq
name_quick tw2860428067371356440 for tiny by tiny_eq
name_quick tw14037681912999091847 for tiny by tiny_eq
name_quick tw9915797369806638895 for tiny by tiny_eq
name_quick tw3813113937809107915 for tiny by tiny_eq
name_quick tw7932883772221642983 for tiny by tiny_eq
name_quick tw2871492769797641319 for tiny by tiny_eq
name_quick tw5962733926243129833 for tiny by tiny_eq
name_quick tw14434143323901615208 for tiny by tiny_eq
name_quick tw6297351250573001400 for tiny by tiny_eq
name_quick tw2979450881635965686 for tiny by tiny_eq
name_quick tw7506752767393642523 for tiny by tiny_eq
name_quick tw11503622702212016626 for tiny by tiny_eq
name_quick tw1932556636401308347 for tiny by tiny_eq
name_quick tw9420941331715076880 for tiny by tiny_eq
name_quick tw11429526769718686998 for tiny by tiny_eq
name_quick tw7812575160087802833 for tiny by tiny_eq
name_quick tw12130106110402172301 for tiny by tiny_eq
name_quick tw13380403433208718457 for tiny by tiny_eq
name_quick tw8176832079141070401 for tiny by tiny_eq
name_quick tw18045930815860615215 for tiny by tiny_eq
name_quick tw18177773098686928762 for tiny by tiny_eq
name_quick tw9923209321011920319 for tiny by tiny_eq
name_quick tw17413746953769677738 for tiny by tiny_eq
name_quick tw9044991690937212678 for tiny by tiny_eq
name_quick tw2772674770617546129 for tiny by tiny_eq
name_quick tw4969877111399314710 for tiny by tiny_eq
name_quick tw16290698309066105011 for tiny by tiny_eq
name_quick tw7703480701316740706 for tiny by tiny_eq
name_quick tw5709278508943739221 for tiny by tiny_eq
name_quick tw2628787633912737336 for tiny by tiny_eq
name_quick tw10775781854017715719 for tiny by tiny_eq
name_quick tw9598837572864912575 for tiny by tiny_eq
name_quick tw11628158041107466649 for tiny by tiny_eq
name_quick tw9414268359526755798 for tiny by tiny_eq
name_quick tw18335414225830626291 for tiny by tiny_eq
name_quick tw10797448938018014548 for tiny by tiny_eq
name_quick tw14331488427532459625 for tiny by tiny_eq
name_quick tw9177568039918357961 for tiny by tiny_eq
name_quick tw13378260034598312864 for tiny by tiny_eq
name_quick tw10998093351152882910 for tiny by tiny_eq
name_quick tw5454063438728279462 for tiny by tiny_eq
name_quick tw9005665454186259191 for tiny by tiny_eq
name_quick tw17602126459348519607 for tiny by tiny_eq
name_quick tw622861457243870302 for tiny by tiny_eq
name_quick tw6724092618656374313 for tiny by tiny_eq
name_quick tw13497136702833728006 for tiny by tiny_eq
name_quick tw4076070797098956223 for tiny by tiny_eq
name_quick tw4457834803053303368 for tiny by tiny_eq
name_quick tw8980409034811383211 for tiny by tiny_eq
name_quick tw6768229483883980606 for tiny by tiny_eq
name_quick tw5431873979517491871 for tiny by tiny_eq
name_quick tw15052909689674862978 for tiny by tiny_eq
name_quick tw9080288470413327582 for tiny by tiny_eq
name_quick tw4361612833677770659 for tiny by tiny_eq
name_quick tw1915992674319092659 for tiny by tiny_eq
name_quick tw5978266943773453420 for tiny by tiny_eq
name_quick tw1325638521433094771 for tiny by tiny_eq
name_quick tw13197942033600990286 for tiny by tiny_eq
name_quick tw13155230606716554582 for tiny by tiny_eq
name_quick tw1552897610346616370 for tiny by tiny_eq
name_quick tw14571991255177264978 for tiny by tiny_eq
name_quick tw2990361786113276596 for tiny by tiny_eq
name_quick tw7025991294158818015 for tiny by tiny_eq
name_quick tw8183486785637257261 for tiny by tiny_eq
name_quick tw12807356220203446062 for tiny by tiny_eq
name_quick tw6787366203047940216 for tiny by tiny_eq
name_quick tw3661421960033965556 for tiny by tiny_eq
name_quick tw16263561444192552988 for tiny by tiny_eq
name_quick tw2034294342081713814 for tiny by tiny_eq
name_quick tw6066107167763032715 for tiny by tiny_eq
name_quick tw10812244877878734556 for tiny by tiny_eq
name_quick tw15900241303551844292 for tiny by tiny_eq
name_quick tw13686221289690942567 for tiny by tiny_eq
name_quick tw8350909445297883908 for tiny by tiny_eq
name_quick tw2560996510663555478 for tiny by tiny_eq
name_quick tw10165589527979096822 for tiny by tiny_eq
name_quick tw18407179006229427193 for tiny by tiny_eq
name_quick tw5075882358930160961 for tiny by tiny_eq
name_quick tw7075820672655900860 for tiny by tiny_eq
name_quick tw8433962308168267325 for tiny by tiny_eq
name_quick tw17854413522256435877 for tiny by tiny_eq
name_quick tw6346569896648416043 for tiny by tiny_eq
name_quick tw12506081044239454753 for tiny by tiny_eq
name_quick tw17229124304270036927 for tiny by tiny_eq
name_quick tw7933459919643740146 for tiny by tiny_eq
name_quick tw1174698113378690166 for tiny by tiny_eq
name_quick tw14460354865942566344 for tiny by tiny_eq
name_quick tw13009323378951774564 for tiny by tiny_eq
name_quick tw5190867511434233997 for tiny by tiny_eq
name_quick tw2593758451341253486 for tiny by tiny_eq
name_quick tw1454875053584476867 for tiny by tiny_eq
name_quick tw17328852349722489455 for tiny by tiny_eq
name_quick tw5851676362303572245 for tiny by tiny_eq
name_quick tw5583615177874468049 for tiny by tiny_eq
name_quick tw10423995298386649705 for tiny by tiny_eq
name_quick tw5664843751271867735 for tiny by tiny_eq
name_quick tw554216570653807171 for tiny by tiny_eq
name_quick tw4829575906958749173 for tiny by tiny_eq
name_quick tw5119289375385799013 for tiny by tiny_eq
open_top HD for PySem.Challenge.rw_jm0050_01
theorem fillall : PySem.Challenge.rw_jm0050_01 = PySem.Challenge.rw_jm0050_01 ∧ Mine.HD.heap_39 = Mine.HD.heap_39 := by
  k_fill
  exact ⟨rfl, rfl⟩
theorem behind_JA : True := by
  w_top off
  exact True.intro
-- part JB

/-- a call of the def at `f` with `vs`, `d` frames deep: what it gives back and the ledger behind it fulfil `R`; all else stays -/
noncomputable def Call (d : Nat) (f : Addr) (vs : List Value) (news : List (Addr × Obj)) (R : Value → List (Addr × Obj) → Prop) : Prop :=
  ∀ (prog : Program) (w : World) (p : Program) (loose : List Str) (mean : ExcName → Option Value) (mg mb : Str → Option Value)
    (dp un : Nat) (gd : Option (List Code)) (cn : Str) (cs : Scope) (a : Addr) (ccd : Value) (cl : List (Str × Addr)) (outer : List Env) (A₀ : Around) (base h₀ : Heap) (L : Addr)
    (m : Str → Option Value) (s : Shared) (Q E : Value → Shared → Prop),
    Below A₀ base outer h₀ → Fr h₀ L s.heap m → (HD.heap_39 w.params).In h₀ → News h₀ L s.heap news → Top p loose mean mg mb h₀ → cs.kind = .function →
    dp + d < recursionLimit → un + 8 * d < cLine →
    (∀ r n' h' tk', R r n' → Fr h₀ L h' m → News h₀ L h' n' → Q r { s with heap := h', toks := tk' }) →
    wpAny (model prog w) (ktrTop dp un gd cn cs L a ccd cl outer) (call (.ref f) vs) Q E s

noncomputable def RInt (news : List (Addr × Obj)) (x : Int) (r : Value) (n : List (Addr × Obj)) : Prop := n = news ∧ ∃ t, r = .int x t
noncomputable def RBool (news : List (Addr × Obj)) (x : Bool) (r : Value) (n : List (Addr × Obj)) : Prop := n = news ∧ r = .bool x
noncomputable def RBytes (news : List (Addr × Obj)) (x : Array UInt8) (r : Value) (n : List (Addr × Obj)) : Prop := n = news ∧ ∃ t, r = .bytes x t

section
variable {d : Nat} {f : Addr} {vs : List Value} {prog : Program} {w : World} {p : Program} {loose : List Str} {mean : ExcName → Option Value} {mg mb : Str → Option Value}
  {dp un : Nat} {gd : Option (List Code)} {cn : Str} {cs : Scope} {a : Addr} {ccd : Value} {cl : List (Str × Addr)} {outer : List Env} {A₀ : Around} {base h₀ : Heap} {L : Addr} {m : Str → Option Value} {news : List (Addr × Obj)} {s : Shared} {Q E : Value → Shared → Prop}

theorem Call.useI {x : Int} (C : Call d f vs news (RInt news x)) (B : Below A₀ base outer h₀) (F : Fr h₀ L s.heap m) (X : (HD.heap_39 w.params).In h₀) (N : News h₀ L s.heap news) (T : Top p loose mean mg mb h₀) (hk : cs.kind = .function)
    (hd : dp + d < recursionLimit) (hu : un + 8 * d < cLine)
    (h : ∀ t h' tk', Fr h₀ L h' m → News h₀ L h' news → Q (.int x t) { s with heap := h', toks := tk' }) :
    wpAny (model prog w) (ktrTop dp un gd cn cs L a ccd cl outer) (call (.ref f) vs) Q E s :=
  C _ _ _ _ _ _ _ _ _ _ _ _ _ _ _ _ _ _ _ _ _ _ _ _ B F X N T hk hd hu (fun r n' h' tk' hR F' N' => by obtain ⟨rfl, t, rfl⟩ := hR; exact h t h' tk' F' N')
theorem Call.useB {x : Bool} (C : Call d f vs news (RBool news x)) (B : Below A₀ base outer h₀) (F : Fr h₀ L s.heap m) (X : (HD.heap_39 w.params).In h₀) (N : News h₀ L s.heap news) (T : Top p loose mean mg mb h₀) (hk : cs.kind = .function)
    (hd : dp + d < recursionLimit) (hu : un + 8 * d < cLine)
    (h : ∀ h' tk', Fr h₀ L h' m → News h₀ L h' news → Q (.bool x) { s with heap := h', toks := tk' }) :
    wpAny (model prog w) (ktrTop dp un gd cn cs L a ccd cl outer) (call (.ref f) vs) Q E s :=
  C _ _ _ _ _ _ _ _ _ _ _ _ _ _ _ _ _ _ _ _ _ _ _ _ B F X N T hk hd hu (fun r n' h' tk' hR F' N' => by obtain ⟨rfl, rfl⟩ := hR; exact h h' tk' F' N')
theorem Call.useY {x : Array UInt8} (C : Call d f vs news (RBytes news x)) (B : Below A₀ base outer h₀) (F : Fr h₀ L s.heap m) (X : (HD.heap_39 w.params).In h₀) (N : News h₀ L s.heap news) (T : Top p loose mean mg mb h₀) (hk : cs.kind = .function)
    (hd : dp + d < recursionLimit) (hu : un + 8 * d < cLine)
    (h : ∀ t h' tk', Fr h₀ L h' m → News h₀ L h' news → Q (.bytes x t) { s with heap := h', toks := tk' }) :
    wpAny (model prog w) (ktrTop dp un gd cn cs L a ccd cl outer) (call (.ref f) vs) Q E s :=
  C _ _ _ _ _ _ _ _ _ _ _ _ _ _ _ _ _ _ _ _ _ _ _ _ B F X N T hk hd hu (fun r n' h' tk' hR F' N' => by obtain ⟨rfl, t, rfl⟩ := hR; exact h t h' tk' F' N')

variable {h' : Heap} {tk' : Nat}
theorem outI {x y : Int} {t : Tok} (hret : ∀ r n' h' tk', RInt news x r n' → Fr h₀ L h' m → News h₀ L h' n' → Q r { s with heap := h', toks := tk' }) (F : Fr h₀ L h' m) (N : News h₀ L h' news) (e : y = x) :
    Q (.int y t) { s with heap := h', toks := tk' } := hret _ _ _ _ ⟨rfl, t, by rw [e]⟩ F N
theorem outB {x y : Bool} (hret : ∀ r n' h' tk', RBool news x r n' → Fr h₀ L h' m → News h₀ L h' n' → Q r { s with heap := h', toks := tk' }) (F : Fr h₀ L h' m) (N : News h₀ L h' news) (e : y = x) :
    Q (.bool y) { s with heap := h', toks := tk' } := hret _ _ _ _ ⟨rfl, by rw [e]⟩ F N
theorem outY {x y : Array UInt8} {t : Tok} (hret : ∀ r n' h' tk', RBytes news x r n' → Fr h₀ L h' m → News h₀ L h' n' → Q r { s with heap := h', toks := tk' }) (F : Fr h₀ L h' m) (N : News h₀ L h' news) (e : y = x) :
    Q (.bytes y t) { s with heap := h', toks := tk' } := hret _ _ _ _ ⟨rfl, t, by rw [e]⟩ F N
end

/-! numbers -/
noncomputable def vsz (n : Int) : Int :=
  if n ≤ 127 then 1 else if n ≤ 16383 then 2 else if n ≤ 2097151 then 3 else if n ≤ 268435455 then 4 else if n ≤ 34359738367 then 5
  else if n ≤ 4398046511103 then 6 else if n ≤ 562949953421311 then 7 else if n ≤ 72057594037927935 then 8 else if n ≤ 9223372036854775807 then 9 else 10
noncomputable def zz (v : Int) : Int := if v ≥ 0 then 2 * v else -2 * v - 1
noncomputable def unzz (v : Int) : Int := if v % 2 = 0 then v / 2 else -(v / 2) - 1

theorem not_and_not (x y : Int) : Builtin.bitAnd x (-1) = x := by
  have h := bitXor_and x (-1)
  unfold Builtin.bitAnd
  have hm : decide ((0 : Int) ≤ -1) = false := by decide
  rw [hm]
  cases hx : decide (0 ≤ x) with
  | true => simp [Builtin.bitNot]
  | false => simp [Builtin.bitNot] at hx ⊢; omega
theorem xor_m1 (x : Int) : Builtin.bitXor x (-1) = -x - 1 := by
  rw [bitXor_and, not_and_not x x]; omega
theorem and_u64 (x : Int) : Builtin.bitAnd 18446744073709551615 x = x % 18446744073709551616 := by
  have := kbt_mask' x 64
  simpa using this
theorem and_u64' (x : Int) : Builtin.bitAnd x 18446744073709551615 = x % 18446744073709551616 := by
  have := kbt_mask x 64
  simpa using this
theorem or_tag {f wt : Int} (h0 : 0 ≤ wt) (h1 : wt < 8) : Builtin.bitOr (f * 8) wt = 8 * f + wt := by
  have e := kbt_halves
  have hand : Builtin.bitAnd (f * 8) wt = 0 := by
    rw [kbt_halves, kbt_halves (f * 8 / 2), kbt_halves (f * 8 / 2 / 2)]
    have h3 : wt / 2 / 2 / 2 = 0 := by omega
    rw [h3, show Builtin.bitAnd (f * 8 / 2 / 2 / 2) 0 = 0 from by have := kbt_mask (f * 8 / 2 / 2 / 2) 0; simpa using this]
    rw [if_neg (by omega), if_neg (by omega), if_neg (by omega)]; rfl
  have hx : Builtin.bitOr (f * 8) wt = f * 8 + wt - Builtin.bitAnd (f * 8) wt := by
    have h1 := bitXor_and (f * 8) wt
    unfold Builtin.bitXor at h1
    omega
  rw [hx, hand]; omega

section
variable {prog : Program} {w : World} {A : Around} {E Q : Value → Shared → Prop} {s : Shared} {a b r n : Int} {t u : Tok}
theorem bAnd (e : Builtin.bitAnd a b = r) (h : Q (.int r s.toks) { s with toks := s.toks + 1 }) : wpAny (model prog w) A (binaryOp .BitAnd (.int a t) (.int b u)) Q E s := and_int (by rw [e]; exact h)
theorem biAnd (e : Builtin.bitAnd a b = r) (h : Q (.int r s.toks) { s with toks := s.toks + 1 }) : wpAny (model prog w) A (inplaceOp .BitAnd (.int a t) (.int b u)) Q E s := iand_int (by rw [e]; exact h)
theorem bOr (e : Builtin.bitOr a b = r) (h : Q (.int r s.toks) { s with toks := s.toks + 1 }) : wpAny (model prog w) A (binaryOp .BitOr (.int a t) (.int b u)) Q E s := or_int (by rw [e]; exact h)
theorem biOr (e : Builtin.bitOr a b = r) (h : Q (.int r s.toks) { s with toks := s.toks + 1 }) : wpAny (model prog w) A (inplaceOp .BitOr (.int a t) (.int b u)) Q E s := ior_int (by rw [e]; exact h)
theorem bXor (e : b = -1) (h : Q (.int (-a - 1) s.toks) { s with toks := s.toks + 1 }) : wpAny (model prog w) A (binaryOp .BitXor (.int a t) (.int b u)) Q E s := xor_int (by rw [e, xor_m1]; exact h)
theorem bShl (hn : 0 ≤ n) (hn2 : n ≤ 1000000) (ha : a.natAbs < 2 ^ 64) (e : a * 2 ^ n.toNat = r) (h : Q (.int r s.toks) { s with toks := s.toks + 1 }) : wpAny (model prog w) A (binaryOp .LShift (.int a t) (.int n u)) Q E s :=
  lshift_int_small hn hn2 ha (by rw [e]; exact h)
theorem fdiv_of {x y z : Int} (e : y = z) (hz : 0 ≤ z) : x.fdiv y = x / z := by rw [e, Int.fdiv_eq_ediv_of_nonneg _ hz]
theorem bShr1 (h : Q (.int (a / 2) s.toks) { s with toks := s.toks + 1 }) : wpAny (model prog w) A (binaryOp .RShift (.int a t) (.int 1 u)) Q E s :=
  rshift_int (by decide) (by rw [fdiv_of (z := 2) (by decide) (by decide)]; exact h)
theorem bShr3 (h : Q (.int (a / 8) s.toks) { s with toks := s.toks + 1 }) : wpAny (model prog w) A (binaryOp .RShift (.int a t) (.int 3 u)) Q E s :=
  rshift_int (by decide) (by rw [fdiv_of (z := 8) (by decide) (by decide)]; exact h)
theorem biShr7 (h : Q (.int (a / 128) s.toks) { s with toks := s.toks + 1 }) : wpAny (model prog w) A (inplaceOp .RShift (.int a t) (.int 7 u)) Q E s :=
  irshift_int (by decide) (by rw [fdiv_of (z := 128) (by decide) (by decide)]; exact h)
theorem bDiv (hb : 0 < b) (hl : b.natAbs.log2 < 9000) (h : Q (.int (a / b) s.toks) { s with toks := s.toks + 1 }) : wpAny (model prog w) A (binaryOp .FloorDiv (.int a t) (.int b u)) Q E s :=
  floordiv_int (by omega) (by rw [Int.fdiv_eq_ediv_of_nonneg _ (by omega)]; exact h) (Or.inl (PyProof.noPylong_of_log2 hl))
theorem bMod (hb : 0 < b) (h : Q (.int (a % b) s.toks) { s with toks := s.toks + 1 }) : wpAny (model prog w) A (binaryOp .Mod (.int a t) (.int b u)) Q E s :=
  mod_int' (by omega) (by rw [Int.fmod_eq_emod_of_nonneg _ (by omega)]; exact h)
theorem bPow (hn : 0 ≤ n) (hn2 : n ≤ 1000000) (e : (2 : Int) ^ n.toNat = r) (h : Q (.int r s.toks) { s with toks := s.toks + 1 }) : wpAny (model prog w) A (binaryOp .Pow (.int 2 t) (.int n u)) Q E s :=
  pow_int_small hn hn2 (by decide) (by rw [e]; exact h)
end
theorem and_128 (x : Int) : Builtin.bitAnd x 128 = (x / 128 % 2) * 128 := by
  have := kbt_bit x 7
  simpa using this
theorem or_128 {x : Int} (h0 : 0 ≤ x) (h1 : x < 128) : Builtin.bitOr 128 x = 128 + x := by
  have hx : Builtin.bitOr 128 x = 128 + x - Builtin.bitAnd 128 x := by
    have h1 := bitXor_and 128 x
    unfold Builtin.bitXor at h1
    omega
  have ha : Builtin.bitAnd 128 x = 0 := by
    have := kbt_bit' x 7
    have e : Builtin.bitAnd 128 x = (x / 128 % 2) * 128 := by simpa using this
    rw [e]; omega
  omega
theorem room_top {dp D k d un : Nat} {gd : Option (List Code)} {cn : Str} {cs : Scope} {L a : Addr} {ccd : Value} {cl : List (Str × Addr)} {outer : List Env} (h : dp + D < recursionLimit) (e : k + d ≤ D) : (ktrTop dp un gd cn cs L a ccd cl outer).depth + k + d < recursionLimit :=
  Nat.lt_of_le_of_lt (Nat.le_trans (Nat.le_of_eq (Nat.add_assoc _ _ _)) (Nat.add_le_add_left e dp)) h
theorem room_top0 {dp D un : Nat} {gd : Option (List Code)} {cn : Str} {cs : Scope} {L a : Addr} {ccd : Value} {cl : List (Str × Addr)} {outer : List Env} (h : dp + D < recursionLimit) : (ktrTop dp un gd cn cs L a ccd cl outer).depth < recursionLimit :=
  Nat.lt_of_le_of_lt (Nat.le_add_right dp D) h
theorem unit_top {dp D c d un : Nat} {gd : Option (List Code)} {cn : Str} {cs : Scope} {L a : Addr} {ccd : Value} {cl : List (Str × Addr)} {outer : List Env} (h : un + 8 * D < cLine) (e : c + 8 * d ≤ 8 * D) : (ktrTop dp un gd cn cs L a ccd cl outer).units + c + 8 * d < cLine :=
  Nat.lt_of_le_of_lt (Nat.le_trans (Nat.le_of_eq (Nat.add_assoc _ _ _)) (Nat.add_le_add_left e un)) h
theorem rv1 (d : Nat) : 1 + d ≤ d + 2 := by omega
theorem rv2 (d : Nat) : 1 + (d + 1) ≤ d + 2 := by omega
theorem rv3 (d : Nat) : 3 + 8 * d ≤ 8 * (d + 2) := by omega
theorem rv4 (d : Nat) : 3 + 8 * (d + 1) ≤ 8 * (d + 2) := by omega
theorem m64_nn (x : Int) : 0 ≤ x % 18446744073709551616 := Int.emod_nonneg x (by decide)
theorem m64_le (x : Int) : x % 18446744073709551616 ≤ 18446744073709551615 := Int.le_of_lt_add_one (Int.emod_lt_of_pos x (by decide))
theorem m32_nn (x : Int) : 0 ≤ x % 4294967296 := Int.emod_nonneg x (by decide)
theorem m32_le (x : Int) : x % 4294967296 ≤ 18446744073709551615 := by omega
theorem m32_lo (x : Int) : -9223372036854775808 ≤ x % 4294967296 - 2147483648 := by omega
theorem m32_hi (x : Int) : x % 4294967296 - 2147483648 < 9223372036854775808 := by omega
theorem p63_lo {v : Int} (h : -9223372036854775808 ≤ v) : -2 ^ 63 ≤ v := h
theorem p63_hi {v : Int} (h : v < 9223372036854775808) : v < 2 ^ 63 := h
theorem p8_nn {p : Int} (h : 1 ≤ p) : 0 ≤ 8 * p := by omega
theorem p8_le {p : Int} (h : p < 536870912) : 8 * p ≤ 18446744073709551615 := by omega
theorem p82_nn {p : Int} (h : 1 ≤ p) : 0 ≤ 8 * p + 2 := by omega
theorem p82_le {p : Int} (h : p < 536870912) : 8 * p + 2 ≤ 18446744073709551615 := by omega
theorem pw_nn {p w : Int} (h : 1 ≤ p) (hw : 0 ≤ w) : 0 ≤ 8 * p + w := by omega
theorem pw_le {p w : Int} (h : p < 536870912) (hw : w < 6) : 8 * p + w ≤ 18446744073709551615 := by omega
theorem sz1 {a : Nat} (h : a ≤ 10) : a ≤ 16777216 := Nat.le_trans h (by decide)
theorem sz2 {a b : Nat} (h1 : a ≤ 10) (h2 : b ≤ 10) : a + b ≤ 16777216 := Nat.le_trans (Nat.add_le_add h1 h2) (by decide)
theorem d128_nn {v : Int} (h : 0 ≤ v) : 0 ≤ v / 128 := Int.ediv_nonneg h (by decide)
theorem ite_ge {c : Prop} [Decidable c] {a b k : Int} (h1 : k ≤ a) (h2 : k ≤ b) : k ≤ if c then a else b := by split <;> assumption
theorem ite_le {c : Prop} [Decidable c] {a b k : Int} (h1 : a ≤ k) (h2 : b ≤ k) : (if c then a else b) ≤ k := by split <;> assumption
theorem abs_nn (a : Int) : 0 ≤ if a < 0 then -a else a := by split <;> omega
theorem abs_le {a : Int} (h0 : -9223372036854775808 ≤ a) (h1 : a < 9223372036854775808) : (if a < 0 then -a else a) ≤ 18446744073709551615 := by split <;> omega
theorem vsz_pos (v : Int) : 1 ≤ vsz v :=
  ite_ge (by decide) (ite_ge (by decide) (ite_ge (by decide) (ite_ge (by decide) (ite_ge (by decide) (ite_ge (by decide) (ite_ge (by decide) (ite_ge (by decide) (ite_ge (by decide) (by decide)))))))))
theorem vsz_le (v : Int) : vsz v ≤ 10 :=
  ite_le (by decide) (ite_le (by decide) (ite_le (by decide) (ite_le (by decide) (ite_le (by decide) (ite_le (by decide) (ite_le (by decide) (ite_le (by decide) (ite_le (by decide) (by decide)))))))))
theorem vsz_ten {n : Int} (h : 9223372036854775808 ≤ n) : vsz n = 10 := by
  have H : ∀ c : Int, c < 9223372036854775808 → ¬ n ≤ c := fun c hc hn => Int.not_lt.mpr (Int.le_trans h hn) hc
  unfold vsz
  rw [if_neg (H _ (by decide)), if_neg (H _ (by decide)), if_neg (H _ (by decide)), if_neg (H _ (by decide)), if_neg (H _ (by decide)), if_neg (H _ (by decide)), if_neg (H _ (by decide)), if_neg (H _ (by decide)), if_neg (H _ (by decide))]
theorem toNat_d {r : Int} (h : 0 ≤ r) : r.toNat / 128 = (r / 128).toNat := by
  obtain ⟨k, rfl⟩ := Int.eq_ofNat_of_zero_le h
  rfl
theorem toNat_m {r : Int} (h : 0 ≤ r) : r.toNat % 128 + 128 = (r % 128 + 128).toNat := by
  obtain ⟨k, rfl⟩ := Int.eq_ofNat_of_zero_le h
  rfl
local macro_rules | `(tactic| walk_at $s:str) => `(tactic| first | k_extra $(Lean.Syntax.mkStrLit ("m " ++ s.getString)) | fail "no line")
local macro_rules | `(tactic| ktr_room) => `(tactic| first | k_extra "m ktr_room" | fail "no line")
local macro_rules | `(tactic| ktr_units) => `(tactic| first | k_extra "m ktr_units" | fail "no line")
theorem lines_JB1 : True := by
  (k_with "m ktr_room" => (with_reducible first | (refine' room_top ?rhx1 ?rex1; (case rhx1 => assumption); (case rex1 => first | (k_dflt (exact Nat.le_of_ble_eq_true rfl)) | exact rv1 _ | exact rv2 _ | exact rv3 _ | exact rv4 _ | omega)) | (refine' room_top0 ?rhx1; (case rhx1 => assumption))))
  (k_with "m ktr_units" => (with_reducible (refine' unit_top ?rhx2 ?rex2; (case rhx2 => assumption); (case rex2 => first | (k_dflt (exact Nat.le_of_ble_eq_true rfl)) | exact rv1 _ | exact rv2 _ | exact rv3 _ | exact rv4 _ | omega))))
  (k_with "m c_in" => (unfold Call; intro _ _ _ _ _ _ _ _ _ _ _ _ _ _ _ _ _ _ _ _ _ _ _ _ _ _ _ _ _ _ _ _ _; refine wpAny_call ?_; k_dflt cell_enter))
  (k_with "m c_sub" => (intro _ hpħ; repeat' (first | exact hpħ | refine List.mem_cons_of_mem _ ?_)))
  (k_with "m c_news" => (first | k_asm | (refine' cb_drop ?cbNx5 ?cbSx5; (case cbNx5 => k_asm); (case cbSx5 => walk_at "c_sub"))))
  (k_with "m c_outI" => (refine' outI ?hx6 ?Fx6 ?Nx6 ?_; (case hx6 => assumption); (case Fx6 => k_asm); (case Nx6 => walk_at "c_news")))
  (k_with "m c_outB" => (refine' outB ?hx7 ?Fx7 ?Nx7 ?_; (case hx7 => assumption); (case Fx7 => k_asm); (case Nx7 => walk_at "c_news")))
  (k_with "m c_outY" => (refine' outY ?hx8 ?Fx8 ?Nx8 ?_; (case hx8 => assumption); (case Fx8 => k_asm); (case Nx8 => walk_at "c_news")))
  (k_with "m c_asm" => ((case Bq => k_asm); (case Fq => k_asm); (case Xq => k_asm); (case Nq => walk_at "c_news"); (case Tq => k_asm); (case kq => first | exact rfl | assumption); (case dq => ktr_room); (case uq => ktr_units)))
  (k_with "m c_side" => (first | assumption | (with_reducible first | exact m64_nn _ | exact m64_le _ | exact m32_nn _ | exact m32_le _ | exact m32_lo _ | exact m32_hi _ | exact p63_lo (by assumption) | exact p63_hi (by assumption) | exact p8_nn (by assumption) | exact p8_le (by assumption) | exact p82_nn (by assumption) | exact p82_le (by assumption) | exact pw_nn (by assumption) (by assumption) | exact pw_le (by assumption) (by assumption) | exact sz1 (by assumption) | exact sz2 (by assumption) (by assumption) | exact d128_nn (by assumption) | exact abs_nn _ | exact abs_le (m32_lo _) (m32_hi _)) | omega | decide | (simp only [zz, unzz] at *; split <;> omega) | l_fact))
  (k_with "m c_got" => (intro _ _ _ _ _; (try dsimp only); (try k_sweep)))
  (k_with "m binaryOp BitAnd int int" => (refine bAnd (by first | exact and_u64 _ | exact and_u64' _ | exact bitAnd_m3 _ | exact bitAnd_m7 _ | exact bitAnd_m1 _ | exact and_128 _) ?_))
  (k_with "m binaryOp BitOr int int" => (refine bOr (by first | exact or_tag (by walk_at "c_side") (by walk_at "c_side") | exact or_128 (by walk_at "c_side") (by walk_at "c_side")) ?_))
  (k_with "m binaryOp BitXor int int" => (refine bXor (by decide) ?_))
  (k_with "m binaryOp LShift int int" => (first
  | (refine bShl (n := 1) (r := _ * 2) (by decide) (by decide) ?hx15 rfl ?_; (case hx15 => walk_at "c_side"))
  | (refine bShl (n := 3) (r := _ * 8) (by decide) (by decide) ?hx15 rfl ?_; (case hx15 => walk_at "c_side"))
  | (refine bShl (a := 1) (n := 64) (r := 18446744073709551616) (by decide) (by decide) (by decide) (by decide) ?_)))
  (k_with "m binaryOp RShift int int" => (first | refine bShr1 ?_ | refine bShr3 ?_))
  (k_with "m inplaceOp RShift int int" => refine biShr7 ?_)
  (k_with "m binaryOp FloorDiv int int" => refine bDiv (by decide) (by decide +kernel) ?_)
  (k_with "m binaryOp Mod int int" => refine bMod (by decide) ?_)
  (k_with "m binaryOp Pow int int" => (first
  | refine bPow (n := 64) (r := 18446744073709551616) (by decide) (by decide) (by decide) ?_
  | refine bPow (n := 63) (r := 9223372036854775808) (by decide) (by decide) (by decide) ?_
  | refine bPow (n := 32) (r := 4294967296) (by decide) (by decide) (by decide) ?_
  | refine bPow (n := 31) (r := 2147483648) (by decide) (by decide) (by decide) ?_
  | refine bPow (n := 29) (r := 536870912) (by decide) (by decide) (by decide) ?_
  | refine bPow (n := 70) (r := 1180591620717411303424) (by decide) (by decide) (by decide) ?_))
  exact True.intro
theorem behind_JB : True := by
  w_top off
  exact True.intro
-- part JC
theorem vsz_is1 {v : Int} (h0 : v ≤ 127) : 1 = vsz v := by rw [vsz, if_pos h0]
theorem vsz_is2 {v : Int} (h0 : ¬ v ≤ 127) (h1 : v ≤ 16383) : 2 = vsz v := by rw [vsz, if_neg h0, if_pos h1]
theorem vsz_is3 {v : Int} (h0 : ¬ v ≤ 127) (h1 : ¬ v ≤ 16383) (h2 : v ≤ 2097151) : 3 = vsz v := by rw [vsz, if_neg h0, if_neg h1, if_pos h2]
theorem vsz_is4 {v : Int} (h0 : ¬ v ≤ 127) (h1 : ¬ v ≤ 16383) (h2 : ¬ v ≤ 2097151) (h3 : v ≤ 268435455) : 4 = vsz v := by rw [vsz, if_neg h0, if_neg h1, if_neg h2, if_pos h3]
theorem vsz_is5 {v : Int} (h0 : ¬ v ≤ 127) (h1 : ¬ v ≤ 16383) (h2 : ¬ v ≤ 2097151) (h3 : ¬ v ≤ 268435455) (h4 : v ≤ 34359738367) : 5 = vsz v := by rw [vsz, if_neg h0, if_neg h1, if_neg h2, if_neg h3, if_pos h4]
theorem vsz_is6 {v : Int} (h0 : ¬ v ≤ 127) (h1 : ¬ v ≤ 16383) (h2 : ¬ v ≤ 2097151) (h3 : ¬ v ≤ 268435455) (h4 : ¬ v ≤ 34359738367) (h5 : v ≤ 4398046511103) : 6 = vsz v := by rw [vsz, if_neg h0, if_neg h1, if_neg h2, if_neg h3, if_neg h4, if_pos h5]
theorem vsz_is7 {v : Int} (h0 : ¬ v ≤ 127) (h1 : ¬ v ≤ 16383) (h2 : ¬ v ≤ 2097151) (h3 : ¬ v ≤ 268435455) (h4 : ¬ v ≤ 34359738367) (h5 : ¬ v ≤ 4398046511103) (h6 : v ≤ 562949953421311) : 7 = vsz v := by rw [vsz, if_neg h0, if_neg h1, if_neg h2, if_neg h3, if_neg h4, if_neg h5, if_pos h6]
theorem vsz_is8 {v : Int} (h0 : ¬ v ≤ 127) (h1 : ¬ v ≤ 16383) (h2 : ¬ v ≤ 2097151) (h3 : ¬ v ≤ 268435455) (h4 : ¬ v ≤ 34359738367) (h5 : ¬ v ≤ 4398046511103) (h6 : ¬ v ≤ 562949953421311) (h7 : v ≤ 72057594037927935) : 8 = vsz v := by rw [vsz, if_neg h0, if_neg h1, if_neg h2, if_neg h3, if_neg h4, if_neg h5, if_neg h6, if_pos h7]
theorem vsz_is9 {v : Int} (h0 : ¬ v ≤ 127) (h1 : ¬ v ≤ 16383) (h2 : ¬ v ≤ 2097151) (h3 : ¬ v ≤ 268435455) (h4 : ¬ v ≤ 34359738367) (h5 : ¬ v ≤ 4398046511103) (h6 : ¬ v ≤ 562949953421311) (h7 : ¬ v ≤ 72057594037927935) (h8 : v ≤ 9223372036854775807) : 9 = vsz v := by rw [vsz, if_neg h0, if_neg h1, if_neg h2, if_neg h3, if_neg h4, if_neg h5, if_neg h6, if_neg h7, if_pos h8]
theorem vsz_is10 {v : Int} (h0 : ¬ v ≤ 127) (h1 : ¬ v ≤ 16383) (h2 : ¬ v ≤ 2097151) (h3 : ¬ v ≤ 268435455) (h4 : ¬ v ≤ 34359738367) (h5 : ¬ v ≤ 4398046511103) (h6 : ¬ v ≤ 562949953421311) (h7 : ¬ v ≤ 72057594037927935) (h8 : ¬ v ≤ 9223372036854775807) : 10 = vsz v := by rw [vsz, if_neg h0, if_neg h1, if_neg h2, if_neg h3, if_neg h4, if_neg h5, if_neg h6, if_neg h7, if_neg h8]
section
variable {news : List (Addr × Obj)} {f v wt : Int} {t u : Tok} {b : Bool}
local macro_rules | `(tactic| walk_at "eval Name") => `(tactic| (k_here; k_dflt (refine' nameX_K ?F ?X ?T ?e ?_ ?a ?b; (case a => rfl); (case b => rfl); (case F => k_asm); (case X => k_asm); (case T => k_asm); (case e => k_is); k_whole)))
local macro_rules | `(tactic| walk_at "eval Name") => `(tactic| (k_here; k_dflt (refine' ld ?k1 ?k2 ?_; (case k1 => k_asm); (case k2 => exact rfl); k_whole)))
local macro_rules | `(tactic| walk_at "callWith ref") => `(tactic| (k_here; (with_reducible show wpAny _ _ (callWith _ (Value.ref (@OfNat.ofNat Nat _ _)) _ _ _) _ _ _); k_dflt (first
  | (refine' callWith_K ?k1 ?k2 ?_; (case k1 => k_asm); (case k2 => k_is); k_whole)
  | (refine' callWith_K0 ?k1 ?k2 ?_; (case k1 => k_in); (case k2 => k_is); k_whole))))
theorem c_PackTag (hf0 : 0 ≤ f) (hf : f < 2 ^ 60) (h0 : 0 ≤ wt) (h1 : wt ≤ 5) : Call 1 58 [.int f t, .int wt u] news (RInt news (8 * f + wt)) := by
  walk_at "c_in"
  k_steps
  all_goals walk_at "c_outI"
  all_goals (omega)
end
theorem lines_JC1 : True := by
  (k_with "m call ref" => (k_here; (with_reducible show wpAny _ _ (call (Value.ref 58) _) _ _ _); k_dflt (refine' Call.useI (c_PackTag ?p0x21 ?p1x21 ?p2q ?p3x21) ?Bq ?Fq ?Xq ?Nq ?Tq ?kq ?dq ?uq ?_); walk_at "c_asm"; (case p0x21 => walk_at "c_side"); (case p1x21 => walk_at "c_side"); (case p2q => walk_at "c_side"); (case p3x21 => walk_at "c_side"); walk_at "c_got"))
  exact True.intro
section
variable {news : List (Addr × Obj)} {f v wt : Int} {t u : Tok} {b : Bool}
theorem c_zzenc (hv0 : -(2 ^ 63) ≤ v) (hv : v < 2 ^ 63) : Call 1 72 [.int v t] news (RInt news (zz v)) := by
  walk_at "c_in"
  k_steps
  all_goals walk_at "c_outI"
  all_goals ((unfold zz; split <;> omega))
end
theorem lines_JC2 : True := by
  (k_with "m call ref" => (k_here; (with_reducible show wpAny _ _ (call (Value.ref 72) _) _ _ _); k_dflt (refine' Call.useI (c_zzenc ?p0x22 ?p1x22) ?Bq ?Fq ?Xq ?Nq ?Tq ?kq ?dq ?uq ?_); walk_at "c_asm"; (case p0x22 => walk_at "c_side"); (case p1x22 => walk_at "c_side"); walk_at "c_got"))
  exact True.intro
section
variable {news : List (Addr × Obj)} {f v wt : Int} {t u : Tok} {b : Bool}
theorem c_zzdec  : Call 1 79 [.int v t] news (RInt news (unzz v)) := by
  walk_at "c_in"
  k_steps
  all_goals walk_at "c_outI"
  all_goals ((unfold unzz; split <;> omega))
end
theorem lines_JC3 : True := by
  (k_with "m call ref" => (k_here; (with_reducible show wpAny _ _ (call (Value.ref 79) _) _ _ _); k_dflt (refine' Call.useI (c_zzdec ) ?Bq ?Fq ?Xq ?Nq ?Tq ?kq ?dq ?uq ?_); walk_at "c_asm";  walk_at "c_got"))
  exact True.intro
section
variable {news : List (Addr × Obj)} {f v wt : Int} {t u : Tok} {b : Bool}
theorem c_vu (hv : v ≤ 18446744073709551615) : Call 1 198 [.int v t] news (RInt news (vsz v)) := by
  walk_at "c_in"
  k_steps
  all_goals walk_at "c_outI"
  all_goals (first | exact vsz_is1 (by assumption) | exact vsz_is2 (by assumption) (by assumption) | exact vsz_is3 (by assumption) (by assumption) (by assumption) | exact vsz_is4 (by assumption) (by assumption) (by assumption) (by assumption) | exact vsz_is5 (by assumption) (by assumption) (by assumption) (by assumption) (by assumption) | exact vsz_is6 (by assumption) (by assumption) (by assumption) (by assumption) (by assumption) (by assumption) | exact vsz_is7 (by assumption) (by assumption) (by assumption) (by assumption) (by assumption) (by assumption) (by assumption) | exact vsz_is8 (by assumption) (by assumption) (by assumption) (by assumption) (by assumption) (by assumption) (by assumption) (by assumption) | exact vsz_is9 (by assumption) (by assumption) (by assumption) (by assumption) (by assumption) (by assumption) (by assumption) (by assumption) (by assumption) | exact vsz_is10 (by assumption) (by assumption) (by assumption) (by assumption) (by assumption) (by assumption) (by assumption) (by assumption) (by assumption) | (unfold vsz; omega))
end
theorem lines_JC4 : True := by
  (k_with "m call ref" => (k_here; (with_reducible show wpAny _ _ (call (Value.ref 198) _) _ _ _); k_dflt (refine' Call.useI (c_vu ?p0x24) ?Bq ?Fq ?Xq ?Nq ?Tq ?kq ?dq ?uq ?_); walk_at "c_asm"; (case p0x24 => walk_at "c_side"); walk_at "c_got"))
  exact True.intro
section
variable {news : List (Addr × Obj)} {f v wt : Int} {t u : Tok} {b : Bool}
theorem c_vs  : Call 1 233 [.int v t] news (RInt news (vsz v)) := by
  walk_at "c_in"
  k_steps
  all_goals walk_at "c_outI"
  all_goals (first | exact vsz_is1 (by assumption) | exact vsz_is2 (by assumption) (by assumption) | exact vsz_is3 (by assumption) (by assumption) (by assumption) | exact vsz_is4 (by assumption) (by assumption) (by assumption) (by assumption) | exact vsz_is5 (by assumption) (by assumption) (by assumption) (by assumption) (by assumption) | exact vsz_is6 (by assumption) (by assumption) (by assumption) (by assumption) (by assumption) (by assumption) | exact vsz_is7 (by assumption) (by assumption) (by assumption) (by assumption) (by assumption) (by assumption) (by assumption) | exact vsz_is8 (by assumption) (by assumption) (by assumption) (by assumption) (by assumption) (by assumption) (by assumption) (by assumption) | exact vsz_is9 (by assumption) (by assumption) (by assumption) (by assumption) (by assumption) (by assumption) (by assumption) (by assumption) (by assumption) | exact vsz_is10 (by assumption) (by assumption) (by assumption) (by assumption) (by assumption) (by assumption) (by assumption) (by assumption) (by assumption) | (unfold vsz; omega))
end
theorem lines_JC5 : True := by
  (k_with "m call ref" => (k_here; (with_reducible show wpAny _ _ (call (Value.ref 233) _) _ _ _); k_dflt (refine' Call.useI (c_vs ) ?Bq ?Fq ?Xq ?Nq ?Tq ?kq ?dq ?uq ?_); walk_at "c_asm";  walk_at "c_got"))
  exact True.intro
section
variable {news : List (Addr × Obj)} {f v wt : Int} {t u : Tok} {b : Bool}
theorem c_svs  : Call 1 240 [.int v t] news (RInt news (if v < 0 then 10 else vsz v)) := by
  walk_at "c_in"
  k_steps
  all_goals walk_at "c_outI"
  all_goals (first | exact (if_pos (by assumption)).symm | (refine Eq.trans ?_ (if_neg (by assumption)).symm; (first | exact vsz_is1 (by assumption) | exact vsz_is2 (by assumption) (by assumption) | exact vsz_is3 (by assumption) (by assumption) (by assumption) | exact vsz_is4 (by assumption) (by assumption) (by assumption) (by assumption) | exact vsz_is5 (by assumption) (by assumption) (by assumption) (by assumption) (by assumption) | exact vsz_is6 (by assumption) (by assumption) (by assumption) (by assumption) (by assumption) (by assumption) | exact vsz_is7 (by assumption) (by assumption) (by assumption) (by assumption) (by assumption) (by assumption) (by assumption) | exact vsz_is8 (by assumption) (by assumption) (by assumption) (by assumption) (by assumption) (by assumption) (by assumption) (by assumption) | exact vsz_is9 (by assumption) (by assumption) (by assumption) (by assumption) (by assumption) (by assumption) (by assumption) (by assumption) (by assumption) | exact vsz_is10 (by assumption) (by assumption) (by assumption) (by assumption) (by assumption) (by assumption) (by assumption) (by assumption) (by assumption) | (unfold vsz; omega))) | (unfold vsz; omega))
end
theorem lines_JC6 : True := by
  (k_with "m call ref" => (k_here; (with_reducible show wpAny _ _ (call (Value.ref 240) _) _ _ _); k_dflt (refine' Call.useI (c_svs ) ?Bq ?Fq ?Xq ?Nq ?Tq ?kq ?dq ?uq ?_); walk_at "c_asm";  walk_at "c_got"))
  exact True.intro
section
variable {news : List (Addr × Obj)} {f v wt : Int} {t u : Tok} {b : Bool}
theorem c_TagByteSize (hf0 : 0 ≤ f) (hf : f < 2 ^ 60) : Call 2 191 [.int f t] news (RInt news (vsz (8 * f))) := by
  walk_at "c_in"
  k_steps
  all_goals walk_at "c_outI"
  all_goals (simp only [Int.add_zero])
end
theorem lines_JC7 : True := by
  (k_with "m call ref" => (k_here; (with_reducible show wpAny _ _ (call (Value.ref 191) _) _ _ _); k_dflt (refine' Call.useI (c_TagByteSize ?p0x27 ?p1x27) ?Bq ?Fq ?Xq ?Nq ?Tq ?kq ?dq ?uq ?_); walk_at "c_asm"; (case p0x27 => walk_at "c_side"); (case p1x27 => walk_at "c_side"); walk_at "c_got"))
  exact True.intro
section
variable {news : List (Addr × Obj)} {f v wt : Int} {t u : Tok} {b : Bool}
theorem c_TagSize (hf0 : 0 ≤ f) (hf : f < 2 ^ 60) : Call 2 247 [.int f t] news (RInt news (vsz (8 * f))) := by
  walk_at "c_in"
  k_steps
  all_goals walk_at "c_outI"
  all_goals (simp only [Int.add_zero])
end
theorem lines_JC8 : True := by
  (k_with "m call ref" => (k_here; (with_reducible show wpAny _ _ (call (Value.ref 247) _) _ _ _); k_dflt (refine' Call.useI (c_TagSize ?p0x28 ?p1x28) ?Bq ?Fq ?Xq ?Nq ?Tq ?kq ?dq ?uq ?_); walk_at "c_asm"; (case p0x28 => walk_at "c_side"); (case p1x28 => walk_at "c_side"); walk_at "c_got"))
  exact True.intro
section
variable {news : List (Addr × Obj)} {f v wt : Int} {t u : Tok} {b : Bool}
theorem c_UInt64ByteSize (hf0 : 0 ≤ f) (hf : f < 2 ^ 60) (hv : v ≤ 18446744073709551615) : Call 3 114 [.int f t, .int v u] news (RInt news (vsz (8 * f) + vsz v)) := by
  walk_at "c_in"
  k_steps
  all_goals walk_at "c_outI"
  all_goals (rfl)
end
theorem lines_JC9 : True := by
  (k_with "m call ref" => (k_here; (with_reducible show wpAny _ _ (call (Value.ref 114) _) _ _ _); k_dflt (refine' Call.useI (c_UInt64ByteSize ?p0x29 ?p1x29 ?p2q) ?Bq ?Fq ?Xq ?Nq ?Tq ?kq ?dq ?uq ?_); walk_at "c_asm"; (case p0x29 => walk_at "c_side"); (case p1x29 => walk_at "c_side"); (case p2q => walk_at "c_side"); walk_at "c_got"))
  exact True.intro
section
variable {news : List (Addr × Obj)} {f v wt : Int} {t u : Tok} {b : Bool}
theorem c_Int64ByteSize (hf0 : 0 ≤ f) (hf : f < 2 ^ 60) : Call 4 100 [.int f t, .int v u] news (RInt news (vsz (8 * f) + vsz (v % 18446744073709551616))) := by
  walk_at "c_in"
  k_steps
  all_goals walk_at "c_outI"
  all_goals (rfl)
end
theorem lines_JC10 : True := by
  (k_with "m call ref" => (k_here; (with_reducible show wpAny _ _ (call (Value.ref 100) _) _ _ _); k_dflt (refine' Call.useI (c_Int64ByteSize ?p0x30 ?p1x30) ?Bq ?Fq ?Xq ?Nq ?Tq ?kq ?dq ?uq ?_); walk_at "c_asm"; (case p0x30 => walk_at "c_side"); (case p1x30 => walk_at "c_side"); walk_at "c_got"))
  exact True.intro
section
variable {news : List (Addr × Obj)} {f v wt : Int} {t u : Tok} {b : Bool}
theorem c_Int32ByteSize (hf0 : 0 ≤ f) (hf : f < 2 ^ 60) : Call 5 86 [.int f t, .int v u] news (RInt news (vsz (8 * f) + vsz (v % 18446744073709551616))) := by
  walk_at "c_in"
  k_steps
  all_goals walk_at "c_outI"
  all_goals (rfl)
end
theorem lines_JC11 : True := by
  (k_with "m call ref" => (k_here; (with_reducible show wpAny _ _ (call (Value.ref 86) _) _ _ _); k_dflt (refine' Call.useI (c_Int32ByteSize ?p0x31 ?p1x31) ?Bq ?Fq ?Xq ?Nq ?Tq ?kq ?dq ?uq ?_); walk_at "c_asm"; (case p0x31 => walk_at "c_side"); (case p1x31 => walk_at "c_side"); walk_at "c_got"))
  exact True.intro
section
variable {news : List (Addr × Obj)} {f v wt : Int} {t u : Tok} {b : Bool}
theorem c_Int32NoTag  : Call 2 93 [.int v u] news (RInt news (vsz (v % 18446744073709551616))) := by
  walk_at "c_in"
  k_steps
  all_goals walk_at "c_outI"
  all_goals (rfl)
end
theorem lines_JC12 : True := by
  (k_with "m call ref" => (k_here; (with_reducible show wpAny _ _ (call (Value.ref 93) _) _ _ _); k_dflt (refine' Call.useI (c_Int32NoTag ) ?Bq ?Fq ?Xq ?Nq ?Tq ?kq ?dq ?uq ?_); walk_at "c_asm";  walk_at "c_got"))
  exact True.intro
section
variable {news : List (Addr × Obj)} {f v wt : Int} {t u : Tok} {b : Bool}
theorem c_UInt32ByteSize (hf0 : 0 ≤ f) (hf : f < 2 ^ 60) (hv : v ≤ 18446744073709551615) : Call 4 107 [.int f t, .int v u] news (RInt news (vsz (8 * f) + vsz v)) := by
  walk_at "c_in"
  k_steps
  all_goals walk_at "c_outI"
  all_goals (rfl)
end
theorem lines_JC13 : True := by
  (k_with "m call ref" => (k_here; (with_reducible show wpAny _ _ (call (Value.ref 107) _) _ _ _); k_dflt (refine' Call.useI (c_UInt32ByteSize ?p0x33 ?p1x33 ?p2q) ?Bq ?Fq ?Xq ?Nq ?Tq ?kq ?dq ?uq ?_); walk_at "c_asm"; (case p0x33 => walk_at "c_side"); (case p1x33 => walk_at "c_side"); (case p2q => walk_at "c_side"); walk_at "c_got"))
  exact True.intro
section
variable {news : List (Addr × Obj)} {f v wt : Int} {t u : Tok} {b : Bool}
theorem c_SInt32ByteSize (hf0 : 0 ≤ f) (hf : f < 2 ^ 60) (hv0 : -(2 ^ 63) ≤ v) (hv : v < 2 ^ 63) : Call 5 121 [.int f t, .int v u] news (RInt news (vsz (8 * f) + vsz (zz v))) := by
  have hz0 : 0 ≤ zz v := by unfold zz; split <;> omega
  have hz1 : zz v ≤ 18446744073709551615 := by unfold zz; split <;> omega
  walk_at "c_in"
  k_steps
  all_goals walk_at "c_outI"
  all_goals (rfl)
end
theorem lines_JC14 : True := by
  (k_with "m call ref" => (k_here; (with_reducible show wpAny _ _ (call (Value.ref 121) _) _ _ _); k_dflt (refine' Call.useI (c_SInt32ByteSize ?p0x34 ?p1x34 ?p2q ?p3x34) ?Bq ?Fq ?Xq ?Nq ?Tq ?kq ?dq ?uq ?_); walk_at "c_asm"; (case p0x34 => walk_at "c_side"); (case p1x34 => walk_at "c_side"); (case p2q => walk_at "c_side"); (case p3x34 => walk_at "c_side"); walk_at "c_got"))
  exact True.intro
section
variable {news : List (Addr × Obj)} {f v wt : Int} {t u : Tok} {b : Bool}
theorem c_SInt64ByteSize (hf0 : 0 ≤ f) (hf : f < 2 ^ 60) (hv0 : -(2 ^ 63) ≤ v) (hv : v < 2 ^ 63) : Call 4 128 [.int f t, .int v u] news (RInt news (vsz (8 * f) + vsz (zz v))) := by
  have hz0 : 0 ≤ zz v := by unfold zz; split <;> omega
  have hz1 : zz v ≤ 18446744073709551615 := by unfold zz; split <;> omega
  walk_at "c_in"
  k_steps
  all_goals walk_at "c_outI"
  all_goals (rfl)
end
theorem lines_JC15 : True := by
  (k_with "m call ref" => (k_here; (with_reducible show wpAny _ _ (call (Value.ref 128) _) _ _ _); k_dflt (refine' Call.useI (c_SInt64ByteSize ?p0x35 ?p1x35 ?p2q ?p3x35) ?Bq ?Fq ?Xq ?Nq ?Tq ?kq ?dq ?uq ?_); walk_at "c_asm"; (case p0x35 => walk_at "c_side"); (case p1x35 => walk_at "c_side"); (case p2q => walk_at "c_side"); (case p3x35 => walk_at "c_side"); walk_at "c_got"))
  exact True.intro
section
variable {news : List (Addr × Obj)} {f v wt : Int} {t u : Tok} {b : Bool}
theorem c_Fixed32 (hf0 : 0 ≤ f) (hf : f < 2 ^ 60) : Call 3 135 [.int f t, .int v u] news (RInt news (vsz (8 * f) + 4)) := by
  walk_at "c_in"
  k_steps
  all_goals walk_at "c_outI"
  all_goals (rfl)
end
theorem lines_JC16 : True := by
  (k_with "m call ref" => (k_here; (with_reducible show wpAny _ _ (call (Value.ref 135) _) _ _ _); k_dflt (refine' Call.useI (c_Fixed32 ?p0x36 ?p1x36) ?Bq ?Fq ?Xq ?Nq ?Tq ?kq ?dq ?uq ?_); walk_at "c_asm"; (case p0x36 => walk_at "c_side"); (case p1x36 => walk_at "c_side"); walk_at "c_got"))
  exact True.intro
section
variable {news : List (Addr × Obj)} {f v wt : Int} {t u : Tok} {b : Bool}
theorem c_Fixed64 (hf0 : 0 ≤ f) (hf : f < 2 ^ 60) : Call 3 142 [.int f t, .int v u] news (RInt news (vsz (8 * f) + 8)) := by
  walk_at "c_in"
  k_steps
  all_goals walk_at "c_outI"
  all_goals (rfl)
end
theorem lines_JC17 : True := by
  (k_with "m call ref" => (k_here; (with_reducible show wpAny _ _ (call (Value.ref 142) _) _ _ _); k_dflt (refine' Call.useI (c_Fixed64 ?p0x37 ?p1x37) ?Bq ?Fq ?Xq ?Nq ?Tq ?kq ?dq ?uq ?_); walk_at "c_asm"; (case p0x37 => walk_at "c_side"); (case p1x37 => walk_at "c_side"); walk_at "c_got"))
  exact True.intro
section
variable {news : List (Addr × Obj)} {f v wt : Int} {t u : Tok} {b : Bool}
theorem c_SFixed32 (hf0 : 0 ≤ f) (hf : f < 2 ^ 60) : Call 3 149 [.int f t, .int v u] news (RInt news (vsz (8 * f) + 4)) := by
  walk_at "c_in"
  k_steps
  all_goals walk_at "c_outI"
  all_goals (rfl)
end
theorem lines_JC18 : True := by
  (k_with "m call ref" => (k_here; (with_reducible show wpAny _ _ (call (Value.ref 149) _) _ _ _); k_dflt (refine' Call.useI (c_SFixed32 ?p0x38 ?p1x38) ?Bq ?Fq ?Xq ?Nq ?Tq ?kq ?dq ?uq ?_); walk_at "c_asm"; (case p0x38 => walk_at "c_side"); (case p1x38 => walk_at "c_side"); walk_at "c_got"))
  exact True.intro
section
variable {news : List (Addr × Obj)} {f v wt : Int} {t u : Tok} {b : Bool}
theorem c_SFixed64 (hf0 : 0 ≤ f) (hf : f < 2 ^ 60) : Call 3 156 [.int f t, .int v u] news (RInt news (vsz (8 * f) + 8)) := by
  walk_at "c_in"
  k_steps
  all_goals walk_at "c_outI"
  all_goals (rfl)
end
theorem lines_JC19 : True := by
  (k_with "m call ref" => (k_here; (with_reducible show wpAny _ _ (call (Value.ref 156) _) _ _ _); k_dflt (refine' Call.useI (c_SFixed64 ?p0x39 ?p1x39) ?Bq ?Fq ?Xq ?Nq ?Tq ?kq ?dq ?uq ?_); walk_at "c_asm"; (case p0x39 => walk_at "c_side"); (case p1x39 => walk_at "c_side"); walk_at "c_got"))
  exact True.intro
section
variable {news : List (Addr × Obj)} {f v wt : Int} {t u : Tok} {b : Bool}
theorem c_BoolByteSize (hf0 : 0 ≤ f) (hf : f < 2 ^ 60) : Call 3 163 [.int f t, .bool b] news (RInt news (vsz (8 * f) + 1)) := by
  walk_at "c_in"
  k_steps
  all_goals walk_at "c_outI"
  all_goals (rfl)
end
theorem lines_JC20 : True := by
  (k_with "m call ref" => (k_here; (with_reducible show wpAny _ _ (call (Value.ref 163) _) _ _ _); k_dflt (refine' Call.useI (c_BoolByteSize ?p0x40 ?p1x40) ?Bq ?Fq ?Xq ?Nq ?Tq ?kq ?dq ?uq ?_); walk_at "c_asm"; (case p0x40 => walk_at "c_side"); (case p1x40 => walk_at "c_side"); walk_at "c_got"))
  exact True.intro
section
variable {news : List (Addr × Obj)} {f v wt : Int} {t u : Tok} {b : Bool}
theorem c_EnumByteSize (hf0 : 0 ≤ f) (hf : f < 2 ^ 60) (hv : v ≤ 18446744073709551615) : Call 5 170 [.int f t, .int v u] news (RInt news (vsz (8 * f) + vsz v)) := by
  walk_at "c_in"
  k_steps
  all_goals walk_at "c_outI"
  all_goals (rfl)
end
theorem lines_JC21 : True := by
  (k_with "m call ref" => (k_here; (with_reducible show wpAny _ _ (call (Value.ref 170) _) _ _ _); k_dflt (refine' Call.useI (c_EnumByteSize ?p0x41 ?p1x41 ?p2q) ?Bq ?Fq ?Xq ?Nq ?Tq ?kq ?dq ?uq ?_); walk_at "c_asm"; (case p0x41 => walk_at "c_side"); (case p1x41 => walk_at "c_side"); (case p2q => walk_at "c_side"); walk_at "c_got"))
  exact True.intro
section
variable {news : List (Addr × Obj)} {f v wt : Int} {t u : Tok} {b : Bool}
end
theorem behind_JC : True := by
  w_top off
  exact True.intro
-- part JD
/-! the tables of code objects: what a def's run leaves in its own code's table -/
structure Ent where
  pos : Pos
  c : Addr
  oc : Obj
  P : Addr
structure Tab where
  P : Addr
  es : List Ent
noncomputable def Tab.trip (t : Tab) : List (Pos × Addr) := t.es.map fun e => (e.pos, e.c)
noncomputable def Tab.ents (t : Tab) : List (Addr × Obj) := (t.P, tabObj (triples t.trip).toArray) :: t.es.map fun e => (e.c, e.oc)
noncomputable def entsOf (T : List Tab) : List (Addr × Obj) := T.flatMap Tab.ents
noncomputable def CodeObj (oc : Obj) (qual : Str) (P : Addr) : Prop :=
  ∃ vs file tf flags tg inF text tt tk, oc.cls = .type "code" ∧ oc.data = .fields vs ∧ vs[1]? = some (.str qual tk) ∧ vs[11]? = some (.ref P) ∧ vs.getD 11 .none = .ref P ∧ vs.getD 18 .none = .str file tf ∧
    vs.getD 7 .none = .int flags tg ∧ vs.getD 9 .none = .bool inF ∧ vs.getD 10 .none = .int text tt
noncomputable def topTabs : List Addr := [370, 363, 284, 384, 328, 321, 256, 249, 307, 200]
noncomputable def qOf (line : Nat) : Str := match line with
  | 85 => "_VarintDecoder.<locals>.DecodeVarint"
  | 158 => "_SimpleSizer.<locals>.SpecificSizer"
  | 163 => "_SimpleSizer.<locals>.SpecificSizer.<locals>.PackedFieldSize"
  | 171 => "_SimpleSizer.<locals>.SpecificSizer.<locals>.RepeatedFieldSize"
  | 179 => "_SimpleSizer.<locals>.SpecificSizer.<locals>.FieldSize"
  | 185 => "_ModifiedSizer.<locals>.SpecificSizer"
  | 206 => "_ModifiedSizer.<locals>.SpecificSizer.<locals>.FieldSize"
  | 222 => "BytesSizer.<locals>.RepeatedFieldSize"
  | 255 => "_VarintBytes.<locals>.<lambda>"
  | 261 => "_SimpleEncoder.<locals>.SpecificEncoder"
  | 266 => "_SimpleEncoder.<locals>.SpecificEncoder.<locals>.EncodePackedField"
  | 278 => "_SimpleEncoder.<locals>.SpecificEncoder.<locals>.EncodeRepeatedField"
  | 286 => "_SimpleEncoder.<locals>.SpecificEncoder.<locals>.EncodeField"
  | 293 => "_ModifiedEncoder.<locals>.SpecificEncoder"
  | 318 => "_ModifiedEncoder.<locals>.SpecificEncoder.<locals>.EncodeField"
  | 346 => "StringEncoder.<locals>.EncodeField"
  | 366 => "BytesEncoder.<locals>.EncodeField"
  | 380 => "_law_written.<locals>.<lambda>"
  | _ => ""
noncomputable def TabInv (T : List Tab) : Prop :=
  (T.map (·.P)).Nodup ∧ (∀ P ∈ topTabs, P ∈ T.map (·.P)) ∧ ∀ t ∈ T, ∀ e ∈ t.es, CodeObj e.oc (qOf e.pos.line) e.P ∧ e.P ∈ T.map (·.P)
noncomputable def CodeIn (T : List Tab) (line : Nat) (c P : Addr) : Prop := ∃ t ∈ T, ∃ e ∈ t.es, e.pos.line = line ∧ e.c = c ∧ e.P = P
noncomputable def TLe (T T' : List Tab) : Prop := ∀ line c P, CodeIn T line c P → CodeIn T' line c P
theorem TLe.refl (T : List Tab) : TLe T T := fun _ _ _ h => h
theorem TLe.trans {T T' T'' : List Tab} (a : TLe T T') (b : TLe T' T'') : TLe T T'' := fun l c P h => b l c P (a l c P h)
noncomputable def NotTab (o : Obj) : Prop := ∀ ps, o ≠ tabObj ps
theorem NotTab.cls {o : Obj} (h : o.cls ≠ .none) : NotTab o := fun ps e => h (by rw [e])
theorem NotTab.cell {o : Obj} {v : Option Value} (h : o.data = .cell v) : NotTab o := fun ps e => by rw [e] at h; cases h
noncomputable def NoTab (news : List (Addr × Obj)) : Prop := ∀ p ∈ news, NotTab p.2
theorem NoTab.nil : NoTab [] := fun _ h => nomatch h
theorem NoTab.cons {p : Addr × Obj} {l : List (Addr × Obj)} (h : NotTab p.2) (r : NoTab l) : NoTab (p :: l) := fun q hq => by rcases List.mem_cons.mp hq with rfl | hq; exact h; exact r q hq
theorem NoTab.append {l l' : List (Addr × Obj)} (a : NoTab l) (b : NoTab l') : NoTab (l ++ l') := fun q hq => (List.mem_append.mp hq).elim (a q) (b q)

theorem triplesOk_triples : ∀ l : List (Pos × Addr), TriplesOk (triples l)
  | [] => trivial
  | (_, _) :: r => triplesOk_triples r
theorem codeAmong_find (pos : Pos) : ∀ l : List (Pos × Addr), codeAmong pos (triples l) = (l.find? fun q => decide (q.1.line = pos.line ∧ q.1.col = pos.col)).map fun q => .ref q.2
  | [] => rfl
  | (q, e) :: r => by
    show (if (((q.line : Nat) : Int) == ((pos.line : Nat) : Int) && ((q.col : Nat) : Int) == ((pos.col : Nat) : Int)) = true then some (Value.ref e) else codeAmong pos (triples r)) = _
    by_cases h : q.line = pos.line ∧ q.col = pos.col
    · rw [List.find?_cons_of_pos (by simpa using h), if_pos (by rw [h.1, h.2]; simp)]; rfl
    · rw [List.find?_cons_of_neg (by simpa using h), if_neg (by
        intro hh
        simp only [Bool.and_eq_true, beq_iff_eq] at hh
        exact h ⟨by omega, by omega⟩)]
      exact codeAmong_find pos r

theorem mem_entsOf {T : List Tab} {p : Addr × Obj} : p ∈ entsOf T ↔ ∃ t ∈ T, p ∈ t.ents := List.mem_flatMap
theorem code_mem {T : List Tab} {t : Tab} {e : Ent} (ht : t ∈ T) (he : e ∈ t.es) : (e.c, e.oc) ∈ entsOf T := mem_entsOf.mpr ⟨t, ht, .tail _ (List.mem_map.mpr ⟨e, he, rfl⟩)⟩
theorem tab_mem {T : List Tab} {t : Tab} (ht : t ∈ T) : (t.P, tabObj (triples t.trip).toArray) ∈ entsOf T := mem_entsOf.mpr ⟨t, ht, .head _⟩
theorem ents_kinds {T : List Tab} (I : TabInv T) {p : Addr × Obj} (hp : p ∈ entsOf T) : (∃ t ∈ T, p = (t.P, tabObj (triples t.trip).toArray)) ∨ (∃ t ∈ T, ∃ e ∈ t.es, p = (e.c, e.oc) ∧ p.2.cls = .type "code") := by
  obtain ⟨t, ht, hp⟩ := mem_entsOf.mp hp
  rcases List.mem_cons.mp hp with rfl | hp
  · exact .inl ⟨t, ht, rfl⟩
  · obtain ⟨e, he, rfl⟩ := List.mem_map.mp hp
    obtain ⟨⟨_, _, _, _, _, _, _, _, _, hc, _⟩, _⟩ := I.2.2 t ht e he
    exact .inr ⟨t, ht, e, he, rfl, hc⟩
theorem ents_cls {T : List Tab} (I : TabInv T) {p : Addr × Obj} (hp : p ∈ entsOf T) : p.2.cls = .none ∨ p.2.cls = .type "code" := by
  rcases ents_kinds I hp with ⟨t, _, rfl⟩ | ⟨t, _, e, _, rfl, h⟩
  · exact .inl rfl
  · exact .inr h

/-- the table at `P` with one entry more; the new code's own table stands at the end -/
noncomputable def grow (P : Addr) (n : Ent) (T : List Tab) : List Tab := (T.map fun t => if t.P = P then { t with es := t.es ++ [n] } else t) ++ [⟨n.P, []⟩]
theorem grow_P (P : Addr) (n : Ent) (T : List Tab) : (grow P n T).map (·.P) = T.map (·.P) ++ [n.P] := by
  unfold grow
  rw [List.map_append, List.map_map]
  congr 1
  refine List.map_congr_left fun t _ => ?_
  show (if t.P = P then ({ t with es := t.es ++ [n] } : Tab) else t).P = t.P
  split <;> rfl
theorem grow_inv {P : Addr} {n : Ent} {T : List Tab} (I : TabInv T) (hn : CodeObj n.oc (qOf n.pos.line) n.P) (hf : n.P ∉ T.map (·.P)) : TabInv (grow P n T) := by
  refine ⟨?_, ?_, ?_⟩
  · rw [grow_P, List.nodup_append]
    exact ⟨I.1, by simp, fun a ha b hb => by rw [List.mem_singleton.mp hb]; rintro rfl; exact hf ha⟩
  · intro Q hQ; rw [grow_P]; exact List.mem_append_left _ (I.2.1 Q hQ)
  · intro t ht e he
    rw [grow_P]
    rcases List.mem_append.mp ht with ht | ht
    · obtain ⟨t₀, ht₀, rfl⟩ := List.mem_map.mp ht
      (try dsimp only at he)
      split at he
      · rcases List.mem_append.mp he with he | he
        · obtain ⟨a, b⟩ := I.2.2 t₀ ht₀ e he
          exact ⟨a, List.mem_append_left _ b⟩
        · rw [List.mem_singleton.mp he]
          exact ⟨hn, List.mem_append_right _ (.head _)⟩
      · obtain ⟨a, b⟩ := I.2.2 t₀ ht₀ e he
        exact ⟨a, List.mem_append_left _ b⟩
    · rw [List.mem_singleton.mp ht] at he
      exact absurd he List.not_mem_nil
theorem grow_le {P : Addr} {n : Ent} {T : List Tab} : TLe T (grow P n T) := fun line c Q ⟨t, ht, e, he, h⟩ => by
  refine ⟨_, List.mem_append_left _ (List.mem_map.mpr ⟨t, ht, rfl⟩), e, ?_, h⟩
  (try dsimp only)
  split
  · exact List.mem_append_left _ he
  · exact he
theorem grow_new {P : Addr} {n : Ent} {T : List Tab} (h : P ∈ T.map (·.P)) : CodeIn (grow P n T) n.pos.line n.c n.P := by
  obtain ⟨t, ht, rfl⟩ := List.mem_map.mp h
  exact ⟨_, List.mem_append_left _ (List.mem_map.mpr ⟨t, ht, rfl⟩), n, by (try dsimp only); rw [if_pos rfl]; exact List.mem_append_right _ (.head _), rfl, rfl, rfl⟩
theorem grow_ents {P : Addr} {n : Ent} {T : List Tab} {p : Addr × Obj} (hp : p ∈ entsOf (grow P n T)) :
    (p ∈ entsOf T ∧ ((∃ t ∈ T, p = (t.P, tabObj (triples t.trip).toArray)) → p.1 ≠ P)) ∨ (∃ t ∈ T, t.P = P ∧ p = (P, tabObj (triples (t.trip ++ [(n.pos, n.c)])).toArray)) ∨ p = (n.c, n.oc) ∨ p = (n.P, tabObj #[]) ∨ (∃ t ∈ T, ∃ e ∈ t.es, p = (e.c, e.oc)) := by
  obtain ⟨t, ht, hp⟩ := mem_entsOf.mp hp
  rcases List.mem_append.mp ht with ht | ht
  · obtain ⟨t₀, ht₀, rfl⟩ := List.mem_map.mp ht
    (try dsimp only at hp)
    split at hp
    · rename_i hP
      rcases List.mem_cons.mp hp with rfl | hp
      · refine .inr (.inl ⟨t₀, ht₀, hP, ?_⟩)
        rw [← hP]
        unfold Tab.trip
        rw [List.map_append]
        rfl
      · obtain ⟨e, he, rfl⟩ := List.mem_map.mp hp
        rcases List.mem_append.mp he with he | he
        · exact .inr (.inr (.inr (.inr ⟨t₀, ht₀, e, he, rfl⟩)))
        · rw [List.mem_singleton.mp he]; exact .inr (.inr (.inl rfl))
    · rename_i hP
      rcases List.mem_cons.mp hp with rfl | hp
      · exact .inl ⟨tab_mem ht₀, fun _ => hP⟩
      · obtain ⟨e, he, rfl⟩ := List.mem_map.mp hp
        exact .inr (.inr (.inr (.inr ⟨t₀, ht₀, e, he, rfl⟩)))
  · rw [List.mem_singleton.mp ht] at hp
    rcases List.mem_cons.mp hp with rfl | hp
    · exact .inr (.inr (.inr (.inl rfl)))
    · exact absurd hp List.not_mem_nil

section
variable {M : Model} {A : Around} {E : Value → Shared → Prop} {s : Shared} {name qual : Str} {params : Arguments} {body : FuncBody} {scope : Scope} {env : Env} {c P : Addr} {ps : Array Value} {pos : Pos} {firstLine : Nat} {mg : Str → Option Value}
  {clos : List (Str × Addr)} {Q : Value → Shared → Prop}
noncomputable def fnObj (name qual : Str) (params : Arguments) (body : FuncBody) (scope : Scope) (clos : List (Str × Addr)) (doc pm : Value) (c' : Addr) (ctv : Value) : Obj :=
  { cls := .type "function", data := .func { name, qualname := qual, params, body, scope, globals := mainGlobals, closure := clos, defaults := .none, kwdefaults := .none, doc, pyModule := pm, annotations := none, code := .ref c', closureTuple := ctv, builtins := builtinsNs } }
noncomputable def MkOut (h h' : Heap) (P : Addr) (ps : Array Value) (pos : Pos) (qual : Str) (c' : Addr) : Prop :=
  (h'.get? P = some (tabObj ps) ∧ (∀ b o, h.get? b = some o → h'.get? b = some o) ∧ codeAmong pos ps.toList = some (.ref c')) ∨
  (codeAmong pos ps.toList = none ∧ Heap.ExtBut P h h' ∧ h.objs.size ≤ c' ∧ h'.get? P = some (tabObj (ps ++ #[rawInt pos.line, rawInt pos.col, .ref c'])) ∧ ∃ oc P', h.objs.size ≤ P' ∧ h'.get? c' = some oc ∧ h'.get? P' = some (tabObj #[]) ∧ CodeObj oc qual P')
theorem codeObj_of {h : Heap} {c P : Addr} {qual : Str} (hr : h.CodeRec (.ref c) qual) (hd : CodeHd h c P) : ∃ oc, h.get? c = some oc ∧ CodeObj oc qual P := by
  obtain ⟨c₂, oc, vs, t, e, ho, hdat, h1⟩ := hr
  cases e
  obtain ⟨o, vs', file, tf, flags, tg, inF, text, tt, e1, r1, r2, r3, r4, r5, r6, r7, r8, _⟩ := hd
  rw [ho] at e1
  cases e1
  rw [hdat] at r2
  cases r2
  exact ⟨oc, ho, vs, file, tf, flags, tg, inF, text, tt, t, r1, hdat, h1, r3, r4, r5, r6, r7, r8⟩
theorem codeHd_of {h : Heap} {c P : Addr} {qual : Str} {oc : Obj} {ps : Array Value} (ho : h.get? c = some oc) (hc : CodeObj oc qual P) (hP : h.get? P = some (tabObj ps)) : CodeHd h c P := by
  obtain ⟨vs, file, tf, flags, tg, inF, text, tt, tk, r1, r2, r3, r4, r5, r6, r7, r8, r9⟩ := hc
  refine ⟨oc, vs, file, tf, flags, tg, inF, text, tt, ho, r1, r2, r4, r5, r6, r7, r8, r9, ?_⟩
  rintro rfl
  rw [ho] at hP
  cases hP
  cases r1
theorem codeRec_of' {h : Heap} {c P : Addr} {qual : Str} {oc : Obj} (ho : h.get? c = some oc) (hc : CodeObj oc qual P) : h.CodeRec (.ref c) qual := by
  obtain ⟨vs, file, tf, flags, tg, inF, text, tt, tk, r1, r2, r3, _⟩ := hc
  exact ⟨c, oc, vs, tk, rfl, ho, r2, r3⟩

theorem mk_tail {c₀ : Addr} (hcl : closureFor scope env = pure clos) (hge0 : env.globals = mainGlobals) (hg : s.heap.Ns mainGlobals mg) (hcode : env.code = .ref c) (C : CodeHd s.heap c P) (hP : s.heap.get? P = some (tabObj ps)) (ht : TriplesOk ps.toList)
    (hc : codeAmong pos ps.toList = none ∨ codeAmong pos ps.toList = some (.ref c₀)) (hgP : mainGlobals ≠ P) (hb : s.heap.BuiltinsAt mg P)
    (h : ∀ c' ctv doc h' tk, MkOut s.heap h' P ps pos qual c' → ((∃ e, body = .expr e) → doc = .none) → s.heap.objs.size ≤ h'.objs.size → c' < h'.objs.size →
      Q (.ref h'.objs.size) { s with heap := h'.push (fnObj name qual params body scope clos doc ((mg "__name__").getD .none) c' ctv), toks := tk })
    (hlt : ∀ c₁, codeAmong pos ps.toList = some (.ref c₁) → c₁ < s.heap.objs.size) :
    wpAny M A (makeFunction name qual params body scope env [] [] [] pos firstLine) Q E s := by
  rw [makeFunction_eq]
  simp only [List.zip_nil_right, List.filterMap_nil, List.isEmpty_nil, if_true, pure_bind]
  obtain ⟨bm, ob, hbm, hne0, _, hneP, hbo, hcls, hdict, hdata⟩ := hb
  unfold makeTail
  rw [hcl, hge0]
  refine wpAny_bind (wpAny_pure ?_)
  cases clos with
  | nil =>
    simp only [List.isEmpty_nil, if_true]
    refine wpAny_bind (wpAny_pure ?_)
    rcases hc with hn | hs
    · refine wpAny_bind (wpAny_functionCodeX hcode (C.code hP ht) (C.tab hP) hn fun c' h' tk hx hge hlt' _ hrec htb hnew => ?_)
      obtain ⟨P', hP'1, hP'2, hP'3⟩ := hnew
      obtain ⟨oc, ho, hco⟩ := codeObj_of hrec (CodeHd.of hP'2 hP'3)
      have hg' := hg.extBut hx hgP
      have out : MkOut s.heap h' P ps pos qual c' := .inr ⟨hn, hx, hge, htb.2, oc, P', hP'1, ho, hP'3.2, hco⟩
      have hz : s.heap.objs.size ≤ h'.objs.size := by omega
      refine wpAny_bind (wpAny_builtinsFor hg' hbm hne0 (hx _ _ hneP hbo) hcls hdict hdata ?_)
      refine wpAny_bind (wpAny_nsGet hg' ?_)
      cases body with
      | expr e => exact wpAny_bind (wpAny_pure (wpAny_newObj_type (h c' .none .none h' tk out (fun _ => rfl) hz hlt') (by size_fits)))
      | stmts b =>
        try dsimp only
        cases hdoc : docOf b with
        | none => exact wpAny_bind (wpAny_pure (wpAny_newObj_type (h c' .none .none h' tk out (fun _ => rfl) hz hlt') (by size_fits)))
        | some t => exact wpAny_bind (wpAny_mkText (wpAny_newObj_type (h c' .none _ h' _ out (fun ⟨e, he⟩ => nomatch he) hz hlt') (by size_fits)))
    · refine wpAny_bind (wpAny_functionCode_hit hcode (C.code hP ht) hs ?_)
      have out : MkOut s.heap s.heap P ps pos qual c₀ := .inl ⟨hP, fun _ _ e => e, hs⟩
      refine wpAny_bind (wpAny_builtinsFor hg hbm hne0 hbo hcls hdict hdata ?_)
      refine wpAny_bind (wpAny_nsGet hg ?_)
      cases body with
      | expr e => exact wpAny_bind (wpAny_pure (wpAny_newObj_type (h c₀ .none .none s.heap s.toks out (fun _ => rfl) (Nat.le_refl _) (hlt _ hs)) (by size_fits)))
      | stmts b =>
        try dsimp only
        cases hdoc : docOf b with
        | none => exact wpAny_bind (wpAny_pure (wpAny_newObj_type (h c₀ .none .none s.heap s.toks out (fun _ => rfl) (Nat.le_refl _) (hlt _ hs)) (by size_fits)))
        | some t => exact wpAny_bind (wpAny_mkText (wpAny_newObj_type (h c₀ .none _ s.heap _ out (fun ⟨e, he⟩ => nomatch he) (Nat.le_refl _) (hlt _ hs)) (by size_fits)))
  | cons q r =>
    simp only [List.isEmpty_cons, Bool.false_eq_true, if_false]
    refine wpAny_bind (wpAny_newTextTuple ?_)
    have kp : ∀ (o' : Obj) b o, s.heap.get? b = some o → (s.heap.push o').get? b = some o := fun o' b o e => Heap.get?_push_of_some _ e
    rcases hc with hn | hs
    · refine wpAny_bind (wpAny_functionCodeX hcode ((C.keeps (kp _)).code (kp _ _ _ hP) ht) ((C.keeps (kp _)).tab (kp _ _ _ hP)) hn fun c' h' tk hx hge hlt' _ hrec htb hnew => ?_)
      obtain ⟨P', hP'1, hP'2, hP'3⟩ := hnew
      obtain ⟨oc, ho, hco⟩ := codeObj_of hrec (CodeHd.of hP'2 hP'3)
      have hg' := (hg.push _).extBut hx hgP
      have hx' : Heap.ExtBut P s.heap h' := fun b o hb' e => hx b o hb' (Heap.get?_push_of_some _ e)
      have hge' : s.heap.objs.size ≤ c' := Nat.le_trans (by rw [Heap.size_push]; omega) hge
      have out : MkOut s.heap h' P ps pos qual c' := .inr ⟨hn, hx', hge', htb.2, oc, P', Nat.le_trans (by rw [Heap.size_push]; omega) hP'1, ho, hP'3.2, hco⟩
      have hz : s.heap.objs.size ≤ h'.objs.size := by omega
      refine wpAny_bind (wpAny_builtinsFor hg' hbm hne0 (hx' _ _ hneP hbo) hcls hdict hdata ?_)
      refine wpAny_bind (wpAny_nsGet hg' ?_)
      cases body with
      | expr e => exact wpAny_bind (wpAny_pure (wpAny_newObj_type (h c' _ .none h' tk out (fun _ => rfl) hz hlt') (by size_fits)))
      | stmts b =>
        try dsimp only
        cases hdoc : docOf b with
        | none => exact wpAny_bind (wpAny_pure (wpAny_newObj_type (h c' _ .none h' tk out (fun _ => rfl) hz hlt') (by size_fits)))
        | some t => exact wpAny_bind (wpAny_mkText (wpAny_newObj_type (h c' _ _ h' _ out (fun ⟨e, he⟩ => nomatch he) hz hlt') (by size_fits)))
    · refine wpAny_bind (wpAny_functionCode_hit hcode ((C.keeps (kp _)).code (kp _ _ _ hP) ht) hs ?_)
      have hz : ∀ oT : Obj, s.heap.objs.size ≤ (s.heap.push oT).objs.size := fun oT => by rw [Heap.size_push]; omega
      have out : ∀ oT : Obj, MkOut s.heap (s.heap.push oT) P ps pos qual c₀ := fun oT => .inl ⟨kp _ _ _ hP, kp _, hs⟩
      refine wpAny_bind (wpAny_builtinsFor (hg.push _) hbm hne0 (kp _ _ _ hbo) hcls hdict hdata ?_)
      refine wpAny_bind (wpAny_nsGet (hg.push _) ?_)
      cases body with
      | expr e => exact wpAny_bind (wpAny_pure (wpAny_newObj_type (h c₀ _ .none _ s.toks (out _) (fun _ => rfl) (hz _) (Nat.lt_of_lt_of_le (hlt _ hs) (hz _))) (by size_fits)))
      | stmts b =>
        try dsimp only
        cases hdoc : docOf b with
        | none => exact wpAny_bind (wpAny_pure (wpAny_newObj_type (h c₀ _ .none _ s.toks (out _) (fun _ => rfl) (hz _) (Nat.lt_of_lt_of_le (hlt _ hs) (hz _))) (by size_fits)))
        | some t => exact wpAny_bind (wpAny_mkText (wpAny_newObj_type (h c₀ _ _ _ _ (out _) (fun ⟨e, he⟩ => nomatch he) (hz _) (Nat.lt_of_lt_of_le (hlt _ hs) (hz _))) (by size_fits)))
end

section
variable {M : Model} {A : Around} {E : Value → Shared → Prop} {s : Shared} {name qual : Str} {params : Arguments} {body : FuncBody} {scope : Scope} {env : Env} {c P : Addr} {pos : Pos} {firstLine : Nat} {mg mb : Str → Option Value}
  {clos : List (Str × Addr)} {Q : Value → Shared → Prop} {T : List Tab} {news : List (Addr × Obj)} {h₀ : Heap} {L : Addr} {m : Str → Option Value} {p : Program} {loose : List Str} {mean : ExcName → Option Value}
theorem tab_core (I : TabInv T) (F : Fr h₀ L s.heap m) (N : News h₀ L s.heap (news ++ entsOf T)) (NT : NoTab news) (Tp : Top p loose mean mg mb h₀) (hin : P ∈ T.map (·.P)) (C : CodeHd s.heap c P)
    (hcode : env.code = .ref c) (hge0 : env.globals = mainGlobals) (hcl : closureFor scope env = pure clos) (hq : qual = qOf pos.line)
    (h : ∀ f c' P' T' doc ctv h' tk, TabInv T' → TLe T T' → CodeIn T' pos.line c' P' → Fr h₀ L h' m →
      News h₀ L h' ((f, fnObj name qual params body scope clos doc ((mg "__name__").getD .none) c' ctv) :: (news ++ entsOf T')) → ((∃ e, body = .expr e) → doc = .none) → (∀ q ∈ news, q.1 < f) → Q (.ref f) { s with heap := h', toks := tk }) :
    wpAny M A (makeFunction name qual params body scope env [] [] [] pos firstLine) Q E s := by
  obtain ⟨t, ht, rfl⟩ := List.mem_map.mp hin
  have hm := N _ (List.mem_append_right _ (tab_mem ht))
  have hgs := Tp.g.keeps F.keep
  obtain ⟨bm, ob, b1, b2, b3, b4, b5, b6⟩ := Tp.bmain
  have hgP : mainGlobals ≠ t.P := fun q => by
    obtain ⟨o, es, ep, e, hd, _⟩ := hgs
    rw [q, hm.1] at e; cases e; cases hd
  have hbP : bm ≠ t.P := fun q => by
    have e := F.keep _ _ b3
    rw [q, hm.1] at e; cases e; cases b4
  have hbG : bm ≠ mainGlobals := fun q => by
    obtain ⟨o, es, ep, e, hd, _⟩ := Tp.g
    rw [q, e] at b3; cases b3; rw [hd] at b6; cases b6
  have hLs : L < s.heap.objs.size := F.ns.lt
  have fresh : ∀ b, L < b → h₀.get? b = none := fun b hb => Heap.get?_none_of_le (Nat.le_trans F.above (Nat.le_of_lt hb))
  have hfind := codeAmong_find pos t.trip
  -- a hit names an entry
  have hits : ∀ v, codeAmong pos (triples t.trip) = some v → ∃ e ∈ t.es, v = .ref e.c ∧ e.pos.line = pos.line := fun v hv => by
    rw [hfind] at hv
    obtain ⟨q, h1, h2⟩ := Option.map_eq_some_iff.mp hv
    have h3 := List.find?_some h1
    obtain ⟨e, he, rfl⟩ := List.mem_map.mp (List.mem_of_find?_eq_some h1)
    simp only [decide_eq_true_eq] at h3
    exact ⟨e, he, h2.symm, h3.1⟩
  have inHeap : ∀ e ∈ t.es, s.heap.get? e.c = some e.oc := fun e he => (N _ (List.mem_append_right _ (code_mem ht he))).1
  have neP : ∀ q : Addr × Obj, s.heap.get? q.1 = some q.2 → NotTab q.2 → q.1 ≠ t.P := fun q hq hc e => by
    rw [e, hm.1] at hq; exact hc _ (Option.some.inj hq).symm
  obtain ⟨c₀, hc⟩ : ∃ c₀, codeAmong pos (triples t.trip) = none ∨ codeAmong pos (triples t.trip) = some (.ref c₀) := by
    cases hh : codeAmong pos (triples t.trip) with
    | none => exact ⟨0, .inl rfl⟩
    | some v => obtain ⟨e, _, rfl, _⟩ := hits v hh; exact ⟨e.c, .inr rfl⟩
  refine mk_tail (c₀ := c₀) (ps := (triples t.trip).toArray) hcl hge0 hgs hcode C hm.1 (triplesOk_triples _) hc hgP ⟨bm, ob, b1, b2, hbG, hbP, F.keep _ _ b3, b4, b5, b6⟩ (fun c' ctv doc h' tk hout hdoc hz hlt => ?_) (fun c₁ h1 => ?_)
  · have hLf : L < h'.objs.size := Nat.lt_of_lt_of_le hLs hz
    have nf : ∀ q ∈ news, q.1 < h'.objs.size := fun q hq => Nat.lt_of_lt_of_le (Heap.lt_size (N q (List.mem_append_left _ hq)).1) hz
    rcases hout with ⟨hP', hk, hhit⟩ | ⟨hmiss, hx, hge, hP', oc, P', hP2, ho, hPt, hco⟩
    · obtain ⟨e, he, e1, e2⟩ := hits _ hhit
      cases e1
      refine h h'.objs.size e.c e.P T doc ctv _ tk I (TLe.refl T) ⟨t, ht, e, he, e2, rfl, rfl⟩ ⟨(F.ns.keeps hk).push _, fun b o e => Heap.get?_push_of_some _ (hk b o (F.keep b o e)), F.above⟩ (fun q hq => ?_) hdoc nf
      rcases List.mem_cons.mp hq with rfl | hq
      · exact ⟨Heap.get?_push_size _ rfl, Nat.ne_of_gt hLf, fresh _ hLf⟩
      · exact ⟨Heap.get?_push_of_some _ (hk _ _ (N q hq).1), (N q hq).2⟩
    · have old : ∀ b o, h₀.get? b = some o → h'.get? b = some o := fun b o e => hx b o (fun q => by rw [q, hm.2.2] at e; cases e) (F.keep b o e)
      have hPn : P' ∉ T.map (·.P) := fun hh => by
        obtain ⟨t', ht', e⟩ := List.mem_map.mp hh
        have hl : t'.P < s.heap.objs.size := Heap.lt_size (N _ (List.mem_append_right _ (tab_mem ht'))).1
        have e9 : t'.P = P' := e
        rw [e9] at hl
        exact absurd hl (Nat.not_lt.mpr hP2)
      have I' : TabInv (grow t.P ⟨pos, c', oc, P'⟩ T) := grow_inv I (by rw [← hq]; exact hco) hPn
      refine h h'.objs.size c' P' (grow t.P ⟨pos, c', oc, P'⟩ T) doc ctv _ tk I' grow_le (grow_new hin) ⟨(F.ns.extBut hx hm.2.1.symm).push _, fun b o e => Heap.get?_push_of_some _ (old b o e), F.above⟩ (fun q hq => ?_) hdoc nf
      rcases List.mem_cons.mp hq with rfl | hq
      · exact ⟨Heap.get?_push_size _ rfl, Nat.ne_of_gt hLf, fresh _ hLf⟩
      · rcases List.mem_append.mp hq with hq | hq
        · have n := N q (List.mem_append_left _ hq)
          exact ⟨Heap.get?_push_of_some _ (hx _ _ (neP q n.1 (NT q hq)) n.1), n.2⟩
        · have hLc : L < c' := Nat.lt_of_lt_of_le hLs hge
          have hLP : L < P' := Nat.lt_of_lt_of_le hLs hP2
          have code : ∀ t' ∈ T, ∀ e ∈ t'.es, q = (e.c, e.oc) → h'.get? q.1 = some q.2 ∧ q.1 ≠ L ∧ h₀.get? q.1 = none := fun t' ht' e he hqe => by
            subst hqe
            have n := N _ (List.mem_append_right _ (code_mem ht' he))
            obtain ⟨⟨_, _, _, _, _, _, _, _, _, hcls, _⟩, _⟩ := I.2.2 t' ht' e he
            exact ⟨hx _ _ (neP (e.c, e.oc) n.1 (NotTab.cls (by show e.oc.cls ≠ _; rw [hcls]; exact fun hh => nomatch hh))) n.1, n.2⟩
          have key : h'.get? q.1 = some q.2 ∧ q.1 ≠ L ∧ h₀.get? q.1 = none := by
            rcases grow_ents hq with ⟨hq, hne⟩ | ⟨t', ht', e1, rfl⟩ | rfl | rfl | ⟨t', ht', e, he, hqe⟩
            · have n := N q (List.mem_append_right _ hq)
              rcases ents_kinds I hq with hh | ⟨t', ht', e, he, hqe, _⟩
              · exact ⟨hx _ _ (hne hh) n.1, n.2⟩
              · exact code t' ht' e he hqe
            · have n := N _ (List.mem_append_right _ (tab_mem ht'))
              rw [e1] at n
              have e2 : triples t'.trip = triples t.trip := by
                have e3 := n.1.symm.trans hm.1
                simp only [Option.some.injEq, Obj.mk.injEq, Data.fields.injEq, true_and, and_true] at e3
                have e4 := congrArg Array.toList e3
                simpa using e4
              refine ⟨?_, n.2⟩
              show h'.get? t.P = _
              rw [hP', triples_append, e2]
              simp
            · exact ⟨ho, Nat.ne_of_gt hLc, fresh _ hLc⟩
            · exact ⟨hPt, Nat.ne_of_gt hLP, fresh _ hLP⟩
            · exact code t' ht' e he hqe
          exact ⟨Heap.get?_push_of_some _ key.1, key.2⟩
  · obtain ⟨e, he, e1, _⟩ := hits _ h1
    cases e1
    exact Heap.lt_size (inHeap e he)
theorem codeIn_rec {line : Nat} {h : Heap} (I : TabInv T) (N : News h₀ L h (news ++ entsOf T)) (hc : CodeIn T line c P) : h.CodeRec (.ref c) (qOf line) ∧ CodeHd h c P ∧ P ∈ T.map (·.P) := by
  obtain ⟨t, ht, e, he, rfl, rfl, rfl⟩ := hc
  obtain ⟨hco, hP⟩ := I.2.2 t ht e he
  have n := N _ (List.mem_append_right _ (code_mem ht he))
  obtain ⟨t', ht', e'⟩ := List.mem_map.mp hP
  have n' := N _ (List.mem_append_right _ (tab_mem ht'))
  rw [e'] at n'
  exact ⟨codeRec_of' n.1 hco, codeHd_of n.1 hco n'.1, hP⟩
end
theorem hd_all {w : World} {h : Heap} (X : (HD.heap_39 w.params).In h) : CodeHd h 374 370 ∧ CodeHd h 367 363 ∧ CodeHd h 288 284 ∧ CodeHd h 388 384 ∧ CodeHd h 332 328 ∧ CodeHd h 325 321 ∧ CodeHd h 260 256 ∧ CodeHd h 253 249 ∧ CodeHd h 311 307 ∧ CodeHd h 204 200 := by
  refine ⟨?_, ?_, ?_, ?_, ?_, ?_, ?_, ?_, ?_, ?_⟩
  · have e := X 374 _ (by k_dflt k_is)
    exact ⟨_, _, _, _, _, _, _, _, _, e, rfl, rfl, rfl, rfl, rfl, rfl, rfl, rfl, by decide⟩
  · have e := X 367 _ (by k_dflt k_is)
    exact ⟨_, _, _, _, _, _, _, _, _, e, rfl, rfl, rfl, rfl, rfl, rfl, rfl, rfl, by decide⟩
  · have e := X 288 _ (by k_dflt k_is)
    exact ⟨_, _, _, _, _, _, _, _, _, e, rfl, rfl, rfl, rfl, rfl, rfl, rfl, rfl, by decide⟩
  · have e := X 388 _ (by k_dflt k_is)
    exact ⟨_, _, _, _, _, _, _, _, _, e, rfl, rfl, rfl, rfl, rfl, rfl, rfl, rfl, by decide⟩
  · have e := X 332 _ (by k_dflt k_is)
    exact ⟨_, _, _, _, _, _, _, _, _, e, rfl, rfl, rfl, rfl, rfl, rfl, rfl, rfl, by decide⟩
  · have e := X 325 _ (by k_dflt k_is)
    exact ⟨_, _, _, _, _, _, _, _, _, e, rfl, rfl, rfl, rfl, rfl, rfl, rfl, rfl, by decide⟩
  · have e := X 260 _ (by k_dflt k_is)
    exact ⟨_, _, _, _, _, _, _, _, _, e, rfl, rfl, rfl, rfl, rfl, rfl, rfl, rfl, by decide⟩
  · have e := X 253 _ (by k_dflt k_is)
    exact ⟨_, _, _, _, _, _, _, _, _, e, rfl, rfl, rfl, rfl, rfl, rfl, rfl, rfl, by decide⟩
  · have e := X 311 _ (by k_dflt k_is)
    exact ⟨_, _, _, _, _, _, _, _, _, e, rfl, rfl, rfl, rfl, rfl, rfl, rfl, rfl, by decide⟩
  · have e := X 204 _ (by k_dflt k_is)
    exact ⟨_, _, _, _, _, _, _, _, _, e, rfl, rfl, rfl, rfl, rfl, rfl, rfl, rfl, by decide⟩
theorem behind_JD : True := by
  w_top off
  exact True.intro
-- part JE
/-! octets: the varint of a number, and the built-ins that the library has no rule for -/
noncomputable def vi (n : Nat) : List UInt8 := if n < 128 then [n.toUInt8] else (n % 128 + 128).toUInt8 :: vi (n / 128)
termination_by n
decreasing_by omega
noncomputable def vb (v : Int) : Array UInt8 := (vi v.toNat).toArray
noncomputable def bvals (ps : List (Array UInt8 × Tok)) : List Value := ps.map fun p => .bytes p.1 p.2
noncomputable def cat (bs : List (Array UInt8)) : Array UInt8 := (bs.flatMap (·.toList)).toArray
theorem cat_nil : cat [] = #[] := rfl
theorem cat_append (a b : List (Array UInt8)) : cat (a ++ b) = cat a ++ cat b := by simp [cat]
theorem cat_one (b : Array UInt8) : cat [b] = b := by simp [cat]
theorem cat_size (bs : List (Array UInt8)) : (cat bs).size = (bs.map (·.size)).sum := by
  induction bs with
  | nil => rfl
  | cons b r ih => simp [cat] at ih ⊢

section
open PySem.Builtin PySem.Calls
theorem slot_join : Slot "bytes" "join" "bytes.join" :=
  .of (owner := "bytes") (n := "join") (by rw [typeLookup_type, builtinLookup_eq_fast]; kernel_rfl) (by decide +kernel) (by decide +kernel) (by decide +kernel)
    (by first | exact .inl (by decide +kernel) | exact .inr (by decide +kernel)) (by rw [isSubtype_type]; kernel_rfl)
theorem type_join : typeOf (.builtin "bytes.join") = pure (.type "method_descriptor") := by show builtinType _ = _; rw [builtinType_eq_fast]; kernel_rfl
theorem entry_join : entryFor table "bytes.join" = some Builtin.«bytes.join» := entryFor_of_tree (by kernel_rfl)
theorem args_join_2 (a b : Value) : argsOk "bytes.join" ⟨[a, b], []⟩ := by
  unfold argsOk; rw [signature?_of (id := "bytes.join") (n := ['n', 'i', 'o', 'j']) (o := ['s', 'e', 't', 'y', 'b']) (by kernel_rfl) FB.owner_bytes]; kernel_rfl
theorem buffer_any {id : String} {b : Array UInt8} {t : Tok} {full : Bool} : Bytes.buffer? id (.bytes b t) full = pure (some b) := by
  unfold Bytes.buffer?
  rw [KBy.special_eq KBy.look_buffer, KBy.own_buffer, KBy.own_release]
  kernel_rfl
theorem take_eq {id : String} {b : Array UInt8} {t : Tok} : Bytes.takeBufferQuiet? id (.bytes b t) 0 = pure (some (b, none)) := by
  unfold Bytes.takeBufferQuiet? Bytes.takeBuffer?
  rw [KBy.special_eq KBy.look_buffer, KBy.own_buffer, buffer_any]
  kernel_rfl
theorem joined_eq (bs : List (Array UInt8)) : Bytes.joined #[] bs = cat bs := by
  unfold Bytes.joined
  have : ∀ (bs : List (Array UInt8)) (k : Nat) (o : Array UInt8), (bs.zipIdx k).foldl (fun out x => (if x.2 > 0 then out ++ #[] else out) ++ x.1) o = o ++ cat bs := by
    intro bs
    induction bs with
    | nil => intro k o; simp [cat]
    | cons b r ih =>
      intro k o
      rw [List.zipIdx_cons, List.foldl_cons, ih]
      have : (if k > 0 then o ++ #[] else o) = o := by split <;> simp
      rw [this]
      apply Array.toList_inj.mp
      simp [cat]
  simpa using this bs 0 #[]
variable {prog : Program} {w : World} {A : Around} {E : Value → Shared → Prop} {s : Shared}
theorem forIn_inv {M : Model} {β : Type} {f : Nat → β → Sem (ForInStep β)} {Q : β → Shared → Prop} (I : Nat → β → Prop) (n : Nat) : ∀ (a : Nat) (b : β), I a b →
    (∀ i b, a ≤ i → i < a + n → I i b → wpAny M A (f i b) (fun r s' => s' = s ∧ ∃ b', r = .yield b' ∧ I (i + 1) b') E s) → (∀ b, I (a + n) b → Q b s) → wpAny M A (forIn (List.range' a n 1) b f) Q E s := by
  induction n with
  | zero =>
    intro a b h0 _ hq
    show wpAny M A (forIn [] b f) Q E s
    rw [List.forIn_nil]
    exact wpAny_pure (hq b h0)
  | succ n ih =>
    intro a b h0 hs hq
    rw [List.range'_succ]
    refine KPc.turn (wpAny_mono (hs a b (Nat.le_refl _) (by omega) h0) (fun r s' hr => ?_) fun _ _ e => e)
    obtain ⟨rfl, b', rfl, hb⟩ := hr
    exact ih (a + 1) b' hb (fun i b h1 h2 => hs i b (by omega) (by omega)) (fun b hb => hq b (by rw [show a + (n + 1) = a + 1 + n by omega]; exact hb))
theorem letGo_bytes {M : Model} {Q : Unit → Shared → Prop} (keep : List Value) (h : Q () s) : ∀ l : List (Array UInt8 × Tok), wpAny M A (Bytes.joinLetGo (l.map fun p => (.bytes p.1 p.2, none)) keep) Q E s
  | [] => wpAny_pure h
  | p :: r => by
    show wpAny M A (letGo _ _ >>= fun _ => Bytes.joinLetGo (r.map _) keep) Q E s
    exact wpAny_bind (wpAny_letGo (letGo_bytes keep h r))
theorem method_join {M : Model} {b : Array UInt8} {t : Tok} {pl : Sem Bool} {Q : Value × List Value → Shared → Prop} (h : Q (.builtin "bytes.join", [.bytes b t]) s) : wpAny M A (getMethod (.bytes b t) (Str.ofString "join") pl) Q E s := by
  with_reducible exact KBd.method_of (.bytes b t) (typeIs_bytes _ _ _) slot_join type_join KBd.noRef h
theorem join_K {l : Addr} {t : Tok} {ps : List (Array UInt8 × Tok)} {Q : Value → Shared → Prop} (hl : s.heap.IsList l (bvals ps).toArray) (hz : (cat (ps.map (·.1))).size ≤ 16777216)
    (h : ∀ t k, Q (.bytes (cat (ps.map (·.1))) t) { s with toks := k }) : wpAny (model prog w) A (call (.builtin "bytes.join") [.bytes #[] t, .ref l]) Q E s := by
  refine wpAny_call_entry slot_join (typeIs_bytes _ _ _) entry_join ?_ (args_join_2 _ _)
  obtain ⟨o, ho, hc, n, hd⟩ := id hl
  unfold Builtin.«bytes.join» Bytes.joinM
  have seqs : ∀ {Q : Option (Array Value) → Shared → Prop}, Q (some (bvals ps).toArray) s → wpAny (model prog w) A.in1 (PySem.seqItems? (.ref l)) Q E s := fun hq => by
    unfold PySem.seqItems?
    refine wpAny_bind (wpAny_load ho ?_)
    rw [hd]
    exact wpAny_pure hq
  refine wpAny_bind (wpAny_of_eq (a := (Value.bytes #[] t, Value.ref l)) rfl ?_)
  refine bm_if_true (by decide) ?_
  unfold Bytes.joinItems
  refine wpAny_bind (wpAny_bind (wpAny_typeOf hl.typeIs (bm_if_true (by decide) (wpAny_pure ?_))))
  refine wpAny_bind (seqs ?_)
  refine bm_if_true (by decide) ?_
  have len : (bvals ps).toArray.size = ps.length := by simp [bvals]
  have at_ : ∀ i (p : Array UInt8 × Tok), ps[i]? = some p → (bvals ps).toArray.getD i .none = .bytes p.1 p.2 := fun i p hp => by simp [bvals, Array.getD_eq_getD_getElem?, hp]
  cases ps with
  | nil =>
    show wpAny _ _ (forIn [:(bvals ([] : List (Array UInt8 × Tok))).toArray.size] (#[], []) _ >>= _) _ _ _
    refine wpAny_bind ?_
    rw [KPc.range_list]
    generalize hps : ([] : List (Array UInt8 × Tok)) = ps at *
    refine forIn_inv (fun i b => b = (((ps.take i).map (·.1)).toArray, (ps.take i).map fun p => (.bytes p.1 p.2, none))) _ 0 _ rfl ?_ ?_
    · rintro i b _ hi rfl
      rw [len] at hi
      obtain ⟨p, hp⟩ : ∃ p, ps[i]? = some p := ⟨_, List.getElem?_eq_getElem (by omega)⟩
      refine wpAny_bind (seqs ?_)
      refine bm_if_false (by rw [List.any_eq_false.mpr (fun x hx => by obtain ⟨p, _, rfl⟩ := List.mem_map.mp hx; exact Bool.false_ne_true)]; decide) ?_
      dsimp only
      rw [at_ i p hp]
      refine wpAny_bind (wpAny_holding (wpAny_of_eq take_eq ?_))
      refine wpAny_bind (seqs ?_)
      refine bm_if_false (by simp) (wpAny_pure ⟨rfl, _, rfl, ?_⟩)
      rw [List.take_add_one, hp]
      simp
    · rintro b rfl
      rw [len, Nat.zero_add, List.take_length]
      refine wpAny_bind (wpAny_of_eq (a := (#[] : Array UInt8)) rfl ?_)
      refine bm_if_false ?_ ?_
      · refine KBy.tooLong_not ?_
        rw [cat_size] at hz
        have e : ∀ (l : List (Array UInt8)) (k : Nat), l.toArray.foldl (fun x1 x2 => x1 + x2.size) k = k + (l.map (·.size)).sum := by
          intro l
          induction l with
          | nil => intro k; simp
          | cons x r ih => intro k; simp at ih ⊢; rw [ih]; omega
        rw [e]
        simpa using hz
      · refine wpAny_bind (wpAny_mkBytes ?_ ?_)
        · refine wpAny_bind (wpAny_holding (wpAny_point (wpAny_bind (letGo_bytes _ ?_ ps))))
          refine wpAny_pure ⟨_, rfl, ?_⟩
          have := h s.toks (s.toks + 1)
          rw [← joined_eq] at this
          exact this
        · show (Bytes.joined #[] _).size ≤ sizeLine
          rw [joined_eq, sizeLine_eq]
          exact hz
  | cons p r =>
    cases r with
    | nil =>
      refine wpAny_bind (wpAny_typeOf (typeIs_bytes _ _ _) (bm_if_true (by decide) (wpAny_bind (wpAny_rule (wpAny_pure ⟨_, rfl, ?_⟩)))))
      have := h p.2 s.toks
      rw [List.map_cons, List.map_nil, cat_one] at this
      exact this
    | cons q r =>
      show wpAny _ _ (forIn [:(bvals (p :: q :: r)).toArray.size] (#[], []) _ >>= _) _ _ _
      refine wpAny_bind ?_
      rw [KPc.range_list]
      generalize hps : p :: q :: r = ps at *
      refine forIn_inv (fun i b => b = (((ps.take i).map (·.1)).toArray, (ps.take i).map fun p => (.bytes p.1 p.2, none))) _ 0 _ rfl ?_ ?_
      · rintro i b _ hi rfl
        rw [len] at hi
        obtain ⟨p, hp⟩ : ∃ p, ps[i]? = some p := ⟨_, List.getElem?_eq_getElem (by omega)⟩
        refine wpAny_bind (seqs ?_)
        refine bm_if_false (by rw [List.any_eq_false.mpr (fun x hx => by obtain ⟨p, _, rfl⟩ := List.mem_map.mp hx; exact Bool.false_ne_true)]; decide) ?_
        dsimp only
        rw [at_ i p hp]
        refine wpAny_bind (wpAny_holding (wpAny_of_eq take_eq ?_))
        refine wpAny_bind (seqs ?_)
        refine bm_if_false (by simp) (wpAny_pure ⟨rfl, _, rfl, ?_⟩)
        rw [List.take_add_one, hp]
        simp
      · rintro b rfl
        rw [len, Nat.zero_add, List.take_length]
        refine wpAny_bind (wpAny_of_eq (a := (#[] : Array UInt8)) rfl ?_)
        refine bm_if_false ?_ ?_
        · refine KBy.tooLong_not ?_
          rw [cat_size] at hz
          have e : ∀ (l : List (Array UInt8)) (k : Nat), l.toArray.foldl (fun x1 x2 => x1 + x2.size) k = k + (l.map (·.size)).sum := by
            intro l
            induction l with
            | nil => intro k; simp
            | cons x r ih => intro k; simp at ih ⊢; rw [ih]; omega
          rw [e]
          simpa using hz
        · refine wpAny_bind (wpAny_mkBytes ?_ ?_)
          · refine wpAny_bind (wpAny_holding (wpAny_point (wpAny_bind (letGo_bytes _ ?_ ps))))
            refine wpAny_pure ⟨_, rfl, ?_⟩
            have := h s.toks (s.toks + 1)
            rw [← joined_eq] at this
            exact this
          · show (Bytes.joined #[] _).size ≤ sizeLine
            rw [joined_eq, sizeLine_eq]
            exact hz
end
section
variable {prog : Program} {w : World} {A : Around} {E : Value → Shared → Prop} {s : Shared}
theorem join_N {h₀ : Heap} {L l : Addr} {t : Tok} {e : Nat} {ps : List (Array UInt8 × Tok)} {led : List (Addr × Obj)} {Q : Value → Shared → Prop} (N : News h₀ L s.heap led) (hm : (l, W.listOf (bvals ps).toArray e) ∈ led) (hz : (cat (ps.map (·.1))).size ≤ 16777216)
    (h : ∀ t k, Q (.bytes (cat (ps.map (·.1))) t) { s with toks := k }) : wpAny (model prog w) A (call (.builtin "bytes.join") [.bytes #[] t, .ref l]) Q E s := join_K ⟨_, (N _ hm).1, rfl, e, rfl⟩ hz h
end
section
open PySem.Builtin PySem.Calls
theorem look_bytes : typeLookup (.type "bytes") "__bytes__" = pure (some (.builtin "bytes.__bytes__")) := by rw [typeLookup_type, builtinLookup_eq_fast]; kernel_rfl
variable {prog : Program} {w : World} {A : Around} {E : Value → Shared → Prop} {s : Shared}
theorem bb_new {b : Array UInt8} {t : Tok} {Q : Value → Shared → Prop} (hQ : Q (.bytes b t) s) :
    codeAny (model prog w) A (.call (.builtin "bytes.__new__") ⟨[.type "bytes", .bytes b t], []⟩) (wants Q E) s := by
  refine codeAny_of_tree ?_
  show wpAny _ A.in1 (do checkBuiltinCall "bytes.__new__" ⟨[.type "bytes", .bytes b t], []⟩; again (.builtin "bytes.__new__" ⟨[.type "bytes", .bytes b t], []⟩)) _ _ s
  refine wpAny_bind (wpAny_of_eq (F.bm_newCall _) (wpAny_pure ⟨plainId_quiet F.bm_plain _, codeAny_builtin F.bm_entry ?_⟩))
  rw [Around.under_plainId F.bm_plain _]
  unfold Builtin.«bytes.__new__»
  refine wpAny_bind (wpAny_of_eq (a := true) rfl ?_)
  refine bm_if_false rfl ?_
  refine wpAny_bind (wpAny_of_eq F.bm_sub ?_)
  refine bm_if_false rfl ?_
  refine wpAny_bind (wpAny_of_eq (F.bm_bind _) ?_)
  refine wpAny_bind (wpAny_of_eq (a := ()) rfl ?_)
  refine wpAny_bind (wpAny_of_eq (a := ()) rfl ?_)
  refine bm_if_false rfl ?_
  refine wpAny_bind (wpAny_of_eq (KBy.special_eq look_bytes) ?_)
  refine wpAny_bind (wpAny_rule ?_)
  refine wpAny_bind (wpAny_typeOf (typeIs_bytes _ _ _) (bm_if_true (by decide) ?_))
  show wpAny _ _ (if (Value.type "bytes" == Value.type "bytes") = true then _ else _) _ _ _
  refine bm_if_true (by decide) ?_
  exact wpAny_pure hQ
theorem call_bytes_bytes {b : Array UInt8} {t : Tok} {Q : Value → Shared → Prop} (hQ : Q (.bytes b t) s) : wpAny (model prog w) A (call (.type "bytes") [.bytes b t]) Q E s := by
  refine callType_codes (Q₁ := fun obj s₁ => s₁.TypeIs obj "bytes" ∧ Q obj s₁) F.bm_called (F.bm_typeCall _) F.entry_object_init
    (bb_new ⟨typeIs_bytes _ _ _, hQ⟩) fun obj s₁ h₁ => ?_
  exact ⟨h₁.1, F.args_object_init_2 obj _, object_init_meets F.bm_called.init.lookup F.bm_called.made (by decide) prog w A.in1 _ s₁ ⟨h₁.1, rfl, h₁.2⟩⟩
theorem encode_eq (x : Str) (t u : Tok) : «str.encode» ⟨[.str x t, .str (Str.ofString "utf-8") u], []⟩ = (do ret (← _codecs.encodeRoad "str.encode" (.str x t) x (Str.ofString "utf-8") none)) := by
  kernel_rfl
noncomputable def acute (n : Nat) : Str := ⟨(List.replicate n 233).toArray⟩
noncomputable def acuteB (n : Nat) : Array UInt8 := ((List.replicate n [195, 169]).flatten).toArray
theorem narrow {M : Model} {n : Nat} {t : Tok} {Q : Array UInt8 → Shared → Prop} (hn : n ≤ 1000) (hQ : Q (acuteB n) s) :
    wpAny M A (_codecs.encodeNarrow "str.encode" _codecs.utf8Codec none (.str (acute n) t) (acute n)) Q E s := by
  have hsz : (acute n).cps.size = n := by simp [acute]
  have hlen : (acute n).length = n := hsz
  have hbad : ∀ k, (acute n).cps.extract k = (List.replicate (n - k) 233).toArray := fun k => by
    apply Array.toList_inj.mp
    simp [acute]
  have hfind : ∀ m, Array.findIdx? _codecs.utf8Codec.bad (List.replicate m 233).toArray = none := fun m => by
    rw [Array.findIdx?_eq_none_iff]
    intro x hx
    have : x = 233 := by simpa using (List.eq_of_mem_replicate (by simpa using hx))
    rw [this]; decide
  have hfold : ∀ (m : Nat) (o : Array UInt8), (List.replicate m 233).toArray.foldl (fun acc y => acc ++ (_codecs.utf8Codec.bytesOf y).toArray) o = o ++ acuteB m := by
    intro m
    induction m with
    | zero => intro o; simp [acuteB]
    | succ m ih =>
      intro o
      have e : (_codecs.utf8Codec.bytesOf 233).toArray = #[195, 169] := by decide
      have ih' := ih (o ++ #[195, 169])
      simp only [List.foldl_toArray'] at ih' ⊢
      rw [List.replicate_succ, List.foldl_cons, e, ih']
      apply Array.toList_inj.mp
      simp [acuteB, List.replicate_succ]
  unfold _codecs.encodeNarrow
  show wpAny _ _ (forIn [:(acute n).length] (0, #[], _) _ >>= _) _ _ _
  refine wpAny_bind ?_
  rw [KPc.range_list, hlen]
  cases n with
  | zero =>
    show wpAny _ _ (forIn [] _ _) _ _ _
    rw [List.forIn_nil]
    refine wpAny_pure (wpAny_pure ?_)
    exact hQ
  | succ m =>
    rw [List.range'_succ]
    refine KPc.turn ?_
    have e0 : (acute (m + 1)).cps[0]? = some 233 := by simp [acute]
    dsimp only
    rw [if_neg (by rw [sizeLine_eq]; simp), e0]
    dsimp only
    rw [if_pos (by decide)]
    refine wpAny_pure ?_
    dsimp only
    rw [hbad 0, hfind]
    simp only [Option.getD_none, List.size_toArray, List.length_replicate, Nat.sub_zero, Nat.zero_add]
    have e1 : ((List.replicate (m + 1) 233).toArray.extract 0 (m + 1)) = (List.replicate (m + 1) 233).toArray := by
      apply Array.toList_inj.mp
      simp
    rw [e1, hfold]
    simp only [Array.empty_append]
    have hout : (acuteB (m + 1)).size ≤ sizeLine := by
      rw [sizeLine_eq]; simp [acuteB]; omega
    cases m with
    | zero =>
      show wpAny _ _ (forIn [] _ _) _ _ _
      rw [List.forIn_nil]
      exact wpAny_pure (wpAny_pure hQ)
    | succ k =>
      rw [List.range'_succ]
      refine KPc.turn ?_
      dsimp only
      have e2 : (acute (k + 1 + 1)).cps[k + 1 + 1]? = none := by simp [acute]
      rw [if_neg (by omega), e2]
      exact wpAny_pure (wpAny_pure hQ)
theorem call_encode {n : Nat} {t u : Tok} {Q : Value → Shared → Prop} (hn : n ≤ 1000) (h : ∀ t k, Q (.bytes (acuteB n) t) { s with toks := k }) :
    wpAny (model prog w) A (call (.builtin "str.encode") [.str (acute n) t, .str (Str.ofString "utf-8") u]) Q E s := by
  refine wpAny_call_entry F.slot_str_encode (typeIs_str _ _ _) F.entry_str_encode ?_ (F.args_str_encode_2 _ _)
  rw [encode_eq, encodeRoad_utf8]
  refine wpAny_bind (wpAny_bind (narrow hn ?_))
  refine wpAny_mkBytes (wpAny_pure ⟨_, rfl, h _ _⟩) ?_
  rw [sizeLine_eq]; simp [acuteB]; omega
end
theorem behind_JE : True := by
  w_top off
  exact True.intro
-- part JF
/-! varints, plainly -/
theorem vi_lt {n : Nat} (h : n < 128) : vi n = [n.toUInt8] := by rw [vi, if_pos h]
theorem vi_ge {n : Nat} (h : 128 ≤ n) : vi n = (n % 128 + 128).toUInt8 :: vi (n / 128) := by rw [vi, if_neg (by omega)]
theorem vi_len_le : ∀ (k n : Nat), n < 128 ^ (k + 1) → (vi n).length ≤ k + 1
  | 0, n, h => by rw [vi_lt (by omega)]; simp
  | k + 1, n, h => by
    by_cases h1 : n < 128
    · rw [vi_lt h1]; simp
    · rw [vi_ge (by omega), List.length_cons]
      have := vi_len_le k (n / 128) (by rw [Nat.pow_succ] at h; exact Nat.div_lt_of_lt_mul (by rw [Nat.mul_comm]; exact h))
      omega
theorem vi_len_ge : ∀ (k n : Nat), 128 ^ k ≤ n → k + 1 ≤ (vi n).length
  | 0, n, _ => by
    by_cases h1 : n < 128
    · rw [vi_lt h1]; simp
    · rw [vi_ge (by omega)]; simp
  | k + 1, n, h => by
    have h2 : 128 ^ k ≤ n / 128 := by rw [Nat.pow_succ] at h; exact (Nat.le_div_iff_mul_le (by decide)).mpr h
    have h3 : 1 ≤ 128 ^ k := Nat.pow_pos (by decide)
    rw [vi_ge (by omega), List.length_cons]
    have := vi_len_ge k (n / 128) h2
    omega
theorem vi_pos (n : Nat) : 1 ≤ (vi n).length := by
  by_cases h : n < 128
  · rw [vi_lt h]; simp
  · rw [vi_ge (by omega)]; simp
theorem vi_len (k : Nat) {n : Nat} (h1 : 128 ^ (k + 1) ≤ n) (h2 : n < 128 ^ (k + 2)) : (((vi n).length : Nat) : Int) = ((k + 2 : Nat) : Int) :=
  congrArg Int.ofNat (Nat.le_antisymm (vi_len_le (k + 1) n h2) (vi_len_ge (k + 1) n h1))
theorem nle {n c : Nat} (h : ¬ (n : Int) ≤ (c : Int)) : c + 1 ≤ n := by omega
theorem nlt {n c : Nat} (h : (n : Int) ≤ (c : Int)) : n < c + 1 := by omega
theorem vsz_vb {v : Int} (h0 : 0 ≤ v) (h1 : v ≤ 18446744073709551615) : (((vb v).size : Nat) : Int) = vsz v := by
  obtain ⟨n, rfl⟩ := Int.eq_ofNat_of_zero_le h0
  have e : (vb (n : Int)).size = (vi n).length := by simp [vb]
  rw [e]
  unfold vsz
  split
  · rename_i a
    exact congrArg Int.ofNat (Nat.le_antisymm (vi_len_le 0 n (nlt (c := 127) a)) (vi_pos n))
  rename_i a0
  split
  · rename_i a
    exact vi_len 0 (nle (c := 127) a0) (nlt (c := 16383) a)
  rename_i a1
  split
  · rename_i a
    exact vi_len 1 (nle (c := 16383) a1) (nlt (c := 2097151) a)
  rename_i a2
  split
  · rename_i a
    exact vi_len 2 (nle (c := 2097151) a2) (nlt (c := 268435455) a)
  rename_i a3
  split
  · rename_i a
    exact vi_len 3 (nle (c := 268435455) a3) (nlt (c := 34359738367) a)
  rename_i a4
  split
  · rename_i a
    exact vi_len 4 (nle (c := 34359738367) a4) (nlt (c := 4398046511103) a)
  rename_i a5
  split
  · rename_i a
    exact vi_len 5 (nle (c := 4398046511103) a5) (nlt (c := 562949953421311) a)
  rename_i a6
  split
  · rename_i a
    exact vi_len 6 (nle (c := 562949953421311) a6) (nlt (c := 72057594037927935) a)
  rename_i a7
  split
  · rename_i a
    exact vi_len 7 (nle (c := 72057594037927935) a7) (nlt (c := 9223372036854775807) a)
  rename_i a8
  exact vi_len 8 (nle (c := 9223372036854775807) a8) (Nat.lt_of_lt_of_le (nlt (c := 18446744073709551615) h1) (by decide))
theorem vb_pos (v : Int) : 0 < (vb v).size := by
  have := vi_len_ge 0 v.toNat
  by_cases h : 1 ≤ v.toNat
  · have := this (by simpa using h); simp [vb]; omega
  · rw [vb, vi_lt (by omega)]; simp
theorem vb_size_le {v : Int} (h1 : v ≤ 18446744073709551615) : (vb v).size ≤ 10 := by
  have := vi_len_le 9 v.toNat (by simp only [Nat.reduceAdd, Nat.reducePow]; omega)
  simpa [vb] using this
theorem vb_lt {v : Int} (h : v ≤ 127) : vb v = #[v.toNat.toUInt8] := by rw [vb, vi_lt (by omega)]
theorem vb_ge {v : Int} (h : 127 < v) : vb v = #[(v % 128 + 128).toNat.toUInt8] ++ vb (v / 128) := by
  rw [vb, vi_ge (by omega), vb]
  have e1 : v.toNat / 128 = (v / 128).toNat := toNat_d (by omega)
  have e2 : v.toNat % 128 + 128 = (v % 128 + 128).toNat := toNat_m (by omega)
  rw [e1, e2]
  simp

theorem allne_lt {d : Addr} {l : List (Addr × Obj)} (h : ∀ p ∈ l, p.1 < d) : ∀ p ∈ l, p.1 ≠ d := fun p hp => Nat.ne_of_lt (h p hp)
theorem stepW {h₀ h' : Heap} {L : Addr} {s : Shared} {J : Nat → (Str → Option Value) → List (Addr × Obj) → Prop} {Q : Flow → Shared → Prop} {n n' tk : Nat} {m₂ : Str → Option Value} {news₂ : List (Addr × Obj)}
    (F : Fr h₀ L h' m₂) (N : News h₀ L h' news₂) (hJ : J n' m₂ news₂) (hn : n' < n) : WhileStep2 h₀ L s J Q n .next { s with heap := h', toks := tk } := ⟨h', tk, m₂, news₂, n', rfl, F, N, hn, hJ⟩
noncomputable def StopW (P : Prop) : Prop := P
theorem StopW.mk {P : Prop} (h : StopW P) : P := h
theorem loadX_Lv {M : Model} {A : Around} {E : Value → Shared → Prop} {s : Shared} {h₀ : Heap} {L a : Addr} {m : Str → Option Value} {cn : Str} {cs : Scope} {ccd : Value} {cl : List (Str × Addr)} {x : Str} {v : Value} {Q : Value → Shared → Prop}
    (F : Fr h₀ L s.heap m) (hv : m x = some v) (h : Q v s) (hk : cs.kind = .function := by rfl) (hx : (envX cn cs L a ccd cl).kindOf x = some .local := by rfl) : wpAny M A (loadName (envX cn cs L a ccd cl) x) Q E s := wpAny_loadName_local hk hx F.ns hv h
local macro_rules | `(tactic| k_all) => `(tactic| first | k_extra "m k_all" | fail "no line")
theorem lines_JF1 : True := by
  (k_with "m exec While" => refine StopW.mk ?_)
  (k_with "m eval Name" => (k_here; k_dflt (refine' nameX_L ?Fx43 ?vx43 ?_ ?ax43 ?bx43; (case Fx43 => k_asm); (case ax43 => rfl); (case bx43 => rfl); (case vx43 => assumption); k_whole)))
  (k_with "m loadName" => (k_here; k_dflt (refine' loadX_Lv ?Fx44 ?vx44 ?_ ?ax44 ?bx44; (case Fx44 => k_asm); (case ax44 => rfl); (case bx44 => rfl); (case vx44 => assumption); k_whole)))
  (k_with "m c_bytes" => (first | assumption | (intro nħ hnħ; simp only [List.mem_append, List.mem_cons, List.not_mem_nil, or_false, false_or] at hnħ; first | (rcases hnħ with hnħ | rfl; (first | (rename (∀ nħ ∈ _, 0 ≤ nħ ∧ nħ < 256) => hrħ; exact hrħ nħ hnħ) | omega); omega) | (subst hnħ; omega))))
  (k_with "m call type:bytes" => (k_here; (with_reducible show wpAny _ _ (call (Value.type "bytes") [Value.ref _]) _ _ _); k_dflt (refine' KBa.make_K ?Fx46 ?Nx46 ?hx46 ?lx46 ?ix46 ?rx46 ?nx46 ?_; (case Fx46 => k_asm); (case Nx46 => k_asm); (case hx46 => exact rfl); (case lx46 => is_list); (case ix46 => first | assumption | l_ints); (case rx46 => walk_at "c_bytes"); (case nx46 => (simp only [List.length_append, List.length_cons, List.length_nil]; walk_at "c_side"))); intro _ _ _ _ _ _; (try k_sweep)))
  (k_with "m k_all" => assumption)
  (k_with "m k_all" => (refine allne_lt ?_; assumption))
  exact True.intro
section
variable {news : List (Addr × Obj)} {f v wt : Int} {t u : Tok} {b : Bool}
theorem c_varint (hv0 : 0 ≤ v) (hv : v ≤ 18446744073709551615) : Call 1 382 [.int v t] news (RBytes news (vb v)) := by
  walk_at "c_in"
  k_steps
  rename_i l h1 l1 h2 F' N'
  unfold StopW
  refine While_inv2 (fun k m nx => ∃ (x : Int) (tx : Tok) (xs : List Int) (vs : List Value) (e : Nat), nx = (l, W.listOf vs.toArray e) :: news ∧ IntsAre vs xs ∧ m (Str.ofString "number") = some (.int x tx) ∧ m (Str.ofString "found") = some (.ref l) ∧
    0 ≤ x ∧ (∀ n ∈ xs, 0 ≤ n ∧ n < 256) ∧ byteArr xs ++ vb x = vb v ∧ k = x.toNat) (n₀ := v.toNat) F' N' ⟨v, t, [], [], 0, rfl, .nil, rfl, rfl, hv0, (fun _ h => nomatch h), (by simp [byteArr]), rfl⟩ ?_
  rintro n m₁ nx h₁ tk₁ F₁ N₁ ⟨x, tx, xs, vs, e, rfl, hi, hm1, hm2, hx0, hr, hcat, rfl⟩
  have hlen : xs.length ≤ 10 := by
    have h1 := congrArg Array.size hcat
    have h2 := vb_size_le hv
    rw [Array.size_append, byteArr_size] at h1
    omega
  have hlen2 : vs.length ≤ 10 := by rw [hi.length]; exact hlen
  clear F' N'
  k_steps
  · refine' stepW ?F ?N (n' := (x / 128).toNat) ?J ?k
    (case F => k_asm)
    (case N => k_asm)
    (case k => omega)
    refine ⟨x / 128, _, xs ++ [x % 128 + 128], vs ++ [.int (x % 128 + 128) _], _, by rw [List.push_toArray], IntsAre.append hi (.cons _ _ .nil), rfl, hm2, by omega, ?_, ?_, rfl⟩
    · intro n hn
      rcases List.mem_append.mp hn with hn | hn
      · exact hr n hn
      · rw [List.mem_singleton.mp hn]; omega
    · rw [← hcat, vb_ge (v := x) (by omega)]
      simp [byteArr]
  · walk_at "c_outY"
    rw [← hcat, vb_lt (v := x) (by omega)]
    simp [byteArr]
end
theorem behind_JF : True := by
  w_top off
  exact True.intro
-- part JG
/-! ledgers with the tables at their end; closures -/
inductive Led : List (Addr × Obj) → List (Addr × Obj) → List Tab → Prop
  | nil {T} : Led (entsOf T) [] T
  | app {news T} : NoTab news → Led (news ++ entsOf T) news T
  | cons {p led news T} : NotTab p.2 → Led led news T → Led (p :: led) (p :: news) T
  | front {G led news T} : NoTab G → Led led news T → Led (G ++ led) (G ++ news) T
theorem Led.eq {led news T} (h : Led led news T) : led = news ++ entsOf T := by
  induction h with
  | nil => rfl
  | app => rfl
  | cons _ _ ih => rw [ih]; rfl
  | front _ _ ih => rw [ih, List.append_assoc]
theorem Led.noTab {led news T} (h : Led led news T) : NoTab news := by
  induction h with
  | nil => exact .nil
  | app h => exact h
  | cons h _ ih => exact .cons h ih
  | front h _ ih => exact h.append ih
section
variable {M : Model} {A : Around} {E : Value → Shared → Prop} {s : Shared} {name qual : Str} {params : Arguments} {scope : Scope} {c P a : Addr} {pos : Pos} {firstLine : Nat} {mg mb : Str → Option Value}
  {clos cl : List (Str × Addr)} {Q : Value → Shared → Prop} {T : List Tab} {led news : List (Addr × Obj)} {h₀ : Heap} {L : Addr} {m : Str → Option Value} {p : Program} {loose : List Str} {mean : ExcName → Option Value}
  {cn : Str} {cs : Scope} {ccd : Value}
theorem tab_def {body : List Stmt} (hcd : ccd = .ref c) (I : TabInv T) (F : Fr h₀ L s.heap m) (N : News h₀ L s.heap led) (hl : Led led news T) (Tp : Top p loose mean mg mb h₀) (C : CodeHd s.heap c P) (hin : P ∈ T.map (·.P))
    (hcl : closureFor scope (envX cn cs L a ccd cl) = pure clos) (hq : qual = qOf pos.line)
    (h : ∀ f c' P' T' doc ctv h' tk, TabInv T' → TLe T T' → CodeIn T' pos.line c' P' → Fr h₀ L h' m →
      News h₀ L h' ((f, fnMade name (qOf pos.line) params body scope clos doc ((mg "__name__").getD .none) c' ctv) :: (news ++ entsOf T')) → (∀ q ∈ news, q.1 < f) → Q (.ref f) { s with heap := h', toks := tk }) :
    wpAny M A (makeFunction name qual params (.stmts body) scope (envX cn cs L a ccd cl) [] [] [] pos firstLine) Q E s :=
  tab_core I F (hl.eq ▸ N) hl.noTab Tp hin C hcd rfl hcl hq fun f c' P' T' doc ctv h' tk I' hle hc F' N' _ hf => h f c' P' T' doc ctv h' tk I' hle hc F' (hq ▸ N') hf
theorem tab_lam {body : Expr} (hcd : ccd = .ref c) (I : TabInv T) (F : Fr h₀ L s.heap m) (N : News h₀ L s.heap led) (hl : Led led news T) (Tp : Top p loose mean mg mb h₀) (C : CodeHd s.heap c P) (hin : P ∈ T.map (·.P))
    (hcl : closureFor scope (envX cn cs L a ccd cl) = pure clos) (hq : qual = qOf pos.line)
    (h : ∀ f c' P' T' ctv h' tk, TabInv T' → TLe T T' → CodeIn T' pos.line c' P' → Fr h₀ L h' m →
      News h₀ L h' ((f, kla_obj name (qOf pos.line) params body scope clos ((mg "__name__").getD .none) c' ctv) :: (news ++ entsOf T')) → (∀ q ∈ news, q.1 < f) → Q (.ref f) { s with heap := h', toks := tk }) :
    wpAny M A (makeFunction name qual params (.expr body) scope (envX cn cs L a ccd cl) [] [] [] pos firstLine) Q E s :=
  tab_core I F (hl.eq ▸ N) hl.noTab Tp hin C hcd rfl hcl hq fun f c' P' T' doc ctv h' tk I' hle hc F' N' hdoc hf => by
    have hd := hdoc ⟨_, rfl⟩
    subst hd
    exact h f c' P' T' ctv h' tk I' hle hc F' (hq ▸ N') hf
theorem codeRec_led {line : Nat} {h : Heap} (I : TabInv T) (N : News h₀ L h led) (hl : Led led news T) (hc : CodeIn T line c P) : h.CodeRec (.ref c) (qOf line) :=
  (codeIn_rec I (hl.eq ▸ N) hc).1
theorem codeHd_led {line : Nat} {h : Heap} (I : TabInv T) (N : News h₀ L h led) (hl : Led led news T) (hc : CodeIn T line c P) : CodeHd h c P :=
  (codeIn_rec I (hl.eq ▸ N) hc).2.1
theorem codeIn_P {line : Nat} (I : TabInv T) (hc : CodeIn T line c P) : P ∈ T.map (·.P) := by
  obtain ⟨t, ht, e, he, _, _, rfl⟩ := hc
  exact (I.2.2 t ht e he).2
end

/-! a frame with cells of its own and with captured ones -/
noncomputable def bindAll (binds : List (Str × Value)) (m : Str → Option Value) : Str → Option Value := binds.foldl (fun m x => fun y => if y = x.1 then some x.2 else m y) m
section
variable {M : Model} {A : Around} {E : Value → Shared → Prop} {env : Env}
theorem bindLoc (f : Str × Value → PUnit → Sem (ForInStep PUnit)) (hf : ∀ n v u, f (n, v) u = (do storeName env n v; pure (.yield ⟨⟩))) (hk : env.scope.kind = .function) :
    ∀ (binds : List (Str × Value)) (m : Str → Option Value) (s : Shared) (Q : PUnit → Shared → Prop), s.heap.Ns env.locals m → (∀ x ∈ binds, env.kindOf x.1 = some .local) →
      (∀ h' tk, h'.Ns env.locals (bindAll binds m) → Heap.SameBut env.locals s.heap h' → Q ⟨⟩ { s with heap := h', toks := tk }) → wpAny M A (forIn binds ⟨⟩ f) Q E s
  | [], m, s, Q, x, _, h => by rw [List.forIn_nil]; exact wpAny_pure (h s.heap s.toks x ⟨rfl, fun _ _ => rfl⟩)
  | (n, v) :: r, m, s, Q, x, hkind, h => by
    rw [List.forIn_cons, hf]
    refine wpAny_bind (wpAny_bind (wpAny_storeName_local (hkind (n, v) List.mem_cons_self) x (fun h' hn hs => ?_) (by rw [hk]; rfl)))
    refine wpAny_pure (bindLoc f hf hk r _ _ Q hn (fun y hy => hkind y (List.mem_cons_of_mem _ hy)) fun h2 tk hn2 hs2 => ?_)
    exact h h2 tk hn2 ⟨hs2.1.trans hs.1, fun b hb => (hs2.2 b hb).trans (hs.2 b hb)⟩
end

theorem pushCells_new : ∀ (names : List (Str × NameKind)) (h : Heap) (acc : List (Str × Addr)), ∃ new cells, cellsFrom h.objs.size names acc = new ++ acc ∧ cellsFrom h.objs.size names [] = new ∧
    CellsAre (fun _ => none) new cells ∧ ∀ p ∈ cells, (pushCells h names).get? p.1 = some p.2 ∧ h.objs.size ≤ p.1
  | [], h, acc => ⟨[], [], rfl, rfl, .nil, fun _ hp => nomatch hp⟩
  | (n, k) :: r, h, acc => by
    unfold cellsFrom pushCells
    split
    · obtain ⟨new, cells, h1, h2, h3, h4⟩ := pushCells_new r (h.push { cls := .type "cell", data := .cell none }) ((n, h.objs.size) :: acc)
      obtain ⟨new', cells', g1, g2, g3, g4⟩ := pushCells_new r (h.push { cls := .type "cell", data := .cell none }) [(n, h.objs.size)]
      rw [Heap.size_push] at h1 h2 h4 g1 g2 g4
      have hn : new' = new := g2.symm.trans h2
      subst hn
      refine ⟨new' ++ [(n, h.objs.size)], cells' ++ [(h.objs.size, { cls := .type "cell", data := .cell none })], ?_, g1, ?_, ?_⟩
      · rw [h1]; simp
      · clear h1 h2 h3 h4 g1 g2 g4
        induction g3 with
        | nil => exact .cons rfl .nil
        | cons a b ih => exact .cons a ih
      · intro p hp
        rcases List.mem_append.mp hp with hp | hp
        · have := g4 p hp; exact ⟨this.1, by omega⟩
        · rw [List.mem_singleton.mp hp]
          exact ⟨pushCells_keeps _ _ _ _ (Heap.get?_push_size _ rfl), Nat.le_refl _⟩
    · exact pushCells_new r h acc
section
variable {prog : Program} {w : World} {A₀ A : Around} {s : Shared} {base h₀ : Heap} {outer : List Env} {L : Addr} {m : Str → Option Value} {env : Env} {news : List (Addr × Obj)}
  {R : Result → Shared → Prop} {name qual : Str} {params : Arguments} {body : List Stmt} {scope : Scope} {cl : List (Str × Addr)} {dV kV doc pm cdv ct : Value} {an : Option Addr} {fo : Obj} {f : Addr} {args : Args} {binds : List (Str × Value)}
theorem callX_both (B : Below A₀ base outer h₀) (F : Fr h₀ L s.heap m) (N : News h₀ L s.heap news) (hlim : h₀.NoLimit) (hA : A.frames = some (env :: outer)) (hf : env.frame = some L) (hke : env.scope.kind = .function)
    (ho : s.heap.get? f = some fo) (hd : fo.data = .func (fnX name qual params body scope cl dV kV doc pm an cdv ct)) (hcd : s.heap.CodeRec cdv qual) (hroom : A.depth < recursionLimit)
    (hbind : BindsTo s (fnX name qual params body scope cl dV kV doc pm an cdv ct) args binds) (hloc : ∀ y ∈ binds, scope.names.lookup y.1 = some .local)
    (h : ∀ g L' h₁ tk cells, Fr h₀ L g m → Fr g L' h₁ (bindAll binds fun _ => none) → News g L' h₁ (cells ++ news) → CellsAre (fun _ => none) (cellsFrom (L' + 1) scope.names []) cells →
      Below A base (env :: outer) g → h₀.StaysIn g → (∀ p ∈ news, p.1 < L') →
      wpAny (model prog w) (A.deeper (envX qual scope L' f cdv (cellsFrom (L' + 1) scope.names cl))) (execs body (envX qual scope L' f cdv (cellsFrom (L' + 1) scope.names cl)))
        (fun fl s' => LeaveK h₀ L m g R (match fl with | .ret v => v | _ => .none) s')
        (fun e s' => wpAny (model prog w) (A.deeper (envX qual scope L' f cdv (cellsFrom (L' + 1) scope.names cl))) (leaving (envX qual scope L' f cdv (cellsFrom (L' + 1) scope.names cl)) e) (fun _ s'' => R (.error e) s'') (fun e' s'' => R (.error e') s'') s')
        { s with heap := h₁, toks := tk })
    (hco : scope.isCoroutine = false := by rfl) (hgen : scope.isGenerator = false := by rfl) (hk : scope.kind = .function := by rfl) : codeAny (model prog w) A (.call (.ref f) args) R s := by
  obtain ⟨FG, BG, st, lv⟩ := groundX (R := R) B F N hA hf hke
  refine codeAny_call_function hroom ho hd hco hgen rfl hcd (hbind _ _ _ _ ?_)
  simp only [newFunctionEnv, Option.isSome_none, Bool.false_eq_true, if_false]
  refine wpAny_bind (wpAny_alloc ?_)
  refine wpAny_bind (wpAny_layCells _ (fun name kind cells => by cases hkc : kind == NameKind.cell <;> simp [hkc]) _ _ _ _ ?_)
  have hsz : (s.heap.push { cls := .type "frame", data := .dict #[] }).objs.size = s.heap.objs.size + 1 := Heap.size_push ..
  have hns : (pushCells (s.heap.push { cls := .type "frame", data := .dict #[] }) scope.names).Ns s.heap.objs.size (fun _ => none) := (Heap.Ns.new s.heap (.type "frame")).keeps (pushCells_keeps _ _)
  have hk₁ : ∀ b o, s.heap.get? b = some o → (pushCells (s.heap.push { cls := .type "frame", data := .dict #[] }) scope.names).get? b = some o := fun b o e => pushCells_keeps _ _ b o (Heap.get?_push_of_some _ e)
  obtain ⟨new, cells, e1, e2, Y, hcells⟩ := pushCells_new scope.names (s.heap.push { cls := .type "frame", data := .dict #[] }) cl
  rw [hsz] at e2 hcells
  refine wpAny_bind (bindLoc (env := envX qual scope s.heap.objs.size f cdv (cellsFrom (s.heap.objs.size + 1) scope.names cl)) _ (fun n v u => by rw [← hsz]) hk binds (fun _ => none) _ _ hns hloc fun h' tk hn' hs' => ?_)
  have hk₂ : ∀ b o, s.heap.get? b = some o → h'.get? b = some o := fun b o e => (hs'.2 b (Nat.ne_of_lt (Heap.lt_size e))).trans (hk₁ b o e)
  refine wpAny_pure ⟨(hlim.keeps F.keep).keeps hk₂, ?_⟩
  rw [hsz]
  refine codeAny_func (wpAny_mono (h _ s.heap.objs.size h' tk cells FG ⟨hn', fun b o e => hk₂ b o (of_hideAll _ e), Nat.le_of_eq (hideAll_size _ _)⟩ (fun p hp => ?_) (e2 ▸ Y) BG st (fun p hp => Heap.lt_size (N p hp).1)) (fun fl s' hl => lv _ _ hl) fun _ _ y => y)
  rcases List.mem_append.mp hp with hp | hp
  · obtain ⟨g1, g2⟩ := hcells p hp
    have hne : p.1 ≠ s.heap.objs.size := Nat.ne_of_gt (Nat.lt_of_lt_of_le (Nat.lt_succ_self _) g2)
    refine ⟨(hs'.2 p.1 hne).trans g1, hne, Heap.get?_none_of_le (Nat.le_trans (Nat.le_of_eq (hideAll_size _ _)) (Nat.le_trans (Nat.le_succ _) g2))⟩
  · exact ⟨hk₂ _ _ (N p hp).1, Nat.ne_of_lt (Heap.lt_size (N p hp).1), hideAll_none _ (List.mem_map_of_mem hp)⟩
end
section
variable {prog : Program} {w : World} {A A₀ : Around} {E : Value → Shared → Prop} {s : Shared} {K : Frag} {L : Addr} {h₀ base : Heap} {m mg mb : Str → Option Value} {news led : List (Addr × Obj)} {p : Program} {loose : List Str} {mean : ExcName → Option Value} {T : List Tab}
theorem code_both {env : Env} {outer : List Env} {R : Result → Shared → Prop} {name qual : Str} {params : Arguments} {body : List Stmt} {scope : Scope} {cl : List (Str × Addr)} {doc pm ctv : Value} {c' : Addr} {f : Addr} {args : Args} {binds : List (Str × Value)}
    (B : Below A₀ base outer h₀) (F : Fr h₀ L s.heap m) (X₀ : K.In h₀) (N : News h₀ L s.heap news) (T : Top p loose mean mg mb h₀) (hA : A.frames = some (env :: outer)) (hf : env.frame = some L) (hke : env.scope.kind = .function)
    (ho : (f, fnMade name qual params body scope cl doc pm c' ctv) ∈ news) (hcd : s.heap.CodeRec (.ref c') qual) (hroom : A.depth < recursionLimit)
    (hbind : BindsTo s (fnX name qual params body scope cl .none .none doc pm none (.ref c') ctv) args binds) (hloc : ∀ y ∈ binds, scope.names.lookup y.1 = some .local)
    (h : ∀ g L' h₁ tk cells, Fr h₀ L g m → Fr g L' h₁ (bindAll binds fun _ => none) → News g L' h₁ (cells ++ news) → CellsAre (fun _ => none) (cellsFrom (L' + 1) scope.names []) cells → Below A base (env :: outer) g → K.In g → Top p loose mean mg mb g → (∀ p ∈ news, p.1 < L') →
      wpAny (model prog w) (A.deeper (envX qual scope L' f (.ref c') (cellsFrom (L' + 1) scope.names cl))) (execs body (envX qual scope L' f (.ref c') (cellsFrom (L' + 1) scope.names cl)))
        (fun fl s' => LeaveK h₀ L m g R (match fl with | .ret v => v | _ => .none) s')
        (fun e s' => wpAny (model prog w) (A.deeper (envX qual scope L' f (.ref c') (cellsFrom (L' + 1) scope.names cl))) (leaving (envX qual scope L' f (.ref c') (cellsFrom (L' + 1) scope.names cl)) e) (fun _ s'' => R (.error e) s'') (fun e' s'' => R (.error e') s'') s')
        { s with heap := h₁, toks := tk })
    (hco : scope.isCoroutine = false) (hgen : scope.isGenerator = false) (hk : scope.kind = .function) : codeAny (model prog w) A (.call (.ref f) args) R s :=
  callX_both (cl := cl) B F N T.nolimit hA hf hke (N _ ho).1 rfl hcd hroom hbind hloc (fun g L' h₁ tk cells FG F' N' Y B' st l => h g L' h₁ tk cells FG F' N' Y B' (X₀.keeps st) (T.keeps st) l) hco hgen hk
theorem ents_ne {l : Addr} {o : Obj} {h : Heap} (ho : ∀ vs, o.data ≠ .fields vs) (I : TabInv T) (N : News h₀ L h led) (hl : Led led news T) (hm : (l, o) ∈ led) : ∀ p ∈ entsOf T, p.1 ≠ l := fun p hp e => by
  have h1 := (N _ hm).1
  have h2 := (N p (by rw [hl.eq]; exact List.mem_append_right _ hp)).1
  rw [e] at h2
  have h3 : p.2 = o := Option.some.inj (h2.symm.trans h1)
  rcases ents_kinds I hp with ⟨t, _, rfl⟩ | ⟨t, ht, en, hen, rfl, _⟩
  · exact ho _ (by rw [← h3])
  · obtain ⟨⟨vs, _, _, _, _, _, _, _, _, _, hd, _⟩, _⟩ := I.2.2 t ht en hen
    exact ho vs (by rw [← h3]; exact hd)
theorem nf_cell {o : Obj} {v : Option Value} (h : o.data = .cell v) : ∀ vs, o.data ≠ .fields vs := fun vs e => by rw [h] at e; cases e
theorem nn_lt {d k : Addr} {a b : List (Addr × Obj)} (h : ∀ p ∈ a ++ b, p.1 < d) : ∀ p ∈ a, p.1 ≠ d + k := fun p hp => Nat.ne_of_lt (Nat.lt_of_lt_of_le (h p (List.mem_append_left _ hp)) (Nat.le_add_right _ _))
theorem all_app {d : Addr} {a b : List (Addr × Obj)} (x : ∀ p ∈ a, p.1 ≠ d) (y : ∀ p ∈ b, p.1 ≠ d) : ∀ p ∈ a ++ b, p.1 ≠ d := fun p hp => (List.mem_append.mp hp).elim (x p) (y p)
theorem allLt_get {d : Addr} {l : List (Addr × Obj)} (h : AllLt d l) : ∀ p ∈ l, p.1 < d := by
  induction l with
  | nil => intro p hp; exact absurd hp List.not_mem_nil
  | cons q r ih =>
    intro p hp
    rcases List.mem_cons.mp hp with rfl | hp
    · exact h.1
    · exact ih h.2 p hp
theorem allne_of {d : Addr} {l : List (Addr × Obj)} (h : AllLt d l) : ∀ p ∈ l, p.1 ≠ d := fun p hp => Nat.ne_of_lt (allLt_get h p hp)
theorem allne_left {d : Addr} {a b : List (Addr × Obj)} (h : AllLt d (a ++ b)) : ∀ p ∈ a, p.1 ≠ d := fun p hp => Nat.ne_of_lt (allLt_get h p (List.mem_append_left _ hp))
theorem nn_all {d k : Addr} {a b : List (Addr × Obj)} (h : AllLt d (a ++ b)) : ∀ p ∈ a, p.1 ≠ d + k := nn_lt (allLt_get h)
theorem nn_all1 {d k : Addr} {a : List (Addr × Obj)} (h : AllLt d a) : ∀ p ∈ a, p.1 ≠ d + k := fun p hp => Nat.ne_of_lt (Nat.lt_of_lt_of_le (allLt_get h p hp) (Nat.le_add_right _ _))
theorem nn_lt1 {d k : Addr} {a : List (Addr × Obj)} (h : ∀ p ∈ a, p.1 < d) : ∀ p ∈ a, p.1 ≠ d + k := fun p hp => Nat.ne_of_lt (Nat.lt_of_lt_of_le (h p hp) (Nat.le_add_right _ _))
theorem CodeIn.le {T T' : List Tab} {l : Nat} {c P : Addr} (h : TLe T T') (x : CodeIn T l c P) : CodeIn T' l c P := h l c P x
end
/-! results with tables -/
noncomputable def RT (news : List (Addr × Obj)) (T : List Tab) (Rv : Value → Prop) (r : Value) (n : List (Addr × Obj)) : Prop := ∃ T', TabInv T' ∧ TLe T T' ∧ n = news ++ entsOf T' ∧ Rv r
/-- what a write's call does to the pieces -/
structure Writes (f : Addr) (df : Nat) (W : List (Array UInt8 × Tok) → Nat → List (Addr × Obj)) (T : List Tab) : Prop where
  fn : ∃ oc od fd sl, ∀ ps k, (f, (⟨oc, od, .func fd, sl⟩ : Obj)) ∈ W ps k
  call : ∀ ps k b t, ps.length < 1000 → Call df f [.bytes b t] (W ps k ++ entsOf T) (fun r n => r = .none ∧ n = W (ps ++ [(b, t)]) (k + 1) ++ entsOf T)
theorem Call.perm {d : Nat} {f : Addr} {vs : List Value} {led led' : List (Addr × Obj)} {R R' : Value → List (Addr × Obj) → Prop} (C : Call d f vs led R) (h1 : ∀ q ∈ led, q ∈ led') (h2 : ∀ r n, R r n → ∃ n', R' r n' ∧ ∀ q ∈ n', q ∈ n) : Call d f vs led' R' := by
  unfold Call
  intro prog w p loose mean mg mb dp un gd cn cs a ccd cl outer A₀ base h₀ L m s Q E B F X N Tp hk hd hu hret
  exact C _ _ _ _ _ _ _ _ _ _ _ _ _ _ _ _ _ _ _ _ _ _ _ _ B F X (fun q hq => N q (h1 q hq)) Tp hk hd hu fun r n h' tk' hR F' N' => by
    obtain ⟨n', hR', hs⟩ := h2 r n hR
    exact hret r n' h' tk' hR' F' fun q hq => N' q (hs q hq)
theorem Writes.perm {f : Addr} {df : Nat} {W W' : List (Array UInt8 × Tok) → Nat → List (Addr × Obj)} {T : List Tab} (Wr : Writes f df W T) (h : ∀ ps k q, q ∈ W ps k ↔ q ∈ W' ps k) : Writes f df W' T where
  fn := by obtain ⟨oc, od, fd, sl, h1⟩ := Wr.fn; exact ⟨oc, od, fd, sl, fun ps k => (h ps k _).mp (h1 ps k)⟩
  call := fun ps k b t hps => (Wr.call ps k b t hps).perm (fun q hq => (List.mem_append.mp hq).elim (fun x => List.mem_append_left _ ((h _ _ _).mp x)) (List.mem_append_right _)) fun r n ⟨h1, h2⟩ =>
    ⟨_, ⟨h1, rfl⟩, fun q hq => by rw [h2]; exact (List.mem_append.mp hq).elim (fun x => List.mem_append_left _ ((h _ _ _).mpr x)) (List.mem_append_right _)⟩
structure WritesX (f : Addr) (df : Nat) (W : List (Array UInt8 × Tok) → Nat → List (Addr × Obj)) (T : List Tab) : Prop where
  addr : ∀ ps k ps' k', (W ps k).map (·.1) = (W ps' k').map (·.1)
  call : ∀ X, NoTab X → (∀ p ∈ X, ∀ ps k, ∀ q ∈ W ps k, p.1 ≠ q.1) → Writes f df (fun ps k => X ++ W ps k) T
theorem WritesX.nil {f : Addr} {df : Nat} {W : List (Array UInt8 × Tok) → Nat → List (Addr × Obj)} {T : List Tab} (Wr : WritesX f df W T) : Writes f df W T := Wr.call [] .nil (fun _ h => nomatch h)
noncomputable def RW (W : List (Array UInt8 × Tok) → Nat → List (Addr × Obj)) (T : List Tab) (ps : List (Array UInt8 × Tok)) (b : Array UInt8) (r : Value) (n : List (Addr × Obj)) : Prop :=
  r = .none ∧ ∃ qs k', n = W (ps ++ qs) k' ++ entsOf T ∧ cat (qs.map (·.1)) = b ∧ qs.length ≤ 12
noncomputable def RWE (W : List (Array UInt8 × Tok) → Nat → List (Addr × Obj)) (T : List Tab) (ps : List (Array UInt8 × Tok)) (b : Array UInt8) (r : Value) (n : List (Addr × Obj)) : Prop :=
  r = .none ∧ ∃ qs k', n = W (ps ++ qs) k' ++ entsOf T ∧ cat (qs.map (·.1)) = b ∧ qs.length ≤ 80
structure EncS (d : Nat) (val : Value) (b : Array UInt8) (g : Addr) (G : List (Addr × Obj)) (T₀ : List Tab) : Prop where
  fn : ∃ oc od fd sl, (g, (⟨oc, od, .func fd, sl⟩ : Obj)) ∈ G
  call : ∀ T f df W, TabInv T → TLe T₀ T → (∀ ps k, ∀ q ∈ G, q ∈ W ps k) → (∀ ps k, NoTab (W ps k)) → WritesX f df W T → ∀ ps k, ps.length < 900 → Call (d + df) g [.ref f, val, .bool false] (W ps k ++ entsOf T) (RWE W T ps b)
section
variable {d : Nat} {f : Addr} {vs : List Value} {prog : Program} {w : World} {p : Program} {loose : List Str} {mean : ExcName → Option Value} {mg mb : Str → Option Value}
  {dp un : Nat} {gd : Option (List Code)} {cn : Str} {cs : Scope} {a : Addr} {ccd : Value} {cl : List (Str × Addr)} {outer : List Env} {A₀ : Around} {base h₀ : Heap} {L : Addr} {m : Str → Option Value} {news led : List (Addr × Obj)} {s : Shared} {Q E : Value → Shared → Prop}
  {T : List Tab}
theorem Call.use {R : Value → List (Addr × Obj) → Prop} (C : Call d f vs led R) (B : Below A₀ base outer h₀) (F : Fr h₀ L s.heap m) (X : (HD.heap_39 w.params).In h₀) (N : News h₀ L s.heap led) (Tp : Top p loose mean mg mb h₀) (hk : cs.kind = .function)
    (hd : dp + d < recursionLimit) (hu : un + 8 * d < cLine)
    (h : ∀ r n' h' tk', R r n' → Fr h₀ L h' m → News h₀ L h' n' → Q r { s with heap := h', toks := tk' }) :
    wpAny (model prog w) (ktrTop dp un gd cn cs L a ccd cl outer) (call (.ref f) vs) Q E s :=
  C _ _ _ _ _ _ _ _ _ _ _ _ _ _ _ _ _ _ _ _ _ _ _ _ B F X N Tp hk hd hu h
theorem Call.useW {df : Nat} {W : List (Array UInt8 × Tok) → Nat → List (Addr × Obj)} {ps : List (Array UInt8 × Tok)} {k : Nat} {b : Array UInt8} {t : Tok} (Wr : Writes f df W T) (hps : ps.length < 1000) (B : Below A₀ base outer h₀) (F : Fr h₀ L s.heap m) (X : (HD.heap_39 w.params).In h₀)
    (N : News h₀ L s.heap (W ps k ++ entsOf T)) (Tp : Top p loose mean mg mb h₀) (hk : cs.kind = .function) (hd : dp + df < recursionLimit) (hu : un + 8 * df < cLine)
    (h : ∀ h' tk', Fr h₀ L h' m → News h₀ L h' (W (ps ++ [(b, t)]) (k + 1) ++ entsOf T) → Q .none { s with heap := h', toks := tk' }) :
    wpAny (model prog w) (ktrTop dp un gd cn cs L a ccd cl outer) (call (.ref f) [.bytes b t]) Q E s :=
  (Wr.call ps k b t hps).use B F X N Tp hk hd hu fun r n' h' tk' hR F' N' => by obtain ⟨rfl, rfl⟩ := hR; exact h h' tk' F' N'
theorem Call.useT {Rv : Value → Prop} (N : News h₀ L s.heap led) (hl : Led led news T) (I : TabInv T) (C : NoTab news → Call d f vs (news ++ entsOf T) (RT news T Rv)) (B : Below A₀ base outer h₀) (F : Fr h₀ L s.heap m) (X : (HD.heap_39 w.params).In h₀) (Tp : Top p loose mean mg mb h₀) (hk : cs.kind = .function)
    (hd : dp + d < recursionLimit) (hu : un + 8 * d < cLine)
    (h : ∀ r T' h' tk', Rv r → TabInv T' → TLe T T' → Fr h₀ L h' m → News h₀ L h' (news ++ entsOf T') → Q r { s with heap := h', toks := tk' }) :
    wpAny (model prog w) (ktrTop dp un gd cn cs L a ccd cl outer) (call (.ref f) vs) Q E s :=
  (C hl.noTab).use B F X (hl.eq ▸ N) Tp hk hd hu fun r n' h' tk' hR F' N' => by obtain ⟨T', I', hle, rfl, hv⟩ := hR; exact h r T' h' tk' hv I' hle F' N'
end
local macro_rules | `(tactic| k_mem) => `(tactic| first | k_extra "m k_mem" | fail "no line")
theorem lines_JG1 : True := by
  (k_with "m c_inD" => (unfold Call; intro _ _ _ _ _ _ _ _ _ _ _ _ _ _ _ _ _ _ _ _ _ _ _ _ _ _ _ _ _ _ _ _ _; refine wpAny_call ?_; k_dflt (refine' code_def ?k1x49 ?k2x49 ?k3x49 ?k4x49 ?k5x49 ?kAx49 ?kFx49 ?kKx49 ?k6x49 ?k7x49 ?k8x49 ?k9x49 ?kBx49 ?_ ?c2x49 ?c3x49 ?c4x49 ?c5x49; (case kAx49 => exact rfl); (case kFx49 => exact rfl); (case kKx49 => assumption); (case k1x49 => k_asm); (case k2x49 => k_asm); (case k3x49 => k_asm); (case k4x49 => k_asm); (case k5x49 => k_asm); (case k6x49 => k_is); (case k7x49 => k_is); (case k8x49 => ktr_room); (case k9x49 => first | exact binds_K (by k_in) rfl (by k_is) rfl rfl rfl | exact BindsTo.of_eq rfl); (case c5x49 => decide); (case kBx49 => exact locs rfl); (case c2x49 => exact rfl); (case c3x49 => exact rfl); (case c4x49 => exact rfl); k_whole; intro _ _ _ _ _ _ B'ħ _ _; (try dsimp only); (try k_lift B'ħ); (try k_fold))))
  (k_with "m notTab" => (first | assumption | exact NotTab.cell (by assumption) | exact NotTab.cls (by intro hħ; cases hħ)))
  (k_with "m led" => (first | exact Led.nil | exact Led.app (by assumption) | exact Led.app (by rename (∀ _ _, NoTab _) => hhħ; exact hhħ _ _) | (refine' Led.cons ?lax51 ?lbx51; (case lax51 => walk_at "notTab"); (case lbx51 => walk_at "led")) | (refine' Led.front ?lax51 ?lbx51; (case lax51 => assumption); (case lbx51 => walk_at "led"))))
  (k_with "m codeIn" => (first | assumption | (refine' CodeIn.le ?cax52 ?cbx52; (case cax52 => assumption); (case cbx52 => first | assumption | (refine' CodeIn.le ?cax52 ?cbx52; (case cax52 => assumption); (case cbx52 => assumption))))))
  (k_with "m t_head" => (first
  | exact (hd_all (by k_in)).1 | exact (hd_all (by k_in)).2.1 | exact (hd_all (by k_in)).2.2.1 | exact (hd_all (by k_in)).2.2.2.1 | exact (hd_all (by k_in)).2.2.2.2.1 | exact (hd_all (by k_in)).2.2.2.2.2.1
  | exact (hd_all (by k_in)).2.2.2.2.2.2.1 | exact (hd_all (by k_in)).2.2.2.2.2.2.2.1 | exact (hd_all (by k_in)).2.2.2.2.2.2.2.2.1 | exact (hd_all (by k_in)).2.2.2.2.2.2.2.2.2
  | (refine' codeHd_led ?Ix53 ?Nx53 ?lx53 ?cx53; (case Nx53 => k_asm); (case lx53 => walk_at "led"); (case Ix53 => assumption); (case cx53 => walk_at "codeIn"))))
  (k_with "m t_in" => (first | exact (by assumption : TabInv _).2.1 _ (by decide) | (refine' codeIn_P ?Ix54 ?cx54; (case Ix54 => assumption); (case cx54 => walk_at "codeIn"))))
  (k_with "m exec FunctionDef" => (k_here; k_dflt (refine' nestDef_K ?d0x55 ?k0x55 ?a0x55 ?_; (case d0x55 => exact rfl); (case k0x55 => exact rfl); (case a0x55 => exact rfl)); k_dflt (refine' tab_def ?cdx55 ?Ix55 ?Fx55 ?Nx55 ?lx55 ?Tpx55 ?Cx55 ?hinx55 ?clx55 ?qx55 ?_; (case cdx55 => exact rfl); (case Fx55 => k_asm); (case Nx55 => k_asm); (case lx55 => walk_at "led"); (case Ix55 => assumption); (case Tpx55 => k_asm); (case Cx55 => walk_at "t_head"); (case hinx55 => walk_at "t_in"); (case clx55 => exact rfl); (case qx55 => kernel_rfl!)); intro _ _ _ _ _ _ _ _ _ _ _ _ N9ħ lt9ħ; (try simp only [List.cons_append, List.nil_append] at N9ħ); (try k_lt lt9ħ); (try k_sweep)))
  (k_with "m eval Lambda" => (k_here; k_dflt (refine' kla_eval ?d0x56 ?_; (case d0x56 => exact rfl)); k_dflt (refine' tab_lam ?cdx56 ?Ix56 ?Fx56 ?Nx56 ?lx56 ?Tpx56 ?Cx56 ?hinx56 ?clx56 ?qx56 ?_; (case cdx56 => exact rfl); (case Fx56 => k_asm); (case Nx56 => k_asm); (case lx56 => walk_at "led"); (case Ix56 => assumption); (case Tpx56 => k_asm); (case Cx56 => walk_at "t_head"); (case hinx56 => walk_at "t_in"); (case clx56 => exact rfl); (case qx56 => kernel_rfl!)); intro _ _ _ _ _ _ _ _ _ _ _ N9ħ lt9ħ; (try simp only [List.cons_append, List.nil_append] at N9ħ); (try k_lt lt9ħ); (try k_sweep)))
  (k_with "m nn" => (first | assumption | exact allne_of (by assumption) | exact allne_left (by assumption) | exact nn_lt (by assumption) | exact nn_all (by assumption) | exact nn_all1 (by assumption) | exact nn_lt1 (by assumption)))
  (k_with "m tt" => (refine' ents_ne ?ox58 ?Ix58 ?Nx58 ?lx58 ?mx58; (case Nx58 => k_asm); (case lx58 => walk_at "led"); (case Ix58 => assumption); (case mx58 => k_mem); (case ox58 => first | exact nf_cell (by assumption) | (intro _ hħ; cases hħ))))
  (k_with "m k_all" => walk_at "tt")
  (k_with "m k_all" => (refine' all_app ?ax60 ?bx60; (case ax60 => walk_at "nn"); (case bx60 => walk_at "tt")))
  (k_with "m k_mem" => (refine List.mem_append_left _ ?_; first | assumption | (rename (∀ _ _, (_, _) ∈ _) => hhħ; exact hhħ _ _)))
  (k_with "m FnAt" => (k_dflt (exact FnAt.of (by k_asm) (by k_mem))))
  (k_with "m callWith ref" => (k_here; k_dflt (first
  | (refine' callWith_F ?k1x63 ?_; (case k1x63 => exact FnAt.of (by k_asm) (by k_mem)); k_whole)
  | (refine' callWith_F0 ?k1x63 ?_; (case k1x63 => exact FnAt.of (by k_asm) (by k_mem)); k_whole; try dsimp only [List.nil_append, List.cons_append]))))
  (k_with "m call ref" => (k_here; k_dflt (refine' Call.useW ?wx64 ?px64 ?Bq ?Fq ?Xq ?Nq ?Tq ?kq ?dq ?uq ?_; (case wx64 => assumption)); walk_at "c_asm"; (case px64 => first | omega | (simp only [List.length_append, List.length_cons, List.length_nil]; omega)); intro _ _ _ _; (try dsimp only); (try k_sweep)))
  exact True.intro
theorem behind_JG : True := by
  w_top off
  exact True.intro
-- part JH
section
variable {h₀ h' : Heap} {L : Addr} {m : Str → Option Value} {s : Shared} {Q : Value → Shared → Prop} {W : List (Array UInt8 × Tok) → Nat → List (Addr × Obj)} {T : List Tab} {ps qs : List (Array UInt8 × Tok)} {b : Array UInt8} {k' tk' : Nat}
theorem outW (hret : ∀ r n' h' tk', RW W T ps b r n' → Fr h₀ L h' m → News h₀ L h' n' → Q r { s with heap := h', toks := tk' }) (F : Fr h₀ L h' m) (N : News h₀ L h' (W (ps ++ qs) k' ++ entsOf T)) (e : cat (qs.map (·.1)) = b) (hl : qs.length ≤ 12) :
    Q .none { s with heap := h', toks := tk' } := hret _ _ _ _ ⟨rfl, qs, k', rfl, e, hl⟩ F N
theorem ones {qs : List (Array UInt8 × Tok)} (h : ∀ q ∈ qs, q.1.size = 1) : (cat (qs.map (·.1))).size = qs.length := by
  rw [cat_size, List.map_map]
  induction qs with
  | nil => rfl
  | cons q r ih =>
    have := ih fun x hx => h x (.tail _ hx)
    have h1 := h q (.head _)
    simp only [List.map_cons, List.sum_cons, List.length_cons, Function.comp] at this ⊢
    omega
end
section
variable {news : List (Addr × Obj)} {f : Addr} {v : Int} {t u : Tok} {T : List Tab} {df k : Nat} {W : List (Array UInt8 × Tok) → Nat → List (Addr × Obj)} {ps : List (Array UInt8 × Tok)} {x : Value}
theorem c_encv (Wr : Writes f df W T) (hv0 : 0 ≤ v) (hv : v ≤ 18446744073709551615) (hps : ps.length < 950) : Call (df + 1) 297 [.ref f, .int v t, x] (W ps k ++ entsOf T) (RW W T ps (vb v)) := by
  obtain ⟨oc, od, fd, sl, hWf⟩ := Wr.fn
  walk_at "c_inD"
  k_steps
  rename_i F' N'
  unfold StopW
  refine While_inv2 (fun n m nx => ∃ (x b : Int) (tx tb : Tok) (qs : List (Array UInt8 × Tok)) (k' : Nat), nx = W (ps ++ qs) k' ++ entsOf T ∧ m (Str.ofString "value") = some (.int x tx) ∧ m (Str.ofString "bits") = some (.int b tb) ∧
    m (Str.ofString "write") = some (.ref f) ∧ 0 ≤ x ∧ 0 ≤ b ∧ b < 128 ∧ cat (qs.map (·.1)) ++ vb (b + 128 * x) = vb v ∧ (∀ q ∈ qs, q.1.size = 1) ∧ n = x.toNat) (n₀ := (v / 128).toNat) F' N'
    ⟨v / 128, v % 128, _, _, [], k, by rw [List.append_nil], rfl, rfl, rfl, by omega, by omega, by omega, by rw [show v % 128 + 128 * (v / 128) = v by omega]; simp [cat], (fun _ h => nomatch h), rfl⟩ ?_
  rintro n m₁ nx h₁ tk₁ F₁ N₁ ⟨x, b, tx, tb, qs, k', rfl, hm1, hm2, hm3, hx0, hb0, hb1, hcat, hone, rfl⟩
  have hlen : qs.length ≤ 10 := by
    have h1 := congrArg Array.size hcat
    have h2 := vb_size_le hv
    rw [Array.size_append, ones hone] at h1
    omega
  have hpq : (ps ++ qs).length < 970 := by rw [List.length_append]; omega
  clear F' N'
  k_steps
  · refine' stepW ?F ?N (n' := (x / 128).toNat) ?J ?k
    (case F => k_asm)
    (case N => k_asm)
    (case k => omega)
    refine ⟨x / 128, x % 128, _, _, qs ++ [(byteArr [128 + b], _)], k' + 1, by rw [List.append_assoc], rfl, rfl, hm3, by omega, by omega, by omega, ?_, ?_, rfl⟩
    · rw [← hcat, vb_ge (v := b + 128 * x) (by omega), show x % 128 + 128 * (x / 128) = x by omega, List.map_append, cat_append, Array.append_assoc, show (b + 128 * x) % 128 + 128 = 128 + b by omega, show (b + 128 * x) / 128 = x by omega]
      rw [List.map_cons, List.map_nil, cat_one]
      rfl
    · intro q hq
      rcases List.mem_append.mp hq with hq | hq
      · exact hone q hq
      · rw [List.mem_singleton.mp hq]; rfl
  · refine' outW ?h ?F ?N (qs := qs ++ [(byteArr [b], _)]) (k' := k' + 1) ?e ?l
    (case h => assumption)
    (case F => k_asm)
    (case N => (rw [← List.append_assoc]; k_asm))
    (case l => (rw [List.length_append, List.length_cons, List.length_nil]; omega))
    have hx : x = 0 := by omega
    subst hx
    rw [← hcat, List.map_append, cat_append, List.map_cons, List.map_nil, cat_one, show b + 128 * 0 = b by omega, vb_lt (by omega)]
    rfl
theorem c_encsv (Wr : Writes f df W T) (hv0 : -9223372036854775808 ≤ v) (hv : v < 9223372036854775808) (hps : ps.length < 950) : Call (df + 1) 305 [.ref f, .int v t, x] (W ps k ++ entsOf T) (RW W T ps (vb (v % 18446744073709551616))) := by
  obtain ⟨oc, od, fd, sl, hWf⟩ := Wr.fn
  walk_at "c_inD"
  k_steps
  · rename_i F' N'
    unfold StopW
    refine While_inv2 (fun n m nx => ∃ (x b : Int) (tx tb : Tok) (qs : List (Array UInt8 × Tok)) (k' : Nat), nx = W (ps ++ qs) k' ++ entsOf T ∧ m (Str.ofString "value") = some (.int x tx) ∧ m (Str.ofString "bits") = some (.int b tb) ∧
      m (Str.ofString "write") = some (.ref f) ∧ 0 ≤ x ∧ 0 ≤ b ∧ b < 128 ∧ cat (qs.map (·.1)) ++ vb (b + 128 * x) = vb (v % 18446744073709551616) ∧ (∀ q ∈ qs, q.1.size = 1) ∧ n = x.toNat) (n₀ := ((v + 18446744073709551616) / 128).toNat) F' N'
      ⟨(v + 18446744073709551616) / 128, (v + 18446744073709551616) % 128, _, _, [], k, by rw [List.append_nil], rfl, rfl, rfl, by omega, by omega, by omega, by rw [show (v + 18446744073709551616) % 128 + 128 * ((v + 18446744073709551616) / 128) = v % 18446744073709551616 by omega]; simp [cat], (fun _ h => nomatch h), rfl⟩ ?_
    rintro n m₁ nx h₁ tk₁ F₁ N₁ ⟨x, b, tx, tb, qs, k', rfl, hm1, hm2, hm3, hx0, hb0, hb1, hcat, hone, rfl⟩
    have hlen : qs.length ≤ 10 := by
      have h1 := congrArg Array.size hcat
      have h2 := vb_size_le (v := v % 18446744073709551616) (by omega)
      rw [Array.size_append, ones hone] at h1
      omega
    have hpq : (ps ++ qs).length < 970 := by rw [List.length_append]; omega
    clear F' N'
    k_steps
    · refine' stepW ?F ?N (n' := (x / 128).toNat) ?J ?k
      (case F => k_asm)
      (case N => k_asm)
      (case k => omega)
      refine ⟨x / 128, x % 128, _, _, qs ++ [(byteArr [128 + b], _)], k' + 1, by rw [List.append_assoc], rfl, rfl, hm3, by omega, by omega, by omega, ?_, ?_, rfl⟩
      · rw [← hcat, vb_ge (v := b + 128 * x) (by omega), show x % 128 + 128 * (x / 128) = x by omega, List.map_append, cat_append, Array.append_assoc, show (b + 128 * x) % 128 + 128 = 128 + b by omega, show (b + 128 * x) / 128 = x by omega]
        rw [List.map_cons, List.map_nil, cat_one]
        rfl
      · intro q hq
        rcases List.mem_append.mp hq with hq | hq
        · exact hone q hq
        · rw [List.mem_singleton.mp hq]; rfl
    · refine' outW ?h ?F ?N (qs := qs ++ [(byteArr [b], _)]) (k' := k' + 1) ?e ?l
      (case h => assumption)
      (case F => k_asm)
      (case N => (rw [← List.append_assoc]; k_asm))
      (case l => (rw [List.length_append, List.length_cons, List.length_nil]; omega))
      have hx : x = 0 := by omega
      subst hx
      rw [← hcat, List.map_append, cat_append, List.map_cons, List.map_nil, cat_one, show b + 128 * 0 = b by omega, vb_lt (by omega)]
      rfl
  · rename_i F' N'
    unfold StopW
    refine While_inv2 (fun n m nx => ∃ (x b : Int) (tx tb : Tok) (qs : List (Array UInt8 × Tok)) (k' : Nat), nx = W (ps ++ qs) k' ++ entsOf T ∧ m (Str.ofString "value") = some (.int x tx) ∧ m (Str.ofString "bits") = some (.int b tb) ∧
      m (Str.ofString "write") = some (.ref f) ∧ 0 ≤ x ∧ 0 ≤ b ∧ b < 128 ∧ cat (qs.map (·.1)) ++ vb (b + 128 * x) = vb (v % 18446744073709551616) ∧ (∀ q ∈ qs, q.1.size = 1) ∧ n = x.toNat) (n₀ := ((v) / 128).toNat) F' N'
      ⟨(v) / 128, (v) % 128, _, _, [], k, by rw [List.append_nil], rfl, rfl, rfl, by omega, by omega, by omega, by rw [show (v) % 128 + 128 * ((v) / 128) = v % 18446744073709551616 by omega]; simp [cat], (fun _ h => nomatch h), rfl⟩ ?_
    rintro n m₁ nx h₁ tk₁ F₁ N₁ ⟨x, b, tx, tb, qs, k', rfl, hm1, hm2, hm3, hx0, hb0, hb1, hcat, hone, rfl⟩
    have hlen : qs.length ≤ 10 := by
      have h1 := congrArg Array.size hcat
      have h2 := vb_size_le (v := v % 18446744073709551616) (by omega)
      rw [Array.size_append, ones hone] at h1
      omega
    have hpq : (ps ++ qs).length < 970 := by rw [List.length_append]; omega
    clear F' N'
    k_steps
    · refine' stepW ?F2 ?N2 (n' := (x / 128).toNat) ?J2 ?k2
      (case F2 => k_asm)
      (case N2 => k_asm)
      (case k2 => omega)
      refine ⟨x / 128, x % 128, _, _, qs ++ [(byteArr [128 + b], _)], k' + 1, by rw [List.append_assoc], rfl, rfl, hm3, by omega, by omega, by omega, ?_, ?_, rfl⟩
      · rw [← hcat, vb_ge (v := b + 128 * x) (by omega), show x % 128 + 128 * (x / 128) = x by omega, List.map_append, cat_append, Array.append_assoc, show (b + 128 * x) % 128 + 128 = 128 + b by omega, show (b + 128 * x) / 128 = x by omega]
        rw [List.map_cons, List.map_nil, cat_one]
        rfl
      · intro q hq
        rcases List.mem_append.mp hq with hq | hq
        · exact hone q hq
        · rw [List.mem_singleton.mp hq]; rfl
    · refine' outW ?h2 ?F2 ?N2 (qs := qs ++ [(byteArr [b], _)]) (k' := k' + 1) ?e2 ?l2
      (case h2 => assumption)
      (case F2 => k_asm)
      (case N2 => (rw [← List.append_assoc]; k_asm))
      (case l2 => (rw [List.length_append, List.length_cons, List.length_nil]; omega))
      have hx : x = 0 := by omega
      subst hx
      rw [← hcat, List.map_append, cat_append, List.map_cons, List.map_nil, cat_one, show b + 128 * 0 = b by omega, vb_lt (by omega)]
      rfl
end
theorem behind_JH : True := by
  w_top off
  exact True.intro
-- part JI
theorem lines_JI1 : True := by
  (k_with "m codeRec" => (refine' codeRec_led ?Ix65 ?Nx65 ?lx65 ?cx65; (case Nx65 => k_asm); (case lx65 => walk_at "led"); (case Ix65 => assumption); (case cx65 => walk_at "codeIn")))
  (k_with "m lam_in" => (refine' kla_code ?k1x66 ?k2x66 ?k3x66 ?k4x66 ?k5x66 ?kAx66 ?kFx66 ?kKx66 ?k6x66 ?k7x66 ?k8x66 ?k9x66 ?kBx66 ?_ ?c2x66 ?c3x66 ?c4x66 ?c5x66; (case kAx66 => exact rfl); (case kFx66 => exact rfl); (case kKx66 => first | exact rfl | assumption); (case k1x66 => k_asm); (case k2x66 => k_asm); (case k3x66 => k_asm); (case k4x66 => k_asm); (case k5x66 => k_asm); (case k6x66 => k_mem); (case k7x66 => walk_at "codeRec"); (case k8x66 => ktr_room); (case k9x66 => exact rfl); (case c5x66 => decide); (case kBx66 => exact locs rfl); (case c2x66 => exact rfl); (case c3x66 => exact rfl); (case c4x66 => exact rfl); k_whole; intro _ _ _ _ _ _ B'ħ _ _; (try dsimp only); (try k_lift B'ħ); (try k_fold)))
  (k_with "m eval Name" => (k_here; k_dflt (first | (refine' nameX_F ?Nx67 ?cx67 ?mx67 ?dx67 ?_ ?ax67 ?bx67; (case ax67 => rfl); (case bx67 => rfl); (case Nx67 => k_asm); (case cx67 => rfl); (case mx67 => k_mem); (case dx67 => k_asm); k_whole) | (refine' nameX_F ?Nx67 ?cx67 ?mx67 ?dx67 ?_ ?ax67 ?bx67; (case ax67 => rfl); (case bx67 => rfl); (case Nx67 => k_asm); (case cx67 => rfl); (case mx67 => k_mem); (case dx67 => rfl); k_whole))))
  (k_with "m getMethod bytes" => (with_reducible show wpAny _ _ (getMethod (Value.bytes _ _) (Str.ofString "join") _) _ _ _; (with_reducible refine method_join ?_)))
  (k_with "m c_inC" => (unfold Call; intro _ _ _ _ _ _ _ _ _ _ _ _ _ _ _ _ _ _ _ _ _ _ _ _ _ _ _ _ _ _ _ _ _; refine wpAny_call ?_; k_dflt (refine' code_defC ?k1x69 ?k2x69 ?k3x69 ?k4x69 ?k5x69 ?kAx69 ?kFx69 ?kKx69 ?k6x69 ?k7x69 ?k8x69 ?k9x69 ?kBx69 ?kDx69 ?_ ?c2x69 ?c3x69 ?c4x69; (case kAx69 => exact rfl); (case kFx69 => exact rfl); (case kKx69 => assumption); (case k1x69 => k_asm); (case k2x69 => k_asm); (case k3x69 => k_asm); (case k4x69 => k_asm); (case k5x69 => k_asm); (case k6x69 => k_is); (case k7x69 => k_is); (case k8x69 => ktr_room); (case k9x69 => exact BindsTo.of_eq rfl); (case kBx69 => exact rfl); (case kDx69 => decide +kernel); (case c2x69 => exact rfl); (case c3x69 => exact rfl); (case c4x69 => exact rfl); k_whole; intro _ _ _ _ _ _ _ N'ħ Y'ħ B'ħ _ _ l1ħ; (try k_lt l1ħ); k_cells Y'ħ; (try simp only [List.cons_append, List.nil_append] at N'ħ); (try dsimp only); (try k_lift B'ħ); (try k_fold))))
  (k_with "m call ref" => ((with_reducible show wpAny _ _ (call (Value.ref 297) _) _ _ _); refine StopW.mk ?_))
  (k_with "m call builtin:bytes.join" => (k_here; (with_reducible refine' join_N ?Nx71 ?mx71 ?zx71 ?_); k_dflt ((case Nx71 => k_asm); (case mx71 => k_mem); (case zx71 => walk_at "c_side")); intro _ _; (try dsimp only)))
  (k_with "m c_as" => ((case Bq => k_asm); (case Fq => k_asm); (case Xq => k_asm); (case Tq => k_asm); (case kq => first | exact rfl | assumption); (case dq => ktr_room); (case uq => ktr_units)))
  (k_with "m c_le" => (first | assumption | exact TLe.refl _ | (refine' TLe.trans ?_ ?lbx73; (case lbx73 => assumption); walk_at "c_le")))
  exact True.intro
section
variable {news : List (Addr × Obj)} {f c' cell l P : Addr} {t u : Tok} {T : List Tab} {o : Obj} {pm ctv : Value}
noncomputable def lamP (pa : Pos) : Arguments := { posonlyargs := [], args := [{ arg := Str.ofString "piece", annotation := none, pos := pa }], vararg := none, kwonlyargs := [], kw_defaults := [], kwarg := none, defaults := [] }
noncomputable def lamB (p1 p2 p3 p4 : Pos) : Expr := .Call (.Attribute (.Name (Str.ofString "pieces") p1) (Str.ofString "append") p2) [.Name (Str.ofString "piece") p3] [] p4
noncomputable def lamS : Scope := { kind := .function, names := [(Str.ofString "piece", .local), (Str.ofString "pieces", .free)], isGenerator := false, isCoroutine := false, more := [] }
theorem lam255 (I : TabInv T) (NT : NoTab news) (ci : CodeIn T 255 c' P) (hd : o.data = .cell (some (.ref l))) (h1 : l < f) (h2 : cell < l) (h3 : ∀ p ∈ news, p.1 ≠ l) :
    Writes f 1 (fun ps k => (f, kla_obj (Str.ofString "<lambda>") (qOf 255) (lamP ⟨255, 25, 255, 30⟩) (lamB ⟨255, 32, 255, 38⟩ ⟨255, 32, 255, 45⟩ ⟨255, 46, 255, 51⟩ ⟨255, 32, 255, 52⟩) lamS [(Str.ofString "pieces", cell)] pm c' ctv) :: (l, W.listOf (bvals ps).toArray k) :: (cell, o) :: news) T where
  fn := ⟨_, _, _, _, fun _ _ => .head _⟩
  call := by
    intro ps k b t hps
    have hsz : (bvals ps).length ≤ 1000 := by simp [bvals]; omega
    have h1 := ltN h1
    have h2 := ltN h2
    show Call 1 f [.bytes b t] ((f, _) :: (l, _) :: (cell, o) :: (news ++ entsOf T)) (fun r n => r = .none ∧ n = (f, _) :: (l, _) :: (cell, o) :: (news ++ entsOf T))
    unfold lamP lamB lamS
    unfold Call
    intro prog w p loose mean mg mb dp un gd cn cs a ccd cl outer A₀ base h₀ L m s Q E B F X N Tp hk hd' hu hret
    refine wpAny_call ?_
    k_dflt (walk_at "lam_in")
    k_steps
    have e : (bvals ps).toArray.push (.bytes b t) = (bvals (ps ++ [(b, t)])).toArray := by simp [bvals]
    exact hret _ _ _ _ ⟨rfl, rfl⟩ (by k_asm) (by rw [← e]; k_asm)
theorem lam380 (I : TabInv T) (NT : NoTab news) (ci : CodeIn T 380 c' P) (hd : o.data = .cell (some (.ref l))) (h1 : l < f) (h2 : cell < l) (h3 : ∀ p ∈ news, p.1 ≠ l) :
    Writes f 1 (fun ps k => (f, kla_obj (Str.ofString "<lambda>") (qOf 380) (lamP ⟨380, 18, 380, 23⟩) (lamB ⟨380, 25, 380, 31⟩ ⟨380, 25, 380, 38⟩ ⟨380, 39, 380, 44⟩ ⟨380, 25, 380, 45⟩) lamS [(Str.ofString "pieces", cell)] pm c' ctv) :: (l, W.listOf (bvals ps).toArray k) :: (cell, o) :: news) T where
  fn := ⟨_, _, _, _, fun _ _ => .head _⟩
  call := by
    intro ps k b t hps
    have hsz : (bvals ps).length ≤ 1000 := by simp [bvals]; omega
    have h1 := ltN h1
    have h2 := ltN h2
    show Call 1 f [.bytes b t] ((f, _) :: (l, _) :: (cell, o) :: (news ++ entsOf T)) (fun r n => r = .none ∧ n = (f, _) :: (l, _) :: (cell, o) :: (news ++ entsOf T))
    unfold lamP lamB lamS
    unfold Call
    intro prog w p loose mean mg mb dp un gd cn cs a ccd cl outer A₀ base h₀ L m s Q E B F X N Tp hk hd' hu hret
    refine wpAny_call ?_
    k_dflt (walk_at "lam_in")
    k_steps
    have e : (bvals ps).toArray.push (.bytes b t) = (bvals (ps ++ [(b, t)])).toArray := by simp [bvals]
    exact hret _ _ _ _ ⟨rfl, rfl⟩ (by k_asm) (by rw [← e]; k_asm)
end

noncomputable def RB (b : Array UInt8) (r : Value) : Prop := ∃ t, r = .bytes b t
section
variable {h₀ h' : Heap} {L : Addr} {m : Str → Option Value} {s : Shared} {Q : Value → Shared → Prop} {T T' : List Tab} {news led : List (Addr × Obj)} {v : Value} {tk' : Nat} {Rv : Value → Prop}
theorem outT (hret : ∀ r n' h' tk', RT news T Rv r n' → Fr h₀ L h' m → News h₀ L h' n' → Q r { s with heap := h', toks := tk' }) (F : Fr h₀ L h' m) (N : News h₀ L h' led) (I : TabInv T') (le : TLe T T') (hs : ∀ p ∈ news ++ entsOf T', p ∈ led) (hv : Rv v) :
    Q v { s with heap := h', toks := tk' } := hret _ _ _ _ ⟨T', I, le, rfl, hv⟩ F fun p hp => N p (hs p hp)
end
theorem lines_JI2 : True := by
  (k_with "m c_outT" => (refine' outT ?hx74 ?Fx74 ?Nx74 ?Ix74 ?lx74 ?sx74 ?_; (case hx74 => assumption); (case Fx74 => k_asm); (case Nx74 => k_asm); (case Ix74 => assumption); (case lx74 => walk_at "c_le"); (case sx74 => walk_at "c_sub")))
  exact True.intro
section
variable {news : List (Addr × Obj)} {v : Int} {t : Tok} {T : List Tab}
theorem c_VarintBytes (NT : NoTab news) (I : TabInv T) (hv0 : 0 ≤ v) (hv : v ≤ 18446744073709551615) : Call 3 312 [.int v t] (news ++ entsOf T) (RT news T (RB (vb v))) := by
  walk_at "c_inC"
  k_steps
  rename_i l2 hh1 l1 hh2 o2 d2 f9 c9 P9 T9 ctv9 h9 tk9 I9 le9 ci9 F9
  have Wr := fun pm ctv => lam255 (news := news) (pm := pm) (ctv := ctv) I9 NT ci9 d2 lt9ħ.1 l1.1 (allne_left l1.2)
  unfold StopW
  refine' Call.use (c_encv (ps := []) (k := 0) (Wr _ _) hv0 hv (by decide)) ?Bq ?Fq ?Xq ?N ?Tq ?kq ?dq ?uq ?_
  (case N => exact N9ħ)
  walk_at "c_as"
  rintro r n' h' tk' ⟨rfl, qs, k', rfl, e, hl⟩ F' N'
  simp only [List.nil_append, List.cons_append] at N'
  have hz : (cat (qs.map (·.1))).size ≤ 16777216 := by rw [e]; have := vb_size_le hv; omega
  k_steps
  walk_at "c_outT"
  exact ⟨_, by rw [e]⟩
end
theorem behind_JI : True := by
  w_top off
  exact True.intro
-- part JK
noncomputable def RI (i : Int) (r : Value) : Prop := ∃ t, r = .int i t
section
variable {d : Nat} {f : Addr} {vs : List Value} {prog : Program} {w : World} {p : Program} {loose : List Str} {mean : ExcName → Option Value} {mg mb : Str → Option Value}
  {dp un : Nat} {gd : Option (List Code)} {cn : Str} {cs : Scope} {a : Addr} {ccd : Value} {cl : List (Str × Addr)} {outer : List Env} {A₀ : Around} {base h₀ : Heap} {L : Addr} {m : Str → Option Value} {news led : List (Addr × Obj)} {s : Shared} {Q E : Value → Shared → Prop}
  {T : List Tab}
theorem Call.useTB {b : Array UInt8} (N : News h₀ L s.heap led) (hl : Led led news T) (I : TabInv T) (C : NoTab news → Call d f vs (news ++ entsOf T) (RT news T (RB b))) (B : Below A₀ base outer h₀) (F : Fr h₀ L s.heap m) (X : (HD.heap_39 w.params).In h₀) (Tp : Top p loose mean mg mb h₀) (hk : cs.kind = .function)
    (hd : dp + d < recursionLimit) (hu : un + 8 * d < cLine)
    (h : ∀ t T' h' tk', TabInv T' → TLe T T' → Fr h₀ L h' m → News h₀ L h' (news ++ entsOf T') → Q (.bytes b t) { s with heap := h', toks := tk' }) :
    wpAny (model prog w) (ktrTop dp un gd cn cs L a ccd cl outer) (call (.ref f) vs) Q E s :=
  Call.useT N hl I C B F X Tp hk hd hu fun r T' h' tk' hr I' le F' N' => by obtain ⟨t, rfl⟩ := hr; exact h t T' h' tk' I' le F' N'
theorem Call.useTI {b : Int} (N : News h₀ L s.heap led) (hl : Led led news T) (I : TabInv T) (C : NoTab news → Call d f vs (news ++ entsOf T) (RT news T (RI b))) (B : Below A₀ base outer h₀) (F : Fr h₀ L s.heap m) (X : (HD.heap_39 w.params).In h₀) (Tp : Top p loose mean mg mb h₀) (hk : cs.kind = .function)
    (hd : dp + d < recursionLimit) (hu : un + 8 * d < cLine)
    (h : ∀ t T' h' tk', TabInv T' → TLe T T' → Fr h₀ L h' m → News h₀ L h' (news ++ entsOf T') → Q (.int b t) { s with heap := h', toks := tk' }) :
    wpAny (model prog w) (ktrTop dp un gd cn cs L a ccd cl outer) (call (.ref f) vs) Q E s :=
  Call.useT N hl I C B F X Tp hk hd hu fun r T' h' tk' hr I' le F' N' => by obtain ⟨t, rfl⟩ := hr; exact h t T' h' tk' I' le F' N'
end
theorem lines_JK1 : True := by
  (k_with "m c_gotT" => ((case Bq => k_asm); (case Fq => k_asm); (case Xq => k_asm); (case Tq => k_asm); (case kq => first | exact rfl | assumption); (case dq => ktr_room); (case uq => ktr_units); intro _ _ _ _ _ _ _ N9ħ; (try simp only [List.cons_append, List.nil_append] at N9ħ); (try dsimp only); (try k_sweep)))
  (k_with "m call ref" => (k_here; (with_reducible show wpAny _ _ (call (Value.ref 312) _) _ _ _); k_dflt (refine' Call.useTB ?Nq ?lx76 ?Ix76 (fun hnħ => c_VarintBytes hnħ ?Ix76 ?p0x76 ?p1x76) ?Bq ?Fq ?Xq ?Tq ?kq ?dq ?uq ?_; (case Nq => k_asm); (case lx76 => walk_at "led"); (case Ix76 => assumption); (case p0x76 => walk_at "c_side"); (case p1x76 => walk_at "c_side")); walk_at "c_gotT"))
  (k_with "m call type:bytes" => ((with_reducible show wpAny _ _ (call (Value.type "bytes") [Value.bytes _ _]) _ _ _); k_dflt (refine call_bytes_bytes ?_)))
  exact True.intro
section
variable {news : List (Addr × Obj)} {v f wt : Int} {t u : Tok} {T : List Tab}
theorem c_TagBytes (NT : NoTab news) (I : TabInv T) (hf0 : 0 ≤ f) (hf : f < 1152921504606846976) (h0 : 0 ≤ wt) (h5 : wt ≤ 5) : Call 4 319 [.int f t, .int wt u] (news ++ entsOf T) (RT news T (RB (vb (8 * f + wt)))) := by
  walk_at "c_in"
  k_steps
  walk_at "c_outT"
  exact ⟨_, rfl⟩
theorem written_X {f c' cell l P : Addr} {o : Obj} {pm ctv : Value} (I : TabInv T) (NT : NoTab news) (ci : CodeIn T 380 c' P) (hd : o.data = .cell (some (.ref l))) (h1 : l < f) (h2 : cell < l) (h3 : ∀ p ∈ news, p.1 ≠ l) :
    WritesX f 1 (fun ps k => (f, kla_obj (Str.ofString "<lambda>") (qOf 380) (lamP ⟨380, 18, 380, 23⟩) (lamB ⟨380, 25, 380, 31⟩ ⟨380, 25, 380, 38⟩ ⟨380, 39, 380, 44⟩ ⟨380, 25, 380, 45⟩) lamS [(Str.ofString "pieces", cell)] pm c' ctv) :: (l, W.listOf (bvals ps).toArray k) :: (cell, o) :: news) T where
  addr := fun _ _ _ _ => rfl
  call := fun X NX hX => Writes.perm (lam380 (news := X ++ news) I (NX.append NT) ci hd h1 h2 fun p hp => (List.mem_append.mp hp).elim (fun x => hX p x [] 0 _ (.tail _ (.head _))) (h3 p)) fun ps k q => by
    simp only [List.mem_cons, List.mem_append]
    exact ⟨fun h => h.elim (fun a => .inr (.inl a)) fun h => h.elim (fun a => .inr (.inr (.inl a))) fun h => h.elim (fun a => .inr (.inr (.inr (.inl a)))) fun h => h.elim .inl fun a => .inr (.inr (.inr (.inr a))),
      fun h => h.elim (fun a => .inr (.inr (.inr (.inl a)))) fun h => h.elim .inl fun h => h.elim (fun a => .inr (.inl a)) fun h => h.elim (fun a => .inr (.inr (.inl a))) fun a => .inr (.inr (.inr (.inr a)))⟩
variable {d : Nat} {val : Value} {b : Array UInt8} {g : Addr} {G : List (Addr × Obj)} {T₀ : List Tab}
theorem c_written (NT : NoTab news) (I : TabInv T) (ES : EncS d val b g G T₀) (hle : TLe T₀ T) (hG : ∀ p ∈ G, p ∈ news) (hb : b.size ≤ 16777216) : Call (d + 2) 389 [.ref g, val] (news ++ entsOf T) (RT news T (RB b)) := by
  obtain ⟨oc, od, fd, sl, hg⟩ := ES.fn
  have hg' := hG _ hg
  walk_at "c_inC"
  k_steps
  rename_i l2 hh1 l1 hh2 o2 d2 f9 c9 P9 T9 ctv9 h9 tk9 I9 le9 ci9 F9
  have Wr := fun pm ctv => written_X (pm := pm) (ctv := ctv) I9 NT ci9 d2 lt9ħ.1 l1.1 (allne_left l1.2)
  have hG2 : ∀ (x y z : Addr × Obj), ∀ q ∈ G, q ∈ x :: y :: z :: news := fun x y z q hq => .tail _ (.tail _ (.tail _ (hG q hq)))
  refine' Call.use (ES.call T9 f9 1 _ I9 (hle.trans le9) ?c ?e (Wr _ _) [] 0 (by decide)) ?Bq ?Fq ?Xq ?N ?Tq ?kq ?dq ?uq ?_
  (case N => exact N9ħ)
  (case c => exact fun _ _ => hG2 _ _ _)
  (case e => exact fun _ _ => .cons (NotTab.cls (by intro h; cases h)) (.cons (NotTab.cls (by intro h; cases h)) (.cons (NotTab.cell d2) NT)))
  walk_at "c_as"
  rintro r n' h' tk' ⟨rfl, qs, k', rfl, e, hl⟩ F' N'
  simp only [List.nil_append, List.cons_append] at N'
  have hz : (cat (qs.map (·.1))).size ≤ 16777216 := by rw [e]; exact hb
  clear N9ħ F9
  k_steps
  walk_at "c_outT"
  exact ⟨_, by rw [e]⟩
end
theorem lines_JK2 : True := by
  (k_with "m eval Name" => (k_here; k_dflt (refine' nameX_K ?Fx78 ?Xx78 ?Tx78 ?ex78 ?_ ?ax78 ?bx78; (case ax78 => rfl); (case bx78 => rfl); (case Fx78 => k_asm); (case Xx78 => k_asm); (case Tx78 => k_asm); (case ex78 => k_is); k_whole)))
  (k_with "m callWith ref" => (k_here; (with_reducible show wpAny _ _ (callWith _ (Value.ref (@OfNat.ofNat Nat _ _)) _ _ _) _ _ _); k_dflt (first
  | (refine' callWith_K ?k1x79 ?k2x79 ?_; (case k1x79 => k_asm); (case k2x79 => k_is); k_whole)
  | (refine' callWith_K0 ?k1x79 ?k2x79 ?_; (case k1x79 => k_in); (case k2x79 => k_is); k_whole))))
  (k_with "m ite" => (first | (with_reducible refine ite_neg Bool.false_ne_true ?_) | (with_reducible refine ite_pos rfl ?_) | (with_reducible refine ite_pos True.intro ?_)))
  exact True.intro
theorem behind_JK : True := by
  w_top off
  exact True.intro
-- part JL
/-! encoders -/
noncomputable def RE (d : Nat) (P : Value → Array UInt8 → Prop) (news : List (Addr × Obj)) (T : List Tab) (r : Value) (n : List (Addr × Obj)) : Prop :=
  ∃ g G T', r = .ref g ∧ n = G ++ (news ++ entsOf T') ∧ TabInv T' ∧ TLe T T' ∧ NoTab G ∧ ∀ val b, P val b → EncS d val b g (G ++ news) T'
structure SpecS (f1 : Addr) (rep packed : Bool) (d : Nat) (P : List (Addr × Obj) → Int → Value → Array UInt8 → Prop) (G1 : List (Addr × Obj)) (T1 : List Tab) : Prop where
  fn : ∃ oc od fd sl, (f1, (⟨oc, od, .func fd, sl⟩ : Obj)) ∈ G1
  call : ∀ news T p t, TabInv T → TLe T1 T → NoTab news → (∀ q ∈ G1, q ∈ news) → 0 ≤ p → p < 536870912 → Call 5 f1 [.int p t, .bool rep, .bool packed] (news ++ entsOf T) (RE d (P news p) news T)
noncomputable def RSp (S : Addr → List (Addr × Obj) → List Tab → Prop) (news : List (Addr × Obj)) (T : List Tab) (r : Value) (n : List (Addr × Obj)) : Prop :=
  ∃ f1 G1 T1, r = .ref f1 ∧ n = G1 ++ (news ++ entsOf T1) ∧ TabInv T1 ∧ TLe T T1 ∧ NoTab G1 ∧ S f1 G1 T1
noncomputable def PS (_ : List (Addr × Obj)) (p : Int) (val : Value) (b : Array UInt8) : Prop := ∃ v t, val = .int v t ∧ -9223372036854775808 ≤ v ∧ v < 9223372036854775808 ∧ b = vb (8 * p) ++ vb (v % 18446744073709551616)
section
variable {h₀ h' : Heap} {L : Addr} {m : Str → Option Value} {s : Shared} {Q : Value → Shared → Prop} {T T' : List Tab} {news led G1 : List (Addr × Obj)} {f1 : Addr} {tk' : Nat} {S : Addr → List (Addr × Obj) → List Tab → Prop}
theorem outS (hret : ∀ r n' h' tk', RSp S news T r n' → Fr h₀ L h' m → News h₀ L h' n' → Q r { s with heap := h', toks := tk' }) (F : Fr h₀ L h' m) (N : News h₀ L h' (G1 ++ (news ++ entsOf T'))) (I : TabInv T') (le : TLe T T') (hG : NoTab G1) (hS : S f1 G1 T') :
    Q (.ref f1) { s with heap := h', toks := tk' } := hret _ _ _ _ ⟨f1, G1, T', rfl, rfl, I, le, hG, hS⟩ F N
end
section
variable {h₀ h' : Heap} {L : Addr} {m : Str → Option Value} {s : Shared} {Q : Value → Shared → Prop} {T T' : List Tab} {news led G : List (Addr × Obj)} {g : Addr} {tk' d : Nat} {P : Value → Array UInt8 → Prop}
theorem outE (hret : ∀ r n' h' tk', RE d P news T r n' → Fr h₀ L h' m → News h₀ L h' n' → Q r { s with heap := h', toks := tk' }) (F : Fr h₀ L h' m) (N : News h₀ L h' (G ++ (news ++ entsOf T'))) (I : TabInv T') (le : TLe T T') (hG : NoTab G)
    (hS : ∀ val b, P val b → EncS d val b g (G ++ news) T') : Q (.ref g) { s with heap := h', toks := tk' } := hret _ _ _ _ ⟨g, G, T', rfl, rfl, I, le, hG, hS⟩ F N
end
section
variable {h₀ h' : Heap} {L : Addr} {m : Str → Option Value} {s : Shared} {Q : Value → Shared → Prop} {W : List (Array UInt8 × Tok) → Nat → List (Addr × Obj)} {T : List Tab} {ps qs : List (Array UInt8 × Tok)} {b : Array UInt8} {k' tk' : Nat}
theorem outWE (hret : ∀ r n' h' tk', RWE W T ps b r n' → Fr h₀ L h' m → News h₀ L h' n' → Q r { s with heap := h', toks := tk' }) (F : Fr h₀ L h' m) {l : List (Array UInt8 × Tok)} (N : News h₀ L h' (W l k' ++ entsOf T)) (e0 : l = ps ++ qs) (e : cat (qs.map (·.1)) = b) (hl : qs.length ≤ 80) :
    Q .none { s with heap := h', toks := tk' } := hret _ _ _ _ ⟨rfl, qs, k', by rw [e0], e, hl⟩ F N
variable {d : Nat} {f : Addr} {vs : List Value} {prog : Program} {w : World} {p : Program} {loose : List Str} {mean : ExcName → Option Value} {mg mb : Str → Option Value}
  {dp un : Nat} {gd : Option (List Code)} {cn : Str} {cs : Scope} {a : Addr} {ccd : Value} {cl : List (Str × Addr)} {outer : List Env} {A₀ : Around} {base : Heap} {led : List (Addr × Obj)} {E : Value → Shared → Prop}
theorem Call.useRW (C : Call d f vs led (RW W T ps b)) (B : Below A₀ base outer h₀) (F : Fr h₀ L s.heap m) (X : (HD.heap_39 w.params).In h₀) (N : News h₀ L s.heap led) (Tp : Top p loose mean mg mb h₀) (hk : cs.kind = .function)
    (hd : dp + d < recursionLimit) (hu : un + 8 * d < cLine)
    (h : ∀ qs k' h' tk', cat (qs.map (·.1)) = b → qs.length ≤ 12 → Fr h₀ L h' m → News h₀ L h' (W (ps ++ qs) k' ++ entsOf T) → Q .none { s with heap := h', toks := tk' }) :
    wpAny (model prog w) (ktrTop dp un gd cn cs L a ccd cl outer) (call (.ref f) vs) Q E s :=
  C.use B F X N Tp hk hd hu fun r n' h' tk' hR F' N' => by obtain ⟨rfl, qs, k', rfl, e, hl⟩ := hR; exact h qs k' h' tk' e hl F' N'
end
noncomputable def InW (W : List (Array UInt8 × Tok) → Nat → List (Addr × Obj)) (a : Addr) (o : Obj) : Prop := ∀ ps k, (a, o) ∈ W ps k
theorem InW.get {W : List (Array UInt8 × Tok) → Nat → List (Addr × Obj)} {a : Addr} {o : Obj} (h : InW W a o) (ps : List (Array UInt8 × Tok)) (k : Nat) : (a, o) ∈ W ps k := h ps k
theorem Writes.inW {f : Addr} {df : Nat} {W : List (Array UInt8 × Tok) → Nat → List (Addr × Obj)} {T : List Tab} (Wr : Writes f df W T) : ∃ oc od fd sl, InW W f ⟨oc, od, .func fd, sl⟩ := Wr.fn
theorem nn_lt2 {d : Addr} {a b : List (Addr × Obj)} (h : ∀ p ∈ a ++ b, p.1 < d) : ∀ p ∈ a, p.1 ≠ d + 1 + 1 := nn_lt (k := 2) h
theorem nn_lt3 {d : Addr} {a b : List (Addr × Obj)} (h : ∀ p ∈ a ++ b, p.1 < d) : ∀ p ∈ a, p.1 ≠ d + 1 + 1 + 1 := nn_lt (k := 3) h
theorem lines_JL1 : True := by
  (k_with "m nn" => (first | exact nn_lt2 (by assumption) | exact nn_lt3 (by assumption)))
  (k_with "m k_mem" => (refine List.mem_append_left _ ?_; exact InW.get (by assumption) _ _))
  (k_with "m c_inN" => (unfold Call; intro _ _ _ _ _ _ _ _ _ _ _ _ _ _ _ _ _ _ _ _ _ _ _ _ _ _ _ _ _ _ _ _ _; refine wpAny_call ?_; k_dflt (refine' code_nest ?k1x83 ?k2x83 ?k3x83 ?k4x83 ?k5x83 ?kAx83 ?kFx83 ?kKx83 ?k6x83 ?k7x83 ?k8x83 ?k9x83 ?kBx83 ?_ ?c2x83 ?c3x83 ?c4x83 ?c5x83; (case kAx83 => exact rfl); (case kFx83 => exact rfl); (case kKx83 => assumption); (case k1x83 => k_asm); (case k2x83 => k_asm); (case k3x83 => k_asm); (case k4x83 => k_asm); (case k5x83 => k_asm); (case k6x83 => k_mem); (case k7x83 => walk_at "codeRec"); (case k8x83 => ktr_room); (case k9x83 => exact BindsTo.of_eq rfl); (case c5x83 => decide); (case kBx83 => exact locs rfl); (case c2x83 => exact rfl); (case c3x83 => exact rfl); (case c4x83 => exact rfl); k_whole; intro _ _ _ _ _ _ B'ħ _ _; (try dsimp only); (try k_lift B'ħ); (try k_fold))))
  (k_with "m c_inF" => (unfold Call; intro _ _ _ _ _ _ _ _ _ _ _ _ _ _ _ _ _ _ _ _ _ _ _ _ _ _ _ _ _ _ _ _ _; refine wpAny_call ?_; k_dflt (refine' code_both ?k1x84 ?k2x84 ?k3x84 ?k4x84 ?k5x84 ?kAx84 ?kFx84 ?kKx84 ?k6x84 ?k7x84 ?k8x84 ?k9x84 ?kBx84 ?_ ?c2x84 ?c3x84 ?c4x84; (case kAx84 => exact rfl); (case kFx84 => exact rfl); (case kKx84 => assumption); (case k1x84 => k_asm); (case k2x84 => k_asm); (case k3x84 => k_asm); (case k4x84 => k_asm); (case k5x84 => k_asm); (case k6x84 => k_mem); (case k7x84 => walk_at "codeRec"); (case k8x84 => ktr_room); (case k9x84 => exact BindsTo.of_eq rfl); (case kBx84 => exact locs rfl); (case c2x84 => exact rfl); (case c3x84 => exact rfl); (case c4x84 => exact rfl); k_whole; intro _ _ _ _ _ _ _ N'ħ Y'ħ B'ħ _ _ l1ħ; (try k_lt l1ħ); k_cells Y'ħ; (try simp only [List.cons_append, List.nil_append] at N'ħ); (try dsimp only); (try k_lift B'ħ); (try k_fold))))
  (k_with "m call ref" => (k_here; (with_reducible show wpAny _ _ (call (Value.ref 319) _) _ _ _); k_dflt (refine' Call.useTB ?Nq ?lx85 ?Ix85 (fun hnħ => c_TagBytes hnħ ?Ix85 ?p0x85 ?p1x85 ?p2q ?p3x85) ?Bq ?Fq ?Xq ?Tq ?kq ?dq ?uq ?_; (case Nq => k_asm); (case lx85 => walk_at "led"); (case Ix85 => assumption); (case p0x85 => walk_at "c_side"); (case p1x85 => walk_at "c_side"); (case p2q => walk_at "c_side"); (case p3x85 => walk_at "c_side")); walk_at "c_gotT"))
  (k_with "m c_len" => (first | omega | (simp only [List.length_append, List.length_cons, List.length_nil]; omega)))
  (k_with "m c_gotW" => (walk_at "c_asm"; (case p2q => walk_at "c_len"); intro _ _ _ _ _ _ _ _; (try dsimp only); (try k_sweep)))
  (k_with "m call ref" => (k_here; (with_reducible show wpAny _ _ (call (Value.ref 297) _) _ _ _); k_dflt (refine' Call.useRW (c_encv ?wx88 ?p0x88 ?p1x88 ?p2q) ?Bq ?Fq ?Xq ?Nq ?Tq ?kq ?dq ?uq ?_; (case wx88 => assumption); (case p0x88 => walk_at "c_side"); (case p1x88 => walk_at "c_side")); walk_at "c_gotW"))
  (k_with "m call ref" => (k_here; (with_reducible show wpAny _ _ (call (Value.ref 305) _) _ _ _); k_dflt (refine' Call.useRW (c_encsv ?wx89 ?p0x89 ?p1x89 ?p2q) ?Bq ?Fq ?Xq ?Nq ?Tq ?kq ?dq ?uq ?_; (case wx89 => assumption); (case p0x89 => walk_at "c_side"); (case p1x89 => walk_at "c_side")); walk_at "c_gotW"))
  (k_with "m c_noTab" => (repeat' first | exact NoTab.nil | (refine NoTab.cons (by walk_at "notTab") ?_)))
  (k_with "m c_outS4" => (refine' outS ?hx91 ?Fx91 ?Nx91 ?Ix91 ?lx91 ?gx91 ?_ (G1 := [_, _, _, _]); (case hx91 => assumption); (case Fx91 => k_asm); (case Nx91 => k_asm); (case Ix91 => assumption); (case lx91 => walk_at "c_le"); (case gx91 => walk_at "c_noTab")))
  (k_with "m c_outS5" => (refine' outS ?hx92 ?Fx92 ?Nx92 ?Ix92 ?lx92 ?gx92 ?_ (G1 := [_, _, _, _, _]); (case hx92 => assumption); (case Fx92 => k_asm); (case Nx92 => k_asm); (case Ix92 => assumption); (case lx92 => walk_at "c_le"); (case gx92 => walk_at "c_noTab")))
  (k_with "m c_outE3" => (refine' outE ?hx93 ?Fx93 ?Nx93 ?Ix93 ?lx93 ?gx93 ?_ (G := [_, _, _]); (case hx93 => assumption); (case Fx93 => k_asm); (case Nx93 => k_asm); (case Ix93 => assumption); (case lx93 => walk_at "c_le"); (case gx93 => walk_at "c_noTab")))
  (k_with "m c_outW" => (refine' outWE ?hx94 ?Fx94 ?Nx94 ?e0x94 ?_ ?_; (case hx94 => assumption); (case Fx94 => k_asm); (case Nx94 => k_asm); (case e0x94 => first | (simp only [List.append_assoc]; exact rfl) | exact rfl)))
  exact True.intro
section
variable {news : List (Addr × Obj)} {t : Tok} {T : List Tab}
theorem c_SE305 (NT : NoTab news) (I : TabInv T) : Call 1 326 [.int 0 t, .ref 305, .ref 240] (news ++ entsOf T) (RSp (fun f1 G1 T1 => SpecS f1 false false 2 PS G1 T1) news T) := by
  walk_at "c_inC"
  k_steps
  walk_at "c_outS4"
  refine ⟨⟨_, _, _, _, .head _⟩, fun news T p t I le NT hG h0 hp => ?_⟩
  have h1 := hG _ (.head _)
  have h2 := hG _ (.tail _ (.head _))
  have h3 := hG _ (.tail _ (.tail _ (.head _)))
  have h4 := hG _ (.tail _ (.tail _ (.tail _ (.head _))))
  clear hG
  walk_at "c_inF"
  k_steps
  walk_at "c_outE3"
  rintro _ _ ⟨v, u, rfl, hv0, hv1, rfl⟩
  refine ⟨⟨_, _, _, _, .head _⟩, fun T f df W I le hW NTW WX ps k hps => ?_⟩
  have Wr := WX.nil
  obtain ⟨oc, od, fd, sl, hf⟩ := Wr.inW
  have g1 : InW W _ _ := fun ps k => hW ps k _ (.head _)
  have g2 : InW W _ _ := fun ps k => hW ps k _ (.tail _ (.head _))
  have g3 : InW W _ _ := fun ps k => hW ps k _ (.tail _ (.tail _ (.head _)))
  have g4 : InW W _ _ := fun ps k => hW ps k _ (.tail _ (.tail _ (.tail _ h2)))
  have g5 : InW W _ _ := fun ps k => hW ps k _ (.tail _ (.tail _ (.tail _ h3)))
  clear hW h1 h2 h3 h4
  rw [Nat.add_comm 2 df]
  walk_at "c_inN"
  k_steps
  walk_at "c_outW"
  · simp only [List.map_append, List.map_cons, List.map_nil, cat_append, cat_one, Int.add_zero]
    rw [‹cat _ = _›]
  · simp only [List.length_append, List.length_cons, List.length_nil]; omega
end
theorem behind_JL : True := by
  w_top off
  exact True.intro
-- part JM
/-! loops over a list of ints -/
noncomputable def ivals (xs : List (Int × Tok)) : List Value := xs.map fun p => .int p.1 p.2
section
variable {prog : Program} {w : World} {A : Around} {E : Value → Shared → Prop} {s : Shared} {env : Env} {h₀ : Heap} {target : Expr} {body : List Stmt} {Q : Flow → Shared → Prop}
noncomputable def StepF (h₀ : Heap) (env : Env) (s : Shared) (I l : Addr) (oI lo : Obj) (J : (Str → Option Value) → List (Addr × Obj) → Prop) (Q : Flow → Shared → Prop) (f : Flow) (s₂ : Shared) : Prop :=
  UnrPostW h₀ env.locals s [(I, oI)] (fun m' n' => SubL [(l, lo)] n' ∧ J m' n' ∧ ∀ p ∈ n', p.1 ≠ I) Q f s₂
theorem stepF {h' : Heap} {tk' : Nat} {I l : Addr} {oI lo : Obj} {m' : Str → Option Value} {news' : List (Addr × Obj)} {J : (Str → Option Value) → List (Addr × Obj) → Prop}
    (F : Fr h₀ env.locals h' m') (N : News h₀ env.locals h' ((I, oI) :: news')) (hl : (l, lo) ∈ news') (hI : ∀ p ∈ news', p.1 ≠ I) (hJ : J m' news') :
    StepF h₀ env s I l oI lo J Q .next { s with heap := h', toks := tk' } :=
  ⟨h', tk', m', news', rfl, F, N, fun p hp q hq => by rw [List.mem_singleton.mp hq]; exact hI p hp, ⟨hl, trivial⟩, hJ, hI⟩
theorem rest_inv {α : Type} (fv : α → Value) {I l : Addr} {lo : Obj} (J : List α → (Str → Option Value) → List (Addr × Obj) → Prop)
    (step : ∀ x r m₁ news₁ oI h₁ tk₁, J (x :: r) m₁ news₁ → oI.cls = .type "list_iterator" → (l, lo) ∈ news₁ → (∀ p ∈ news₁, p.1 ≠ I) → Fr h₀ env.locals h₁ m₁ → News h₀ env.locals h₁ ((I, oI) :: news₁) →
      wpAny (model prog w) A (assign target env (fv x)) (fun _ s₂ => wpAny (model prog w) A (execs body env) (StepF h₀ env { s with heap := h₁, toks := tk₁ } I l oI lo (J r) Q) E s₂) E { s with heap := h₁, toks := tk₁ })
    (done : ∀ m₁ news₁ h₁ tk₁, J [] m₁ news₁ → (l, lo) ∈ news₁ → Fr h₀ env.locals h₁ m₁ → News h₀ env.locals h₁ news₁ → Q .next { s with heap := h₁, toks := tk₁ }) :
    ∀ xs m news, J xs m news → (l, lo) ∈ news → (∀ p ∈ news, p.1 ≠ I) → ItemsRest prog w A E h₀ env target body Q s [(I, "list_iterator")] [(l, lo)] ((xs.map fv).map .val) m news
  | [], m, news, hJ, hl, hI => fun h tk F N => done m news h tk hJ hl F N
  | x :: r, m, news, hJ, hl, hI => by
    rintro _ h tk rfl F oI hc N
    refine wpAny_mono (step x r m news oI h tk hJ hc hl hI F N) (fun _ s₂ h₂ => wpAny_mono h₂ (fun f s₃ h₃ => ?_) fun _ _ e => e) fun _ _ e => e
    cases f with
    | ret v => exact h₃
    | brk => exact h₃
    | next =>
      obtain ⟨h', tk', m', n', e, F', N', hne, hs, hJ', hI'⟩ := h₃
      exact ⟨h', tk', m', n', e, F', N', hne, hs, rest_inv fv J step done r m' n' hJ' hs.1 hI'⟩
    | cont =>
      obtain ⟨h', tk', m', n', e, F', N', hne, hs, hJ', hI'⟩ := h₃
      exact ⟨h', tk', m', n', e, F', N', hne, hs, rest_inv fv J step done r m' n' hJ' hs.1 hI'⟩
end
section
variable {prog : Program} {w : World} {A : Around} {E : Value → Shared → Prop} {s : Shared} {h₀ : Heap} {L a : Addr} {m : Str → Option Value} {cn : Str} {cs : Scope} {ccd : Value} {cl : List (Str × Addr)} {target : Expr} {body : List Stmt} {Q : Flow → Shared → Prop} {news : List (Addr × Obj)}
theorem For_G {α : Type} (fv : α → Value) {sn : Str} {ps pos : Pos} {l : Addr} {xs : List α} {e : Nat} (J : List α → (Str → Option Value) → List (Addr × Obj) → Prop)
    (F : Fr h₀ L s.heap m) (N : News h₀ L s.heap news) (hv : m sn = some (.ref l)) (hl : (l, W.listOf (xs.map fv).toArray e) ∈ news) (hJ : J xs m news)
    (step : ∀ x r m₁ news₁ I oI h₁ tk₁, J (x :: r) m₁ news₁ → oI.cls = .type "list_iterator" → (l, W.listOf (xs.map fv).toArray e) ∈ news₁ → (∀ p ∈ news₁, p.1 ≠ I) → Fr h₀ L h₁ m₁ → News h₀ L h₁ ((I, oI) :: news₁) →
      wpAny (model prog w) A (assign target (envX cn cs L a ccd cl) (fv x)) (fun _ s₂ => wpAny (model prog w) A (execs body (envX cn cs L a ccd cl)) (StepF h₀ (envX cn cs L a ccd cl) { s with heap := h₁, toks := tk₁ } I l oI (W.listOf (xs.map fv).toArray e) (J r) Q) E s₂) E { s with heap := h₁, toks := tk₁ })
    (done : ∀ m₁ news₁ h₁ tk₁, J [] m₁ news₁ → (l, W.listOf (xs.map fv).toArray e) ∈ news₁ → Fr h₀ L h₁ m₁ → News h₀ L h₁ news₁ → Q .next { s with heap := h₁, toks := tk₁ })
    (hh : A.handled = none := by rfl) (hk : cs.kind = .function := by rfl) (hx : (envX cn cs L a ccd cl).kindOf sn = some .local := by rfl) (hd : (sn == ("__debug__" : Str)) = false := by decide)
    (hE : PassesOwn (model prog w) A (envX cn cs L a ccd cl) E := by passes_own) :
    wpAny (model prog w) A (exec (.For target (.Name sn ps) body [] pos) (envX cn cs L a ccd cl)) Q E s := by
  refine For_turns (env := envX cn cs L a ccd cl) F (nameX_L F hv ?_ hk hx hd) (fun _ => rfl) hE
  exact iter_listTurns (n := e) hh F N hl rfl rfl fun I hI => rest_inv fv J (fun x r m₁ news₁ oI h₁ tk₁ => step x r m₁ news₁ I oI h₁ tk₁) done xs m news hJ hl fun p hp => Nat.ne_of_lt (hI p hp)
theorem For_L {sn : Str} {ps pos : Pos} {l : Addr} {xs : List (Int × Tok)} {e : Nat} (J : List (Int × Tok) → (Str → Option Value) → List (Addr × Obj) → Prop)
    (F : Fr h₀ L s.heap m) (N : News h₀ L s.heap news) (hv : m sn = some (.ref l)) (hl : (l, W.listOf (ivals xs).toArray e) ∈ news) (hJ : J xs m news)
    (step : ∀ v t r m₁ news₁ I oI h₁ tk₁, J ((v, t) :: r) m₁ news₁ → oI.cls = .type "list_iterator" → (l, W.listOf (ivals xs).toArray e) ∈ news₁ → (∀ p ∈ news₁, p.1 ≠ I) → Fr h₀ L h₁ m₁ → News h₀ L h₁ ((I, oI) :: news₁) →
      wpAny (model prog w) A (assign target (envX cn cs L a ccd cl) (.int v t)) (fun _ s₂ => wpAny (model prog w) A (execs body (envX cn cs L a ccd cl)) (StepF h₀ (envX cn cs L a ccd cl) { s with heap := h₁, toks := tk₁ } I l oI (W.listOf (ivals xs).toArray e) (J r) Q) E s₂) E { s with heap := h₁, toks := tk₁ })
    (done : ∀ m₁ news₁ h₁ tk₁, J [] m₁ news₁ → (l, W.listOf (ivals xs).toArray e) ∈ news₁ → Fr h₀ L h₁ m₁ → News h₀ L h₁ news₁ → Q .next { s with heap := h₁, toks := tk₁ })
    (hh : A.handled = none := by rfl) (hk : cs.kind = .function := by rfl) (hx : (envX cn cs L a ccd cl).kindOf sn = some .local := by rfl) (hd : (sn == ("__debug__" : Str)) = false := by decide)
    (hE : PassesOwn (model prog w) A (envX cn cs L a ccd cl) E := by passes_own) :
    wpAny (model prog w) A (exec (.For target (.Name sn ps) body [] pos) (envX cn cs L a ccd cl)) Q E s :=
  For_G (fun p : Int × Tok => .int p.1 p.2) J F N hv hl hJ (fun x r => step x.1 x.2 r) done hh hk hx hd hE
theorem For_B {sn : Str} {ps pos : Pos} {l : Addr} {xs : List (Array UInt8 × Tok)} {e : Nat} (J : List (Array UInt8 × Tok) → (Str → Option Value) → List (Addr × Obj) → Prop)
    (F : Fr h₀ L s.heap m) (N : News h₀ L s.heap news) (hv : m sn = some (.ref l)) (hl : (l, W.listOf (bvals xs).toArray e) ∈ news) (hJ : J xs m news)
    (step : ∀ v t r m₁ news₁ I oI h₁ tk₁, J ((v, t) :: r) m₁ news₁ → oI.cls = .type "list_iterator" → (l, W.listOf (bvals xs).toArray e) ∈ news₁ → (∀ p ∈ news₁, p.1 ≠ I) → Fr h₀ L h₁ m₁ → News h₀ L h₁ ((I, oI) :: news₁) →
      wpAny (model prog w) A (assign target (envX cn cs L a ccd cl) (.bytes v t)) (fun _ s₂ => wpAny (model prog w) A (execs body (envX cn cs L a ccd cl)) (StepF h₀ (envX cn cs L a ccd cl) { s with heap := h₁, toks := tk₁ } I l oI (W.listOf (bvals xs).toArray e) (J r) Q) E s₂) E { s with heap := h₁, toks := tk₁ })
    (done : ∀ m₁ news₁ h₁ tk₁, J [] m₁ news₁ → (l, W.listOf (bvals xs).toArray e) ∈ news₁ → Fr h₀ L h₁ m₁ → News h₀ L h₁ news₁ → Q .next { s with heap := h₁, toks := tk₁ })
    (hh : A.handled = none := by rfl) (hk : cs.kind = .function := by rfl) (hx : (envX cn cs L a ccd cl).kindOf sn = some .local := by rfl) (hd : (sn == ("__debug__" : Str)) = false := by decide)
    (hE : PassesOwn (model prog w) A (envX cn cs L a ccd cl) E := by passes_own) :
    wpAny (model prog w) A (exec (.For target (.Name sn ps) body [] pos) (envX cn cs L a ccd cl)) Q E s :=
  For_G (fun p : Array UInt8 × Tok => .bytes p.1 p.2) J F N hv hl hJ (fun x r => step x.1 x.2 r) done hh hk hx hd hE
end
noncomputable def isum (f : Int → Int) (xs : List (Int × Tok)) : Int := (xs.map fun p => f p.1).sum
theorem WritesX.it {f I : Addr} {df : Nat} {W : List (Array UInt8 × Tok) → Nat → List (Addr × Obj)} {T : List Tab} {oI : Obj} {ps : List (Array UInt8 × Tok)} {k : Nat} {r : List (Addr × Obj)} (WX : WritesX f df W T) (hc : oI.cls = .type "list_iterator") (hI : ∀ p ∈ W ps k ++ r, p.1 ≠ I) :
    Writes f df (fun ps k => (I, oI) :: W ps k) T :=
  WX.call [(I, oI)] (.cons (NotTab.cls (by rw [hc]; intro h; cases h)) .nil) fun p hp ps' k' q hq e => by
    rw [List.mem_singleton.mp hp] at e
    have h1 : q.1 ∈ (W ps' k').map (·.1) := List.mem_map.mpr ⟨q, hq, rfl⟩
    rw [WX.addr ps' k' ps k] at h1
    obtain ⟨q', hq', e'⟩ := List.mem_map.mp h1
    exact hI q' (List.mem_append_left _ hq') (e'.trans e.symm)
theorem WritesX.fresh {f I : Addr} {df : Nat} {W : List (Array UInt8 × Tok) → Nat → List (Addr × Obj)} {T : List Tab} {ps ps' : List (Array UInt8 × Tok)} {k k' : Nat} {r : List (Addr × Obj)} (WX : WritesX f df W T) (hI : ∀ p ∈ W ps k ++ r, p.1 ≠ I) : ∀ p ∈ W ps' k' ++ r, p.1 ≠ I := fun p hp => by
  rcases List.mem_append.mp hp with hp | hp
  · have h1 : p.1 ∈ (W ps' k').map (·.1) := List.mem_map.mpr ⟨p, hp, rfl⟩
    rw [WX.addr ps' k' ps k] at h1
    obtain ⟨q', hq', e'⟩ := List.mem_map.mp h1
    exact e' ▸ hI q' (List.mem_append_left _ hq')
  · exact hI p (List.mem_append_right _ hp)
theorem int_eq {a b : Int} {t : Tok} (h : a = b) : some (Value.int a t) = some (Value.int b t) := by rw [h]
section
variable {h₀ : Heap} {L : Addr} {m : Str → Option Value} {s : Shared} {Q : Value → Shared → Prop} {W : List (Array UInt8 × Tok) → Nat → List (Addr × Obj)} {T : List Tab} {ps : List (Array UInt8 × Tok)} {b : Array UInt8} {k df : Nat} {I : Addr} {oI : Obj} {v : Int} {t : Tok} {x : Value}
  {d : Nat} {f : Addr} {vs : List Value} {prog : Program} {w : World} {p : Program} {loose : List Str} {mean : ExcName → Option Value} {mg mb : Str → Option Value}
  {dp un : Nat} {gd : Option (List Code)} {cn : Str} {cs : Scope} {a : Addr} {ccd : Value} {cl : List (Str × Addr)} {outer : List Env} {A₀ : Around} {base : Heap} {E : Value → Shared → Prop}
theorem c_encvI (Wr : Writes f df (fun ps k => (I, oI) :: W ps k) T) (hv0 : 0 ≤ v) (hv : v ≤ 18446744073709551615) (hps : ps.length < 950) : Call (df + 1) 297 [.ref f, .int v t, x] ((I, oI) :: (W ps k ++ entsOf T)) (RW (fun ps k => (I, oI) :: W ps k) T ps (vb v)) := c_encv Wr hv0 hv hps
theorem Call.useRWI (C : Call d f vs ((I, oI) :: (W ps k ++ entsOf T)) (RW (fun ps k => (I, oI) :: W ps k) T ps b)) (B : Below A₀ base outer h₀) (F : Fr h₀ L s.heap m) (X : (HD.heap_39 w.params).In h₀) (N : News h₀ L s.heap ((I, oI) :: (W ps k ++ entsOf T))) (Tp : Top p loose mean mg mb h₀) (hk : cs.kind = .function)
    (hd : dp + d < recursionLimit) (hu : un + 8 * d < cLine)
    (h : ∀ qs k' h' tk', cat (qs.map (·.1)) = b → qs.length ≤ 12 → Fr h₀ L h' m → News h₀ L h' ((I, oI) :: (W (ps ++ qs) k' ++ entsOf T)) → Q .none { s with heap := h', toks := tk' }) :
    wpAny (model prog w) (ktrTop dp un gd cn cs L a ccd cl outer) (call (.ref f) vs) Q E s :=
  C.use B F X N Tp hk hd hu fun r n' h' tk' hR F' N' => by obtain ⟨rfl, qs, k', rfl, e, hl⟩ := hR; exact h qs k' h' tk' e hl F' N'
theorem Call.useWI {t : Tok} (Wr : Writes f df (fun ps k => (I, oI) :: W ps k) T) (hps : ps.length < 1000) (B : Below A₀ base outer h₀) (F : Fr h₀ L s.heap m) (X : (HD.heap_39 w.params).In h₀)
    (N : News h₀ L s.heap ((I, oI) :: (W ps k ++ entsOf T))) (Tp : Top p loose mean mg mb h₀) (hk : cs.kind = .function) (hd : dp + df < recursionLimit) (hu : un + 8 * df < cLine)
    (h : ∀ h' tk', Fr h₀ L h' m → News h₀ L h' ((I, oI) :: (W (ps ++ [(b, t)]) (k + 1) ++ entsOf T)) → Q .none { s with heap := h', toks := tk' }) :
    wpAny (model prog w) (ktrTop dp un gd cn cs L a ccd cl outer) (call (.ref f) [.bytes b t]) Q E s :=
  (Wr.call ps k b t hps).use B F X N Tp hk hd hu fun r n' h' tk' hR F' N' => by obtain ⟨rfl, rfl⟩ := hR; exact h h' tk' F' N'
end
theorem lines_JM1 : True := by
  (k_with "m call ref" => (k_here; (with_reducible show wpAny _ _ (call (Value.ref 297) _) _ _ _); k_dflt (refine' Call.useRWI (c_encvI ?wx95 ?p0x95 ?p1x95 ?p2q) ?Bq ?Fq ?Xq ?Nq ?Tq ?kq ?dq ?uq ?_; (case wx95 => assumption); (case p0x95 => walk_at "c_side"); (case p1x95 => walk_at "c_side")); walk_at "c_gotW"))
  (k_with "m call ref" => (k_here; (with_reducible show wpAny _ _ (call (Value.ref _) [Value.bytes _ _]) _ _ _); k_dflt (refine' Call.useWI ?wx96 ?px96 ?Bq ?Fq ?Xq ?Nq ?Tq ?kq ?dq ?uq ?_; (case wx96 => assumption)); walk_at "c_asm"; (case px96 => walk_at "c_len"); intro _ _ _ _; (try dsimp only); (try k_sweep)))
  (k_with "m c_step" => (refine' stepF ?Fx97 ?Nx97 ?_ ?_ ?_; (case Fx97 => k_asm); (case Nx97 => k_asm)))
  exact True.intro
theorem behind_JM : True := by
  w_top off
  exact True.intro
-- part JN
noncomputable def PU (_ : List (Addr × Obj)) (p : Int) (val : Value) (b : Array UInt8) : Prop := ∃ v t, val = .int v t ∧ 0 ≤ v ∧ v ≤ 18446744073709551615 ∧ b = vb (8 * p) ++ vb v
noncomputable def LAt (news : List (Addr × Obj)) (xs : List (Int × Tok)) (val : Value) : Prop := ∃ l e, val = .ref l ∧ (l, W.listOf (ivals xs).toArray e) ∈ news ∧ (∀ x ∈ xs, 0 ≤ x.1 ∧ x.1 ≤ 18446744073709551615) ∧ xs.length ≤ 4
noncomputable def bodyB (xs : List (Int × Tok)) : Array UInt8 := cat (xs.map fun x => vb x.1)
noncomputable def singB (p : Int) (xs : List (Int × Tok)) : Array UInt8 := cat (xs.map fun x => vb (8 * p) ++ vb x.1)
noncomputable def PP (news : List (Addr × Obj)) (p : Int) (val : Value) (b : Array UInt8) : Prop := ∃ xs, LAt news xs val ∧ b = vb (8 * p + 2) ++ vb (isum vsz xs) ++ bodyB xs
noncomputable def PR (news : List (Addr × Obj)) (p : Int) (val : Value) (b : Array UInt8) : Prop := ∃ xs, LAt news xs val ∧ b = singB p xs
theorem isum_nil (f : Int → Int) : isum f [] = 0 := rfl
theorem isum_cons (f : Int → Int) (x : Int × Tok) (xs : List (Int × Tok)) : isum f (x :: xs) = f x.1 + isum f xs := rfl
theorem isum_bd : ∀ xs : List (Int × Tok), 0 ≤ isum vsz xs ∧ isum vsz xs ≤ 10 * xs.length
  | [] => by simp [isum_nil]
  | x :: xs => by
    have := isum_bd xs
    have h1 := vsz_pos x.1
    have h2 := vsz_le x.1
    rw [isum_cons, List.length_cons]
    omega
theorem isum_le (xs : List (Int × Tok)) (h : xs.length ≤ 4) : 0 ≤ isum vsz xs ∧ isum vsz xs ≤ 40 := by have := isum_bd xs; omega
theorem bodyB_cons (v : Int) (t : Tok) (r : List (Int × Tok)) : bodyB ((v, t) :: r) = vb v ++ bodyB r := by simp [bodyB, cat]
theorem singB_cons (p v : Int) (t : Tok) (r : List (Int × Tok)) : singB p ((v, t) :: r) = vb (8 * p) ++ (vb v ++ singB p r) := by simp [singB, cat]
theorem lines_JN1 : True := by
  (k_with "m c_outE4" => (refine' outE ?hx98 ?Fx98 ?Nx98 ?Ix98 ?lx98 ?gx98 ?_ (G := [_, _, _]); (case hx98 => assumption); (case Fx98 => k_asm); (case Nx98 => k_asm); (case Ix98 => assumption); (case lx98 => walk_at "c_le"); (case gx98 => walk_at "c_noTab")))
  (k_with "m exec For Name Name cons nil" => refine StopW.mk ?_)
  (k_with "m exec For" => refine StopW.mk ?_)
  exact True.intro
section
variable {news : List (Addr × Obj)} {t : Tok} {T : List Tab}
theorem c_SE297 (NT : NoTab news) (I : TabInv T) : Call 1 326 [.int 0 t, .ref 297, .ref 233] (news ++ entsOf T) (RSp (fun f1 G1 T1 => SpecS f1 false false 2 PU G1 T1 ∧ SpecS f1 true true 2 PP G1 T1 ∧ SpecS f1 true false 2 PR G1 T1) news T) := by
  walk_at "c_inC"
  k_steps
  walk_at "c_outS4"
  refine ⟨?_, ?_, ?_⟩
  · refine ⟨⟨_, _, _, _, .head _⟩, fun news T p t I le NT hG h0 hp => ?_⟩
    have h1 := hG _ (.head _)
    have h2 := hG _ (.tail _ (.head _))
    have h3 := hG _ (.tail _ (.tail _ (.head _)))
    have h4 := hG _ (.tail _ (.tail _ (.tail _ (.head _))))
    clear hG
    walk_at "c_inF"
    k_steps
    walk_at "c_outE3"
    rintro _ _ ⟨v, u, rfl, hv0, hv1, rfl⟩
    refine ⟨⟨_, _, _, _, .head _⟩, fun T f df W I le hW NTW WX ps k hps => ?_⟩
    have Wr := WX.nil
    obtain ⟨oc, od, fd, sl, hf⟩ := Wr.inW
    have g1 : InW W _ _ := fun ps k => hW ps k _ (.head _)
    have g2 : InW W _ _ := fun ps k => hW ps k _ (.tail _ (.head _))
    have g3 : InW W _ _ := fun ps k => hW ps k _ (.tail _ (.tail _ (.head _)))
    have g4 : InW W _ _ := fun ps k => hW ps k _ (.tail _ (.tail _ (.tail _ h2)))
    have g5 : InW W _ _ := fun ps k => hW ps k _ (.tail _ (.tail _ (.tail _ h3)))
    clear hW h1 h2 h3 h4
    rw [Nat.add_comm 2 df]
    walk_at "c_inN"
    k_steps
    walk_at "c_outW"
    · simp only [List.map_append, List.map_cons, List.map_nil, cat_append, cat_one, Int.add_zero]
      rw [‹cat _ = _›]
    · simp only [List.length_append, List.length_cons, List.length_nil]; omega
  · refine ⟨⟨_, _, _, _, .head _⟩, fun news T p t I le NT hG h0 hp => ?_⟩
    have h1 := hG _ (.head _)
    have h2 := hG _ (.tail _ (.head _))
    have h3 := hG _ (.tail _ (.tail _ (.head _)))
    have h4 := hG _ (.tail _ (.tail _ (.tail _ (.head _))))
    clear hG
    walk_at "c_inF"
    k_steps
    walk_at "c_outE4"
    rintro _ _ ⟨xs, ⟨l, e, rfl, hl, hx, hlen⟩, rfl⟩
    refine ⟨⟨_, _, _, _, .head _⟩, fun T f df W I le hW NTW WX ps k hps => ?_⟩
    have Wr := WX.nil
    obtain ⟨oc, od, fd, sl, hf⟩ := Wr.inW
    have g1 : InW W _ _ := fun ps k => hW ps k _ (.head _)
    have g2 : InW W _ _ := fun ps k => hW ps k _ (.tail _ (.head _))
    have g3 : InW W _ _ := fun ps k => hW ps k _ (.tail _ (.tail _ (.head _)))
    have g4 : InW W _ _ := fun ps k => hW ps k _ (.tail _ (.tail _ (.tail _ h2)))
    have g5 : InW W _ _ := fun ps k => hW ps k _ (.tail _ (.tail _ (.tail _ h3)))
    have g6 : InW W _ _ := fun ps k => hW ps k _ (.tail _ (.tail _ (.tail _ hl)))
    clear hW h1 h2 h3 h4
    rw [Nat.add_comm 2 df]
    walk_at "c_inN"
    k_steps
    rename_i F' N'
    obtain ⟨qs, hq1, hq2, N1⟩ : ∃ qs : List (Array UInt8 × Tok), cat (qs.map (·.1)) = vb (8 * p + 2) ∧ qs.length = 1 ∧ News _ _ _ (W (ps ++ qs) (k + 1) ++ entsOf T) := ⟨[(_, _)], cat_one _, rfl, N'⟩
    clear N'
    have hmax := isum_le xs hlen
    unfold StopW
    refine For_L (xs := xs) (e := e) (l := l) (fun r m nx => nx = W (ps ++ qs) (k + 1) ++ entsOf T ∧ ∃ tz, m (Str.ofString "size") = some (.int (isum vsz xs - isum vsz r) tz) ∧ m (Str.ofString "write") = some (.ref f) ∧ m (Str.ofString "value") = some (.ref l) ∧
      m (Str.ofString "deterministic") = some (.bool false) ∧ ∀ x ∈ r, 0 ≤ x.1 ∧ x.1 ≤ 18446744073709551615) F' N1 rfl (List.mem_append_left _ (g6 _ _)) ⟨rfl, _, by rw [Int.sub_self]; rfl, rfl, rfl, rfl, hx⟩ ?_ ?_
    · rintro v t r m₁ nx I oI h₁ tk₁ ⟨rfl, tz, hm1, hm2, hm3, hm4, hr⟩ hc hl hI F₁ N₁
      have hv := hr _ (.head _)
      have hv0 := hv.1
      have hv1 := hv.2
      dsimp only at hv0 hv1
      clear F' N1
      k_steps
      walk_at "c_step"
      · exact hl
      · exact hI
      · exact ⟨rfl, _, int_eq (by simp only [isum_cons]; omega), hm2, hm3, hm4, fun x hx => hr x (.tail _ hx)⟩
    · rintro m₁ nx h₁ tk₁ ⟨rfl, tz, hm1, hm2, hm3, hm4, hr⟩ hl F₁ N₁
      clear F' N1
      rw [isum_nil, Int.sub_zero] at hm1
      k_steps
      rename_i qs9 k9 h9 tk9 e9 l9 F9 N9
      unfold StopW
      refine For_L (xs := xs) (e := e) (l := l) (fun r m nx => ∃ qs' k', nx = W (ps ++ qs') k' ++ entsOf T ∧ cat (qs'.map (·.1)) ++ bodyB r = vb (8 * p + 2) ++ vb (isum vsz xs) ++ bodyB xs ∧ qs'.length + 12 * r.length ≤ 13 + 12 * xs.length ∧
        m (Str.ofString "write") = some (.ref f) ∧ m (Str.ofString "value") = some (.ref l) ∧ m (Str.ofString "deterministic") = some (.bool false) ∧ ∀ x ∈ r, 0 ≤ x.1 ∧ x.1 ≤ 18446744073709551615) F9 N9 hm3 (List.mem_append_left _ (g6 _ _))
        ⟨qs ++ qs9, _, by rw [List.append_assoc], by rw [List.map_append, cat_append, hq1, e9], by rw [List.length_append]; omega, hm2, hm3, hm4, hx⟩ ?_ ?_
      · rintro v t r m₁ nx I oI h₁ tk₁ ⟨qs', k', rfl, hcat, hql, hm2, hm3, hm4, hr⟩ hc hl hI F₁ N₁
        have hv := hr _ (.head _)
        have hv0 := hv.1
        have hv1 := hv.2
        dsimp only at hv0 hv1
        have WrI := WX.it hc hI
        have hI' := fun a b => WX.fresh (ps' := a) (k' := b) hI
        rw [List.length_cons] at hql
        have hpq : (ps ++ qs').length < 950 := by rw [List.length_append]; omega
        clear F9 N9
        k_steps
        rename_i qs9 k9 h9 tk9 e9 l9 F9 N9
        walk_at "c_step"
        · exact List.mem_append_left _ (g6 _ _)
        · exact hI' _ _
        · refine ⟨qs' ++ _, _, by rw [List.append_assoc], ?_, ?_, hm2, hm3, hm4, fun x hx => hr x (.tail _ hx)⟩
          · rw [← hcat, List.map_append, cat_append, Array.append_assoc, e9, bodyB_cons]
          · rw [List.length_append]; omega
      · rintro m₁ nx h₁ tk₁ ⟨qs', k', rfl, hcat, hql, hm2, hm3, hm4, hr⟩ hl F₁ N₁
        clear F9 N9
        k_steps
        walk_at "c_outW"
        · rw [← hcat]; simp [bodyB, cat]
        · rw [List.length_nil] at hql; omega
  · refine ⟨⟨_, _, _, _, .head _⟩, fun news T p t I le NT hG h0 hp => ?_⟩
    have h1 := hG _ (.head _)
    have h2 := hG _ (.tail _ (.head _))
    have h3 := hG _ (.tail _ (.tail _ (.head _)))
    have h4 := hG _ (.tail _ (.tail _ (.tail _ (.head _))))
    clear hG
    walk_at "c_inF"
    k_steps
    walk_at "c_outE3"
    rintro _ _ ⟨xs, ⟨l, e, rfl, hl, hx, hlen⟩, rfl⟩
    refine ⟨⟨_, _, _, _, .head _⟩, fun T f df W I le hW NTW WX ps k hps => ?_⟩
    have Wr := WX.nil
    obtain ⟨oc, od, fd, sl, hf⟩ := Wr.inW
    have g1 : InW W _ _ := fun ps k => hW ps k _ (.head _)
    have g2 : InW W _ _ := fun ps k => hW ps k _ (.tail _ (.head _))
    have g3 : InW W _ _ := fun ps k => hW ps k _ (.tail _ (.tail _ (.head _)))
    have g4 : InW W _ _ := fun ps k => hW ps k _ (.tail _ (.tail _ (.tail _ h2)))
    have g5 : InW W _ _ := fun ps k => hW ps k _ (.tail _ (.tail _ (.tail _ h3)))
    have g6 : InW W _ _ := fun ps k => hW ps k _ (.tail _ (.tail _ (.tail _ hl)))
    clear hW h1 h2 h3 h4
    rw [Nat.add_comm 2 df]
    walk_at "c_inN"
    k_steps
    rename News _ _ _ _ => N9
    rename Fr _ _ _ _ => F9
    unfold StopW
    refine For_L (xs := xs) (e := e) (l := l) (fun r m nx => ∃ qs' k', nx = W (ps ++ qs') k' ++ entsOf T ∧ cat (qs'.map (·.1)) ++ singB p r = singB p xs ∧ qs'.length + 13 * r.length ≤ 13 * xs.length ∧
      m (Str.ofString "write") = some (.ref f) ∧ m (Str.ofString "value") = some (.ref l) ∧ m (Str.ofString "deterministic") = some (.bool false) ∧ ∀ x ∈ r, 0 ≤ x.1 ∧ x.1 ≤ 18446744073709551615) F9 N9 rfl (List.mem_append_left _ (g6 _ _))
      ⟨[], k, by rw [List.append_nil], by simp [cat], by rw [List.length_nil]; omega, rfl, rfl, rfl, hx⟩ ?_ ?_
    · rintro v t r m₁ nx I oI h₁ tk₁ ⟨qs', k', rfl, hcat, hql, hm2, hm3, hm4, hr⟩ hc hl hI F₁ N₁
      have hv := hr _ (.head _)
      have hv0 := hv.1
      have hv1 := hv.2
      dsimp only at hv0 hv1
      have WrI := WX.it hc hI
      have hI' := fun a b => WX.fresh (ps' := a) (k' := b) hI
      rw [List.length_cons] at hql
      have hpq : (ps ++ qs').length < 949 := by rw [List.length_append]; omega
      clear F9 N9
      k_steps
      rename_i qs9 k9 h9 tk9 e9 l9 F9 N9
      walk_at "c_step"
      · exact List.mem_append_left _ (g6 _ _)
      · exact hI' _ _
      · refine ⟨qs' ++ ([_] ++ _), _, by simp only [List.append_assoc]; rfl, ?_, ?_, hm2, hm3, hm4, fun x hx => hr x (.tail _ hx)⟩
        · rw [← hcat, List.map_append, cat_append, List.map_append, cat_append, e9, singB_cons]
          simp only [List.map_cons, List.map_nil, cat_one, Array.append_assoc, Int.add_zero]
        · simp only [List.length_append, List.length_cons, List.length_nil]; omega
    · rintro m₁ nx h₁ tk₁ ⟨qs', k', rfl, hcat, hql, hm2, hm3, hm4, hr⟩ hl F₁ N₁
      clear F9 N9
      k_steps
      walk_at "c_outW"
      · rw [← hcat]; simp [singB, cat]
      · rw [List.length_nil] at hql; omega
end
theorem behind_JN : True := by
  w_top off
  exact True.intro
-- part JO
noncomputable def PZ (_ : List (Addr × Obj)) (p : Int) (val : Value) (b : Array UInt8) : Prop := ∃ v t, val = .int v t ∧ -9223372036854775808 ≤ v ∧ v < 9223372036854775808 ∧ b = vb (8 * p) ++ vb (zz v)
section
variable {d : Nat} {f : Addr} {vs : List Value} {prog : Program} {w : World} {p : Program} {loose : List Str} {mean : ExcName → Option Value} {mg mb : Str → Option Value}
  {dp un : Nat} {gd : Option (List Code)} {cn : Str} {cs : Scope} {a : Addr} {ccd : Value} {cl : List (Str × Addr)} {outer : List Env} {A₀ : Around} {base h₀ : Heap} {L : Addr} {m : Str → Option Value} {news led : List (Addr × Obj)} {s : Shared} {Q E : Value → Shared → Prop}
  {T : List Tab} {S : Addr → List (Addr × Obj) → List Tab → Prop}
theorem Call.useSp (N : News h₀ L s.heap led) (hl : Led led news T) (C : NoTab news → Call d f vs (news ++ entsOf T) (RSp S news T)) (B : Below A₀ base outer h₀) (F : Fr h₀ L s.heap m) (X : (HD.heap_39 w.params).In h₀) (Tp : Top p loose mean mg mb h₀) (hk : cs.kind = .function)
    (hd : dp + d < recursionLimit) (hu : un + 8 * d < cLine)
    (h : ∀ f1 G1 T1 h' tk', TabInv T1 → TLe T T1 → NoTab G1 → S f1 G1 T1 → Fr h₀ L h' m → News h₀ L h' (G1 ++ (news ++ entsOf T1)) → Q (.ref f1) { s with heap := h', toks := tk' }) :
    wpAny (model prog w) (ktrTop dp un gd cn cs L a ccd cl outer) (call (.ref f) vs) Q E s :=
  (C hl.noTab).use B F X (hl.eq ▸ N) Tp hk hd hu fun r n' h' tk' hR F' N' => by obtain ⟨f1, G1, T1, rfl, rfl, I1, le1, NG1, hS⟩ := hR; exact h f1 G1 T1 h' tk' I1 le1 NG1 hS F' N'
theorem RE.up {P P' : Value → Array UInt8 → Prop} {G1 : List (Addr × Obj)} {T1 : List Tab} {r : Value} {n : List (Addr × Obj)} (h : RE d P' (G1 ++ news) T1 r n) (le : TLe T T1) (hG : NoTab G1) (hP : ∀ val b, P val b → P' val b) : RE d P news T r n := by
  obtain ⟨g, G, T', rfl, rfl, I, le', NG, hS⟩ := h
  refine ⟨g, G ++ G1, T', rfl, by simp only [List.append_assoc], I, le.trans le', NG.append hG, fun val b hp => ?_⟩
  rw [List.append_assoc]
  exact hS val b (hP val b hp)
end
section
variable {news G1 : List (Addr × Obj)} {t : Tok} {T T1 : List Tab} {p v : Int}
theorem zz_bd (h0 : -9223372036854775808 ≤ v) (h1 : v < 9223372036854775808) : 0 ≤ zz v ∧ zz v ≤ 18446744073709551615 := by unfold zz; split <;> omega
theorem c_ME (NT : NoTab news) (I : TabInv T) : Call 1 333 [.int 0 t, .ref 297, .ref 233, .ref 72] (news ++ entsOf T) (RSp (fun f1 G1 T1 => SpecS f1 false false 2 PZ G1 T1) news T) := by
  walk_at "c_inC"
  k_steps
  walk_at "c_outS5"
  refine ⟨⟨_, _, _, _, .head _⟩, fun news T p t I le NT hG h0 hp => ?_⟩
  have h1 := hG _ (.head _)
  have h2 := hG _ (.tail _ (.head _))
  have h3 := hG _ (.tail _ (.tail _ (.head _)))
  have h4 := hG _ (.tail _ (.tail _ (.tail _ (.head _))))
  have h5 := hG _ (.tail _ (.tail _ (.tail _ (.tail _ (.head _)))))
  clear hG
  walk_at "c_inF"
  k_steps
  walk_at "c_outE3"
  rintro _ _ ⟨v, u, rfl, hv0, hv1, rfl⟩
  have hz := zz_bd hv0 hv1
  have hz0 := hz.1
  have hz1 := hz.2
  refine ⟨⟨_, _, _, _, .head _⟩, fun T f df W I le hW NTW WX ps k hps => ?_⟩
  have Wr := WX.nil
  obtain ⟨oc, od, fd, sl, hf⟩ := Wr.inW
  have g1 : InW W _ _ := fun ps k => hW ps k _ (.head _)
  have g2 : InW W _ _ := fun ps k => hW ps k _ (.tail _ (.head _))
  have g3 : InW W _ _ := fun ps k => hW ps k _ (.tail _ (.tail _ (.head _)))
  have g4 : InW W _ _ := fun ps k => hW ps k _ (.tail _ (.tail _ (.tail _ h2)))
  have g5 : InW W _ _ := fun ps k => hW ps k _ (.tail _ (.tail _ (.tail _ h3)))
  have g6 : InW W _ _ := fun ps k => hW ps k _ (.tail _ (.tail _ (.tail _ h4)))
  clear hW h1 h2 h3 h4 h5
  rw [Nat.add_comm 2 df]
  walk_at "c_inN"
  k_steps
  walk_at "c_outW"
  · simp only [List.map_append, List.map_cons, List.map_nil, cat_append, cat_one, Int.add_zero]
    rw [‹cat _ = _›]
  · simp only [List.length_append, List.length_cons, List.length_nil]; omega
theorem outRE {d : Nat} {h₀ h' : Heap} {L : Addr} {m : Str → Option Value} {s : Shared} {Q : Value → Shared → Prop} {n : List (Addr × Obj)} {r : Value} {tk' : Nat} {P : Value → Array UInt8 → Prop} (hret : ∀ r n' h' tk', RE d P news T r n' → Fr h₀ L h' m → News h₀ L h' n' → Q r { s with heap := h', toks := tk' })
    (F : Fr h₀ L h' m) (N : News h₀ L h' n) (h : RE d P news T r n) : Q r { s with heap := h', toks := tk' } := hret _ _ _ _ h F N
end
theorem lines_JO1 : True := by
  (k_with "m c_outRE" => (refine' outRE ?hx101 ?Fx101 ?Nx101 ?_; (case hx101 => assumption); (case Fx101 => k_asm); (case Nx101 => k_asm)))
  exact True.intro
section
variable {news G1 : List (Addr × Obj)} {t : Tok} {T T1 : List Tab} {p v : Int}
theorem LAt.up {xs : List (Int × Tok)} {val : Value} (h : LAt news xs val) : LAt (G1 ++ news) xs val := by
  obtain ⟨l, e, rfl, hl, r⟩ := h
  exact ⟨l, e, rfl, List.mem_append_right _ hl, r⟩
theorem c_U64FF (NT : NoTab news) (I : TabInv T) (h0 : 0 ≤ p) (hp : p < 536870912) : Call 6 354 [.int p t, .bool false, .bool false] (news ++ entsOf T) (RE 2 (PU news p) news T) := by
  walk_at "c_in"
  k_steps
  refine' Call.useSp ?N ?l (fun hn => c_SE297 hn ?I) ?Bq ?Fq ?Xq ?Tq ?kq ?dq ?uq ?_
  (case N => k_asm)
  (case l => walk_at "led")
  (case I => assumption)
  walk_at "c_as"
  intro f1 G1 T1 h1 tk1 I1 le1 NG1 hS F1 N1
  obtain ⟨oc, od, fd, sl, hf1⟩ := hS.1.fn
  k_steps
  refine' Call.use (hS.1.call (G1 ++ news) T1 p _ I1 (TLe.refl _) (NG1.append NT) (fun q hq => List.mem_append_left _ hq) h0 hp) ?B2 ?F2 ?X2 ?N2 ?T2 ?k2 ?d2 ?u2 ?_
  (case N2 => rw [List.append_assoc]; k_asm)
  (case B2 => k_asm)
  (case F2 => k_asm)
  (case X2 => k_asm)
  (case T2 => k_asm)
  (case k2 => first | exact rfl | assumption)
  (case d2 => ktr_room)
  (case u2 => ktr_units)
  intro r n' h' tk' hR F' N'
  clear F1 N1
  k_steps
  walk_at "c_outRE"
  exact hR.up le1 NG1 fun val b h => h
theorem c_U64TT (NT : NoTab news) (I : TabInv T) (h0 : 0 ≤ p) (hp : p < 536870912) : Call 6 354 [.int p t, .bool true, .bool true] (news ++ entsOf T) (RE 2 (PP news p) news T) := by
  walk_at "c_in"
  k_steps
  refine' Call.useSp ?N ?l (fun hn => c_SE297 hn ?I) ?Bq ?Fq ?Xq ?Tq ?kq ?dq ?uq ?_
  (case N => k_asm)
  (case l => walk_at "led")
  (case I => assumption)
  walk_at "c_as"
  intro f1 G1 T1 h1 tk1 I1 le1 NG1 hS F1 N1
  obtain ⟨oc, od, fd, sl, hf1⟩ := hS.2.1.fn
  k_steps
  refine' Call.use (hS.2.1.call (G1 ++ news) T1 p _ I1 (TLe.refl _) (NG1.append NT) (fun q hq => List.mem_append_left _ hq) h0 hp) ?B2 ?F2 ?X2 ?N2 ?T2 ?k2 ?d2 ?u2 ?_
  (case N2 => rw [List.append_assoc]; k_asm)
  (case B2 => k_asm)
  (case F2 => k_asm)
  (case X2 => k_asm)
  (case T2 => k_asm)
  (case k2 => first | exact rfl | assumption)
  (case d2 => ktr_room)
  (case u2 => ktr_units)
  intro r n' h' tk' hR F' N'
  clear F1 N1
  k_steps
  walk_at "c_outRE"
  exact hR.up le1 NG1 fun val b ⟨xs, h, e⟩ => ⟨xs, h.up, e⟩
theorem c_U64TF (NT : NoTab news) (I : TabInv T) (h0 : 0 ≤ p) (hp : p < 536870912) : Call 6 354 [.int p t, .bool true, .bool false] (news ++ entsOf T) (RE 2 (PR news p) news T) := by
  walk_at "c_in"
  k_steps
  refine' Call.useSp ?N ?l (fun hn => c_SE297 hn ?I) ?Bq ?Fq ?Xq ?Tq ?kq ?dq ?uq ?_
  (case N => k_asm)
  (case l => walk_at "led")
  (case I => assumption)
  walk_at "c_as"
  intro f1 G1 T1 h1 tk1 I1 le1 NG1 hS F1 N1
  obtain ⟨oc, od, fd, sl, hf1⟩ := hS.2.2.fn
  k_steps
  refine' Call.use (hS.2.2.call (G1 ++ news) T1 p _ I1 (TLe.refl _) (NG1.append NT) (fun q hq => List.mem_append_left _ hq) h0 hp) ?B2 ?F2 ?X2 ?N2 ?T2 ?k2 ?d2 ?u2 ?_
  (case N2 => rw [List.append_assoc]; k_asm)
  (case B2 => k_asm)
  (case F2 => k_asm)
  (case X2 => k_asm)
  (case T2 => k_asm)
  (case k2 => first | exact rfl | assumption)
  (case d2 => ktr_room)
  (case u2 => ktr_units)
  intro r n' h' tk' hR F' N'
  clear F1 N1
  k_steps
  walk_at "c_outRE"
  exact hR.up le1 NG1 fun val b ⟨xs, h, e⟩ => ⟨xs, h.up, e⟩
theorem c_I64FF (NT : NoTab news) (I : TabInv T) (h0 : 0 ≤ p) (hp : p < 536870912) : Call 6 347 [.int p t, .bool false, .bool false] (news ++ entsOf T) (RE 2 (PS news p) news T) := by
  walk_at "c_in"
  k_steps
  refine' Call.useSp ?N ?l (fun hn => c_SE305 hn ?I) ?Bq ?Fq ?Xq ?Tq ?kq ?dq ?uq ?_
  (case N => k_asm)
  (case l => walk_at "led")
  (case I => assumption)
  walk_at "c_as"
  intro f1 G1 T1 h1 tk1 I1 le1 NG1 hS F1 N1
  obtain ⟨oc, od, fd, sl, hf1⟩ := hS.fn
  k_steps
  refine' Call.use (hS.call (G1 ++ news) T1 p _ I1 (TLe.refl _) (NG1.append NT) (fun q hq => List.mem_append_left _ hq) h0 hp) ?B2 ?F2 ?X2 ?N2 ?T2 ?k2 ?d2 ?u2 ?_
  (case N2 => rw [List.append_assoc]; k_asm)
  (case B2 => k_asm)
  (case F2 => k_asm)
  (case X2 => k_asm)
  (case T2 => k_asm)
  (case k2 => first | exact rfl | assumption)
  (case d2 => ktr_room)
  (case u2 => ktr_units)
  intro r n' h' tk' hR F' N'
  clear F1 N1
  k_steps
  walk_at "c_outRE"
  exact hR.up le1 NG1 fun val b h => h
theorem c_I32FF (NT : NoTab news) (I : TabInv T) (h0 : 0 ≤ p) (hp : p < 536870912) : Call 6 340 [.int p t, .bool false, .bool false] (news ++ entsOf T) (RE 2 (PS news p) news T) := by
  walk_at "c_in"
  k_steps
  refine' Call.useSp ?N ?l (fun hn => c_SE305 hn ?I) ?Bq ?Fq ?Xq ?Tq ?kq ?dq ?uq ?_
  (case N => k_asm)
  (case l => walk_at "led")
  (case I => assumption)
  walk_at "c_as"
  intro f1 G1 T1 h1 tk1 I1 le1 NG1 hS F1 N1
  obtain ⟨oc, od, fd, sl, hf1⟩ := hS.fn
  k_steps
  refine' Call.use (hS.call (G1 ++ news) T1 p _ I1 (TLe.refl _) (NG1.append NT) (fun q hq => List.mem_append_left _ hq) h0 hp) ?B2 ?F2 ?X2 ?N2 ?T2 ?k2 ?d2 ?u2 ?_
  (case N2 => rw [List.append_assoc]; k_asm)
  (case B2 => k_asm)
  (case F2 => k_asm)
  (case X2 => k_asm)
  (case T2 => k_asm)
  (case k2 => first | exact rfl | assumption)
  (case d2 => ktr_room)
  (case u2 => ktr_units)
  intro r n' h' tk' hR F' N'
  clear F1 N1
  k_steps
  walk_at "c_outRE"
  exact hR.up le1 NG1 fun val b h => h
theorem c_S64FF (NT : NoTab news) (I : TabInv T) (h0 : 0 ≤ p) (hp : p < 536870912) : Call 6 361 [.int p t, .bool false, .bool false] (news ++ entsOf T) (RE 2 (PZ news p) news T) := by
  walk_at "c_in"
  k_steps
  refine' Call.useSp ?N ?l (fun hn => c_ME hn ?I) ?Bq ?Fq ?Xq ?Tq ?kq ?dq ?uq ?_
  (case N => k_asm)
  (case l => walk_at "led")
  (case I => assumption)
  walk_at "c_as"
  intro f1 G1 T1 h1 tk1 I1 le1 NG1 hS F1 N1
  obtain ⟨oc, od, fd, sl, hf1⟩ := hS.fn
  k_steps
  refine' Call.use (hS.call (G1 ++ news) T1 p _ I1 (TLe.refl _) (NG1.append NT) (fun q hq => List.mem_append_left _ hq) h0 hp) ?B2 ?F2 ?X2 ?N2 ?T2 ?k2 ?d2 ?u2 ?_
  (case N2 => rw [List.append_assoc]; k_asm)
  (case B2 => k_asm)
  (case F2 => k_asm)
  (case X2 => k_asm)
  (case T2 => k_asm)
  (case k2 => first | exact rfl | assumption)
  (case d2 => ktr_room)
  (case u2 => ktr_units)
  intro r n' h' tk' hR F' N'
  clear F1 N1
  k_steps
  walk_at "c_outRE"
  exact hR.up le1 NG1 fun val b h => h
end
theorem behind_JO : True := by
  w_top off
  exact True.intro
-- part JP
noncomputable def PStr (_ : List (Addr × Obj)) (p : Int) (val : Value) (b : Array UInt8) : Prop := ∃ n t, val = .str (acute n) t ∧ n ≤ 1000 ∧ b = vb (8 * p + 2) ++ vb ((acuteB n).size) ++ acuteB n
noncomputable def PBy (_ : List (Addr × Obj)) (p : Int) (val : Value) (b : Array UInt8) : Prop := ∃ c t, val = .bytes c t ∧ c.size ≤ 4000 ∧ b = vb (8 * p + 2) ++ vb (c.size) ++ c
section
variable {M : Model} {A : Around} {E : Value → Shared → Prop} {s : Shared}
theorem method_encode {x : Str} {t : Tok} {pl : Sem Bool} {Q : Value × List Value → Shared → Prop} (h : Q (.builtin "str.encode", [.str x t]) s) : wpAny M A (getMethod (.str x t) (Str.ofString "encode") pl) Q E s := by
  with_reducible exact getMethod_builtin (typeIs_str _ _ _) F.plainAttrs_str F.slot_str_encode F.type_str_encode (fun _ e => nomatch e) h
end
theorem lines_JP1 : True := by
  (k_with "m getMethod str" => (with_reducible refine method_encode ?_))
  (k_with "m call builtin:str.encode" => (k_here; (with_reducible refine' call_encode ?zx103 ?_); (case zx103 => walk_at "c_side"); intro _ _; (try dsimp only)))
  exact True.intro
section
variable {news G1 : List (Addr × Obj)} {t : Tok} {T T1 : List Tab} {p v : Int}
theorem acuteB_size (n : Nat) : (acuteB n).size = 2 * n := by
  simp [acuteB]
  omega
theorem c_BytesFF (NT : NoTab news) (I : TabInv T) (h0 : 0 ≤ p) (hp : p < 536870912) : Call 5 375 [.int p t, .bool false, .bool false] (news ++ entsOf T) (RE 2 (PBy news p) news T) := by
  walk_at "c_inC"
  k_steps
  walk_at "c_outE3"
  rintro _ _ ⟨c, u, rfl, hn, rfl⟩
  refine ⟨⟨_, _, _, _, .head _⟩, fun T f df W I le hW NTW WX ps k hps => ?_⟩
  have Wr := WX.nil
  obtain ⟨oc, od, fd, sl, hf⟩ := Wr.inW
  have g1 : InW W _ _ := fun ps k => hW ps k _ (.head _)
  have g2 : InW W _ _ := fun ps k => hW ps k _ (.tail _ (.head _))
  have g3 : InW W _ _ := fun ps k => hW ps k _ (.tail _ (.tail _ (.head _)))
  clear hW
  rw [Nat.add_comm 2 df]
  walk_at "c_inN"
  k_steps
  walk_at "c_outW"
  · simp only [List.map_append, List.map_cons, List.map_nil, cat_append, cat_one]
    rw [‹cat _ = _›, Array.append_assoc]
  · simp only [List.length_append, List.length_cons, List.length_nil]; omega
theorem c_StringFF (NT : NoTab news) (I : TabInv T) (h0 : 0 ≤ p) (hp : p < 536870912) : Call 5 368 [.int p t, .bool false, .bool false] (news ++ entsOf T) (RE 2 (PStr news p) news T) := by
  walk_at "c_inC"
  k_steps
  walk_at "c_outE3"
  rintro _ _ ⟨n, u, rfl, hn, rfl⟩
  refine ⟨⟨_, _, _, _, .head _⟩, fun T f df W I le hW NTW WX ps k hps => ?_⟩
  have Wr := WX.nil
  have hasz : (acuteB n).size ≤ 4000 := by rw [acuteB_size]; omega
  obtain ⟨oc, od, fd, sl, hf⟩ := Wr.inW
  have g1 : InW W _ _ := fun ps k => hW ps k _ (.head _)
  have g2 : InW W _ _ := fun ps k => hW ps k _ (.tail _ (.head _))
  have g3 : InW W _ _ := fun ps k => hW ps k _ (.tail _ (.tail _ (.head _)))
  clear hW
  rw [Nat.add_comm 2 df]
  walk_at "c_inN"
  k_steps
  walk_at "c_outW"
  · simp only [List.map_append, List.map_cons, List.map_nil, cat_append, cat_one]
    rw [‹cat _ = _›, Array.append_assoc]
  · simp only [List.length_append, List.length_cons, List.length_nil]; omega
end
theorem behind_JP : True := by
  w_top off
  exact True.intro
-- part JQ
/-! sizers -/
structure SizS (d : Nat) (val : Value) (x : Int) (g : Addr) (G : List (Addr × Obj)) (T₀ : List Tab) : Prop where
  fn : ∃ oc od fd sl, (g, (⟨oc, od, .func fd, sl⟩ : Obj)) ∈ G
  call : ∀ news T, TabInv T → TLe T₀ T → NoTab news → (∀ q ∈ G, q ∈ news) → Call d g [val] (news ++ entsOf T) (RInt (news ++ entsOf T) x)
noncomputable def RZ (d : Nat) (P : Value → Int → Prop) (news : List (Addr × Obj)) (T : List Tab) (r : Value) (n : List (Addr × Obj)) : Prop :=
  ∃ g G T', r = .ref g ∧ n = G ++ (news ++ entsOf T') ∧ TabInv T' ∧ TLe T T' ∧ NoTab G ∧ ∀ val x, P val x → SizS d val x g (G ++ news) T'
structure SpecZ (f1 : Addr) (rep packed : Bool) (d : Nat) (P : List (Addr × Obj) → Int → Value → Int → Prop) (G1 : List (Addr × Obj)) (T1 : List Tab) : Prop where
  fn : ∃ oc od fd sl, (f1, (⟨oc, od, .func fd, sl⟩ : Obj)) ∈ G1
  call : ∀ news T p t, TabInv T → TLe T1 T → NoTab news → (∀ q ∈ G1, q ∈ news) → 0 ≤ p → p < 536870912 → Call 5 f1 [.int p t, .bool rep, .bool packed] (news ++ entsOf T) (RZ d (P news p) news T)
noncomputable def ZU (_ : List (Addr × Obj)) (p : Int) (val : Value) (x : Int) : Prop := ∃ v t, val = .int v t ∧ x = vsz (8 * p) + vsz v
noncomputable def ZP (news : List (Addr × Obj)) (p : Int) (val : Value) (x : Int) : Prop := ∃ xs, LAt news xs val ∧ x = isum vsz xs + vsz (isum vsz xs) + vsz (8 * p)
noncomputable def ZR (news : List (Addr × Obj)) (p : Int) (val : Value) (x : Int) : Prop := ∃ xs, LAt news xs val ∧ x = vsz (8 * p) * xs.length + isum vsz xs
noncomputable def ZS (_ : List (Addr × Obj)) (p : Int) (val : Value) (x : Int) : Prop := ∃ v t, val = .int v t ∧ x = vsz (8 * p) + if v < 0 then 10 else vsz v
noncomputable def ZZ (_ : List (Addr × Obj)) (p : Int) (val : Value) (x : Int) : Prop := ∃ v t, val = .int v t ∧ -9223372036854775808 ≤ v ∧ v < 9223372036854775808 ∧ x = vsz (8 * p) + vsz (zz v)
section
variable {h₀ h' : Heap} {L : Addr} {m : Str → Option Value} {s : Shared} {Q : Value → Shared → Prop} {T T' : List Tab} {news led G : List (Addr × Obj)} {g : Addr} {tk' d : Nat} {P : Value → Int → Prop}
theorem outZ (hret : ∀ r n' h' tk', RZ d P news T r n' → Fr h₀ L h' m → News h₀ L h' n' → Q r { s with heap := h', toks := tk' }) (F : Fr h₀ L h' m) (N : News h₀ L h' (G ++ (news ++ entsOf T'))) (I : TabInv T') (le : TLe T T') (hG : NoTab G)
    (hS : ∀ val b, P val b → SizS d val b g (G ++ news) T') : Q (.ref g) { s with heap := h', toks := tk' } := hret _ _ _ _ ⟨g, G, T', rfl, rfl, I, le, hG, hS⟩ F N
theorem outRZ {n : List (Addr × Obj)} {r : Value} (hret : ∀ r n' h' tk', RZ d P news T r n' → Fr h₀ L h' m → News h₀ L h' n' → Q r { s with heap := h', toks := tk' })
    (F : Fr h₀ L h' m) (N : News h₀ L h' n) (h : RZ d P news T r n) : Q r { s with heap := h', toks := tk' } := hret _ _ _ _ h F N
theorem RZ.up {P P' : Value → Int → Prop} {G1 : List (Addr × Obj)} {T1 : List Tab} {r : Value} {n : List (Addr × Obj)} (h : RZ d P' (G1 ++ news) T1 r n) (le : TLe T T1) (hG : NoTab G1) (hP : ∀ val b, P val b → P' val b) : RZ d P news T r n := by
  obtain ⟨g, G, T', rfl, rfl, I, le', NG, hS⟩ := h
  refine ⟨g, G ++ G1, T', rfl, by simp only [List.append_assoc], I, le.trans le', NG.append hG, fun val b hp => ?_⟩
  rw [List.append_assoc]
  exact hS val b (hP val b hp)
end
theorem len_iv {prog : Program} {w : World} {A : Around} {E : Value → Shared → Prop} {s : Shared} {h₀ : Heap} {L l : Addr} {e : Nat} {xs : List (Int × Tok)} {led : List (Addr × Obj)} {Q : Value → Shared → Prop} (N : News h₀ L s.heap led) (hm : (l, W.listOf (ivals xs).toArray e) ∈ led) (hz : xs.length ≤ 1000)
    (h : ∀ t k, Q (.int xs.length t) { s with toks := k }) : wpAny (model prog w) A (call (.builtin "len") [.ref l]) Q E s :=
  KM.len_K (n := xs.length) N hm (by simp [ivals]) (by omega) (h _ _)
theorem lines_JQ1 : True := by
  (k_with "m call builtin:len" => (k_here; (with_reducible refine' len_iv ?Nx104 ?mx104 ?zx104 ?_); k_dflt ((case Nx104 => k_asm); (case mx104 => k_mem); (case zx104 => walk_at "c_side")); intro _ _; (try dsimp only)))
  (k_with "m c_outZ3" => (refine' outZ ?hx105 ?Fx105 ?Nx105 ?Ix105 ?lx105 ?gx105 ?_ (G := [_, _, _]); (case hx105 => assumption); (case Fx105 => k_asm); (case Nx105 => k_asm); (case Ix105 => assumption); (case lx105 => walk_at "c_le"); (case gx105 => walk_at "c_noTab")))
  (k_with "m c_outS2" => (refine' outS ?hx106 ?Fx106 ?Nx106 ?Ix106 ?lx106 ?gx106 ?_ (G1 := [_, _]); (case hx106 => assumption); (case Fx106 => k_asm); (case Nx106 => k_asm); (case Ix106 => assumption); (case lx106 => walk_at "c_le"); (case gx106 => walk_at "c_noTab")))
  (k_with "m c_outS3" => (refine' outS ?hx107 ?Fx107 ?Nx107 ?Ix107 ?lx107 ?gx107 ?_ (G1 := [_, _, _]); (case hx107 => assumption); (case Fx107 => k_asm); (case Nx107 => k_asm); (case Ix107 => assumption); (case lx107 => walk_at "c_le"); (case gx107 => walk_at "c_noTab")))
  (k_with "m c_outRZ" => (refine' outRZ ?hx108 ?Fx108 ?Nx108 ?_; (case hx108 => assumption); (case Fx108 => k_asm); (case Nx108 => k_asm)))
  exact True.intro
section
variable {news G1 : List (Addr × Obj)} {t : Tok} {T T1 : List Tab} {p v : Int}
theorem c_SZ240 (NT : NoTab news) (I : TabInv T) : Call 1 254 [.ref 240] (news ++ entsOf T) (RSp (fun f1 G1 T1 => SpecZ f1 false false 2 ZS G1 T1) news T) := by
  walk_at "c_inC"
  k_steps
  walk_at "c_outS2"
  refine ⟨⟨_, _, _, _, .head _⟩, fun news T p t I le NT hG h0 hp => ?_⟩
  have h1 := hG _ (.head _)
  have h2 := hG _ (.tail _ (.head _))
  clear hG
  walk_at "c_inF"
  k_steps
  walk_at "c_outZ3"
  rintro _ _ ⟨v, u, rfl, rfl⟩
  refine ⟨⟨_, _, _, _, .head _⟩, fun news T I le NT hG => ?_⟩
  have g1 := hG _ (.head _)
  have g2 := hG _ (.tail _ (.head _))
  have g3 := hG _ (.tail _ (.tail _ (.head _)))
  have g4 := hG _ (.tail _ (.tail _ (.tail _ h2)))
  clear hG h1 h2
  walk_at "c_inN"
  k_steps
  walk_at "c_outI"
  rfl
theorem c_MZ (NT : NoTab news) (I : TabInv T) : Call 1 261 [.ref 240, .ref 72] (news ++ entsOf T) (RSp (fun f1 G1 T1 => SpecZ f1 false false 2 ZZ G1 T1) news T) := by
  walk_at "c_inC"
  k_steps
  walk_at "c_outS3"
  refine ⟨⟨_, _, _, _, .head _⟩, fun news T p t I le NT hG h0 hp => ?_⟩
  have h1 := hG _ (.head _)
  have h2 := hG _ (.tail _ (.head _))
  have h3 := hG _ (.tail _ (.tail _ (.head _)))
  clear hG
  walk_at "c_inF"
  k_steps
  walk_at "c_outZ3"
  rintro _ _ ⟨v, u, rfl, hv0, hv1, rfl⟩
  have hz := zz_bd hv0 hv1
  refine ⟨⟨_, _, _, _, .head _⟩, fun news T I le NT hG => ?_⟩
  have g1 := hG _ (.head _)
  have g2 := hG _ (.tail _ (.head _))
  have g3 := hG _ (.tail _ (.tail _ (.head _)))
  have g4 := hG _ (.tail _ (.tail _ (.tail _ h2)))
  have g5 := hG _ (.tail _ (.tail _ (.tail _ h3)))
  clear hG h1 h2 h3
  walk_at "c_inN"
  k_steps
  walk_at "c_outI"
  rw [if_neg (by omega)]
theorem c_SZ233 (NT : NoTab news) (I : TabInv T) : Call 1 254 [.ref 233] (news ++ entsOf T) (RSp (fun f1 G1 T1 => SpecZ f1 false false 2 ZU G1 T1 ∧ SpecZ f1 true true 2 ZP G1 T1 ∧ SpecZ f1 true false 2 ZR G1 T1) news T) := by
  walk_at "c_inC"
  k_steps
  walk_at "c_outS2"
  refine ⟨?_, ?_, ?_⟩
  · refine ⟨⟨_, _, _, _, .head _⟩, fun news T p t I le NT hG h0 hp => ?_⟩
    have h1 := hG _ (.head _)
    have h2 := hG _ (.tail _ (.head _))
    clear hG
    walk_at "c_inF"
    k_steps
    walk_at "c_outZ3"
    rintro _ _ ⟨v, u, rfl, rfl⟩
    refine ⟨⟨_, _, _, _, .head _⟩, fun news T I le NT hG => ?_⟩
    have g1 := hG _ (.head _)
    have g2 := hG _ (.tail _ (.head _))
    have g3 := hG _ (.tail _ (.tail _ (.head _)))
    have g4 := hG _ (.tail _ (.tail _ (.tail _ h2)))
    clear hG h1 h2
    walk_at "c_inN"
    k_steps
    walk_at "c_outI"
    rfl
  · refine ⟨⟨_, _, _, _, .head _⟩, fun news T p t I le NT hG h0 hp => ?_⟩
    have h1 := hG _ (.head _)
    have h2 := hG _ (.tail _ (.head _))
    clear hG
    walk_at "c_inF"
    k_steps
    walk_at "c_outZ3"
    rintro _ _ ⟨xs, ⟨l, e, rfl, hl, hx, hlen⟩, rfl⟩
    refine ⟨⟨_, _, _, _, .head _⟩, fun news T I le NT hG => ?_⟩
    have g1 := hG _ (.head _)
    have g2 := hG _ (.tail _ (.head _))
    have g3 := hG _ (.tail _ (.tail _ (.head _)))
    have g4 := hG _ (.tail _ (.tail _ (.tail _ h2)))
    have gl := hG _ (.tail _ (.tail _ (.tail _ hl)))
    clear hG h1 h2 hl
    have hmax := isum_le xs hlen
    walk_at "c_inN"
    k_steps
    rename News _ _ _ _ => N1
    rename Fr _ _ _ _ => F1
    unfold StopW
    refine For_L (xs := xs) (e := e) (l := l) (fun r m nx => nx = news ++ entsOf T ∧ ∃ tz, m (Str.ofString "result") = some (.int (0 + (isum vsz xs - isum vsz r)) tz)) F1 N1 rfl (List.mem_append_left _ gl) ⟨rfl, _, int_eq (by omega)⟩ ?_ ?_
    · rintro v t r m₁ nx I oI h₁ tk₁ ⟨rfl, tz, hm1⟩ hc hl hI F₁ N₁
      clear F1 N1
      k_steps
      walk_at "c_step"
      · exact hl
      · exact hI
      · exact ⟨rfl, _, int_eq (by simp only [isum_cons]; omega)⟩
    · rintro m₁ nx h₁ tk₁ ⟨rfl, tz, hm1⟩ hl F₁ N₁
      clear F1 N1
      rw [isum_nil, Int.sub_zero] at hm1
      k_steps
      walk_at "c_outI"
      simp only [Int.zero_add]
  · refine ⟨⟨_, _, _, _, .head _⟩, fun news T p t I le NT hG h0 hp => ?_⟩
    have h1 := hG _ (.head _)
    have h2 := hG _ (.tail _ (.head _))
    clear hG
    walk_at "c_inF"
    k_steps
    walk_at "c_outZ3"
    rintro _ _ ⟨xs, ⟨l, e, rfl, hl, hx, hlen⟩, rfl⟩
    refine ⟨⟨_, _, _, _, .head _⟩, fun news T I le NT hG => ?_⟩
    have g1 := hG _ (.head _)
    have g2 := hG _ (.tail _ (.head _))
    have g3 := hG _ (.tail _ (.tail _ (.head _)))
    have g4 := hG _ (.tail _ (.tail _ (.tail _ h2)))
    have gl := hG _ (.tail _ (.tail _ (.tail _ hl)))
    clear hG h1 h2 hl
    have hmax := isum_le xs hlen
    walk_at "c_inN"
    k_steps
    rename News _ _ _ _ => N1
    rename Fr _ _ _ _ => F1
    unfold StopW
    refine For_L (xs := xs) (e := e) (l := l) (fun r m nx => nx = news ++ entsOf T ∧ ∃ tz, m (Str.ofString "result") = some (.int (vsz (8 * p) * xs.length + (isum vsz xs - isum vsz r)) tz)) F1 N1 rfl (List.mem_append_left _ gl) ⟨rfl, _, int_eq (by omega)⟩ ?_ ?_
    · rintro v t r m₁ nx I oI h₁ tk₁ ⟨rfl, tz, hm1⟩ hc hl hI F₁ N₁
      clear F1 N1
      k_steps
      walk_at "c_step"
      · exact hl
      · exact hI
      · exact ⟨rfl, _, int_eq (by simp only [isum_cons]; omega)⟩
    · rintro m₁ nx h₁ tk₁ ⟨rfl, tz, hm1⟩ hl F₁ N₁
      clear F1 N1
      rw [isum_nil, Int.sub_zero] at hm1
      k_steps
      walk_at "c_outI"
      simp only [Int.zero_add]
end
theorem behind_JQ : True := by
  w_top off
  exact True.intro
-- part JR
section
variable {news G1 : List (Addr × Obj)} {t : Tok} {T T1 : List Tab} {p v : Int}
theorem z_U64FF (NT : NoTab news) (I : TabInv T) (h0 : 0 ≤ p) (hp : p < 536870912) : Call 6 275 [.int p t, .bool false, .bool false] (news ++ entsOf T) (RZ 2 (ZU news p) news T) := by
  walk_at "c_in"
  k_steps
  refine' Call.useSp ?N ?l (fun hn => c_SZ233 hn ?I) ?Bq ?Fq ?Xq ?Tq ?kq ?dq ?uq ?_
  (case N => k_asm)
  (case l => walk_at "led")
  (case I => assumption)
  walk_at "c_as"
  intro f1 G1 T1 h1 tk1 I1 le1 NG1 hS F1 N1
  obtain ⟨oc, od, fd, sl, hf1⟩ := hS.1.fn
  k_steps
  refine' Call.use (hS.1.call (G1 ++ news) T1 p _ I1 (TLe.refl _) (NG1.append NT) (fun q hq => List.mem_append_left _ hq) h0 hp) ?B2 ?F2 ?X2 ?N2 ?T2 ?k2 ?d2 ?u2 ?_
  (case N2 => rw [List.append_assoc]; k_asm)
  (case B2 => k_asm)
  (case F2 => k_asm)
  (case X2 => k_asm)
  (case T2 => k_asm)
  (case k2 => first | exact rfl | assumption)
  (case d2 => ktr_room)
  (case u2 => ktr_units)
  intro r n' h' tk' hR F' N'
  clear F1 N1
  k_steps
  walk_at "c_outRZ"
  exact hR.up le1 NG1 fun val b h => h
theorem z_U64TT (NT : NoTab news) (I : TabInv T) (h0 : 0 ≤ p) (hp : p < 536870912) : Call 6 275 [.int p t, .bool true, .bool true] (news ++ entsOf T) (RZ 2 (ZP news p) news T) := by
  walk_at "c_in"
  k_steps
  refine' Call.useSp ?N ?l (fun hn => c_SZ233 hn ?I) ?Bq ?Fq ?Xq ?Tq ?kq ?dq ?uq ?_
  (case N => k_asm)
  (case l => walk_at "led")
  (case I => assumption)
  walk_at "c_as"
  intro f1 G1 T1 h1 tk1 I1 le1 NG1 hS F1 N1
  obtain ⟨oc, od, fd, sl, hf1⟩ := hS.2.1.fn
  k_steps
  refine' Call.use (hS.2.1.call (G1 ++ news) T1 p _ I1 (TLe.refl _) (NG1.append NT) (fun q hq => List.mem_append_left _ hq) h0 hp) ?B2 ?F2 ?X2 ?N2 ?T2 ?k2 ?d2 ?u2 ?_
  (case N2 => rw [List.append_assoc]; k_asm)
  (case B2 => k_asm)
  (case F2 => k_asm)
  (case X2 => k_asm)
  (case T2 => k_asm)
  (case k2 => first | exact rfl | assumption)
  (case d2 => ktr_room)
  (case u2 => ktr_units)
  intro r n' h' tk' hR F' N'
  clear F1 N1
  k_steps
  walk_at "c_outRZ"
  exact hR.up le1 NG1 fun val b ⟨xs, h, e⟩ => ⟨xs, h.up, e⟩
theorem z_U64TF (NT : NoTab news) (I : TabInv T) (h0 : 0 ≤ p) (hp : p < 536870912) : Call 6 275 [.int p t, .bool true, .bool false] (news ++ entsOf T) (RZ 2 (ZR news p) news T) := by
  walk_at "c_in"
  k_steps
  refine' Call.useSp ?N ?l (fun hn => c_SZ233 hn ?I) ?Bq ?Fq ?Xq ?Tq ?kq ?dq ?uq ?_
  (case N => k_asm)
  (case l => walk_at "led")
  (case I => assumption)
  walk_at "c_as"
  intro f1 G1 T1 h1 tk1 I1 le1 NG1 hS F1 N1
  obtain ⟨oc, od, fd, sl, hf1⟩ := hS.2.2.fn
  k_steps
  refine' Call.use (hS.2.2.call (G1 ++ news) T1 p _ I1 (TLe.refl _) (NG1.append NT) (fun q hq => List.mem_append_left _ hq) h0 hp) ?B2 ?F2 ?X2 ?N2 ?T2 ?k2 ?d2 ?u2 ?_
  (case N2 => rw [List.append_assoc]; k_asm)
  (case B2 => k_asm)
  (case F2 => k_asm)
  (case X2 => k_asm)
  (case T2 => k_asm)
  (case k2 => first | exact rfl | assumption)
  (case d2 => ktr_room)
  (case u2 => ktr_units)
  intro r n' h' tk' hR F' N'
  clear F1 N1
  k_steps
  walk_at "c_outRZ"
  exact hR.up le1 NG1 fun val b ⟨xs, h, e⟩ => ⟨xs, h.up, e⟩
theorem z_I64FF (NT : NoTab news) (I : TabInv T) (h0 : 0 ≤ p) (hp : p < 536870912) : Call 6 268 [.int p t, .bool false, .bool false] (news ++ entsOf T) (RZ 2 (ZS news p) news T) := by
  walk_at "c_in"
  k_steps
  refine' Call.useSp ?N ?l (fun hn => c_SZ240 hn ?I) ?Bq ?Fq ?Xq ?Tq ?kq ?dq ?uq ?_
  (case N => k_asm)
  (case l => walk_at "led")
  (case I => assumption)
  walk_at "c_as"
  intro f1 G1 T1 h1 tk1 I1 le1 NG1 hS F1 N1
  obtain ⟨oc, od, fd, sl, hf1⟩ := hS.fn
  k_steps
  refine' Call.use (hS.call (G1 ++ news) T1 p _ I1 (TLe.refl _) (NG1.append NT) (fun q hq => List.mem_append_left _ hq) h0 hp) ?B2 ?F2 ?X2 ?N2 ?T2 ?k2 ?d2 ?u2 ?_
  (case N2 => rw [List.append_assoc]; k_asm)
  (case B2 => k_asm)
  (case F2 => k_asm)
  (case X2 => k_asm)
  (case T2 => k_asm)
  (case k2 => first | exact rfl | assumption)
  (case d2 => ktr_room)
  (case u2 => ktr_units)
  intro r n' h' tk' hR F' N'
  clear F1 N1
  k_steps
  walk_at "c_outRZ"
  exact hR.up le1 NG1 fun val b h => h
theorem z_S64FF (NT : NoTab news) (I : TabInv T) (h0 : 0 ≤ p) (hp : p < 536870912) : Call 6 282 [.int p t, .bool false, .bool false] (news ++ entsOf T) (RZ 2 (ZZ news p) news T) := by
  walk_at "c_in"
  k_steps
  refine' Call.useSp ?N ?l (fun hn => c_MZ hn ?I) ?Bq ?Fq ?Xq ?Tq ?kq ?dq ?uq ?_
  (case N => k_asm)
  (case l => walk_at "led")
  (case I => assumption)
  walk_at "c_as"
  intro f1 G1 T1 h1 tk1 I1 le1 NG1 hS F1 N1
  obtain ⟨oc, od, fd, sl, hf1⟩ := hS.fn
  k_steps
  refine' Call.use (hS.call (G1 ++ news) T1 p _ I1 (TLe.refl _) (NG1.append NT) (fun q hq => List.mem_append_left _ hq) h0 hp) ?B2 ?F2 ?X2 ?N2 ?T2 ?k2 ?d2 ?u2 ?_
  (case N2 => rw [List.append_assoc]; k_asm)
  (case B2 => k_asm)
  (case F2 => k_asm)
  (case X2 => k_asm)
  (case T2 => k_asm)
  (case k2 => first | exact rfl | assumption)
  (case d2 => ktr_room)
  (case u2 => ktr_units)
  intro r n' h' tk' hR F' N'
  clear F1 N1
  k_steps
  walk_at "c_outRZ"
  exact hR.up le1 NG1 fun val b h => h
noncomputable def bsum (xs : List (Array UInt8 × Tok)) : Int := (xs.map fun x => vsz x.1.size + x.1.size).sum
theorem bsum_nil : bsum [] = 0 := rfl
theorem bsum_cons (x : Array UInt8 × Tok) (xs : List (Array UInt8 × Tok)) : bsum (x :: xs) = vsz x.1.size + x.1.size + bsum xs := rfl
noncomputable def BAt (news : List (Addr × Obj)) (xs : List (Array UInt8 × Tok)) (val : Value) : Prop := ∃ l e, val = .ref l ∧ (l, W.listOf (bvals xs).toArray e) ∈ news ∧ (∀ x ∈ xs, x.1.size ≤ 4000) ∧ xs.length ≤ 4
noncomputable def ZB (news : List (Addr × Obj)) (p : Int) (val : Value) (x : Int) : Prop := ∃ xs, BAt news xs val ∧ x = vsz (8 * p) * xs.length + bsum xs
theorem len_bv {prog : Program} {w : World} {A : Around} {E : Value → Shared → Prop} {s : Shared} {h₀ : Heap} {L l : Addr} {e : Nat} {xs : List (Array UInt8 × Tok)} {led : List (Addr × Obj)} {Q : Value → Shared → Prop} (N : News h₀ L s.heap led) (hm : (l, W.listOf (bvals xs).toArray e) ∈ led) (hz : xs.length ≤ 1000)
    (h : ∀ t k, Q (.int xs.length t) { s with toks := k }) : wpAny (model prog w) A (call (.builtin "len") [.ref l]) Q E s :=
  KM.len_K (n := xs.length) N hm (by simp [bvals]) (by omega) (h _ _)
end
theorem lines_JR1 : True := by
  (k_with "m call builtin:len" => (k_here; (with_reducible refine' len_bv ?Nx109 ?mx109 ?zx109 ?_); k_dflt ((case Nx109 => k_asm); (case mx109 => k_mem); (case zx109 => walk_at "c_side")); intro _ _; (try dsimp only)))
  exact True.intro
section
variable {news G1 : List (Addr × Obj)} {t : Tok} {T T1 : List Tab} {p v : Int}
end
theorem behind_JR : True := by
  w_top off
  exact True.intro
-- part JU
/-! tuples of octets and a number, compared -/
section
open PySem.SeqAt
variable {A : Around} {s : Shared}
theorem eqAt_int {x y : Int} {t u : Tok} (h : x = y) : EqAt A s (.int x t) (.int y u) true := fun prog w E Q hq => by
  subst h
  unfold eqBool
  refine wpAny_holding ?_
  refine wpAny_ite_split (fun _ => wpAny_bind (wpAny_rule (wpAny_pure hq))) (fun _ => ?_)
  refine wpAny_bind ?_
  have e : wpAny (model prog w) A (compareOp .Eq (.int x t) (.int x u)) (fun v s' => wpAny (model prog w) A (truthOfDropped v) Q E s') E s :=
    eq_int (by rw [show (x == x) = true by simp]; exact wpAny_truthy_bool hq)
  exact e
theorem eqAt_bytes {x y : Array UInt8} {t u : Tok} (h : x = y) : EqAt A s (.bytes x t) (.bytes y u) true := fun prog w E Q hq => by
  subst h
  unfold eqBool
  refine wpAny_holding ?_
  refine wpAny_ite_split (fun _ => wpAny_bind (wpAny_rule (wpAny_pure hq))) (fun _ => ?_)
  refine wpAny_bind ?_
  have e : wpAny (model prog w) A (compareOp .Eq (.bytes x t) (.bytes x u)) (fun v s' => wpAny (model prog w) A (truthOfDropped v) Q E s') E s :=
    eq_bytes (by rw [show (x.toList == x.toList) = true by simp]; exact wpAny_truthy_bool hq)
  exact e
end
section
open PySem.SeqAt
variable {prog : Program} {w : World} {A : Around} {E : Value → Shared → Prop} {s : Shared} {h₀ : Heap} {L D D' : Addr} {news : List (Addr × Obj)} {x x' : Array UInt8} {y y' : Int} {t t' u u' : Tok} {Q : Value → Shared → Prop}
theorem eq_tupBI (N : News h₀ L s.heap news) (h1 : (D, ({ cls := .type "tuple", data := .seq #[.bytes x t, .int y u] } : Obj)) ∈ news) (h2 : (D', ({ cls := .type "tuple", data := .seq #[.bytes x' t', .int y' u'] } : Obj)) ∈ news) (hx : x = x') (hy : y = y') (hu : A.units < cLine)
    (h : Q (.bool true) s) : wpAny (model prog w) A (compareOp .Eq (.ref D) (.ref D')) Q E s := by
  refine eq_tupleAt (e := fun _ => true) (N.isTup h1) (N.isTup h2) hu (fun j h1 h2 => ?_) h
  match j, h1 with
  | 0, _ => exact eqAt_bytes hx
  | 1, _ => exact eqAt_int hy
end
theorem behind_JU : True := by
  w_top off
  exact True.intro
-- part JV
section
open PySem.Calls PySem.W.KPc PySem.Builtin PySem.Builtin.Str
noncomputable def ntext (n : Int) : PySem.Str := ⟨((if n < 0 then [45] else []) ++ (PySem.Str.ofString (toString ((n.natAbs : Nat) : Int))).cps.toList).toArray⟩
theorem ntext_len {n : Int} (h : n.natAbs < 10 ^ 20) : (ntext n).length ≤ 21 := by
  have h1 : (PySem.Str.ofString (toString ((n.natAbs : Nat) : Int))).length ≤ 20 := toString_length_le (Int.natCast_nonneg _) (by decide) (by exact_mod_cast h)
  have h2 : (PySem.Str.ofString (toString ((n.natAbs : Nat) : Int))).cps.toList.length ≤ 20 := by simpa [PySem.Str.length] using h1
  show (List.toArray _).size ≤ 21
  rw [List.size_toArray, List.length_append]
  split <;> simp only [List.length_cons, List.length_nil] <;> omega
theorem big_text (c : Percent) (h1 : c.alt = false) (h2 : c.type = 100 ∨ c.type = 105 ∨ c.type = 117) (h3 : c.prec = none) (n : Int) (d : List Nat) : percentInt c (decide (n < 0)) d = (if n < 0 then [45] else []) ++ d := by
  unfold percentInt
  rcases h2 with h2 | h2 | h2 <;> simp [h1, h2, h3]
theorem log_lt {n : Int} (h : n.natAbs < 10 ^ 20) : n.natAbs.log2 < 1920 := by
  by_cases h0 : n.natAbs = 0
  · rw [h0]; decide
  · rw [Nat.log2_lt h0]
    exact Nat.lt_of_lt_of_le h (by decide +kernel)
section
variable {M : Model} {A : Around} {E : Value → Shared → Prop} {s : Shared} {l : List Nat} {p : List Value} {r : List Nat}
  {f : Nat → List Value × Writer × List Nat → Sem (ForInStep (List Value × Writer × List Nat))} {Q : List Value × Writer × List Nat → Shared → Prop}
  {w : Writer} {T : PySem.Str} {N : Nat} {o : Option Value}
theorem big_after {c : Percent} {n : Int} {d : List Nat} (g : Good w T N) (h1 : c.alt = false) (h2 : c.type = 100 ∨ c.type = 105 ∨ c.type = 117) (h3 : c.prec = none) (hm : n.natAbs < 10 ^ 20)
    (hd : d = (PySem.Str.ofString (toString ((n.natAbs : Nat) : Int))).cps.toList) (ho : o = none) (h : ∀ w', Good w' (T ++ ntext n) (N + 21) → wpAny M A (forIn l (p, w', r) f) Q E s) :
    wpAny M A (forIn l (p, w.add ⟨(percentInt c (decide (n < 0)) d).toArray⟩ o, r) f) Q E s := by
  rw [big_text c h1 h2 h3, hd]
  exact h _ (good_mono (good_add g (obj_none ho)) (Nat.add_le_add_left (ntext_len hm) _))
end
section
variable {prog : Program} {w : World} {A : Around} {E : Value → Shared → Prop} {s : Shared} {X X' : PySem.Str} {n : Int} {t u : Tok} {Q : Value → Shared → Prop}
theorem mod_big {T : Int → PySem.Str} (hX : X = X') (hn : n.natAbs < 10 ^ 20)
    (hm : ∀ i : Int, i.natAbs < 10 ^ 20 → i.natAbs.log2 < 1920 → ((i.natAbs : Nat) : Int).natAbs.log2 < 1920 → Meets («str.__mod__» ⟨[.str X' t, .int i u], []⟩) (fun _ R s => ∀ t' k, R (.ok (.ret (.str (T i) t'))) { s with toks := k }))
    (h : ∀ t' k, Q (.str (T n) t') { s with toks := k }) : wpAny (model prog w) A (binaryOp .Mod (.str X t) (.int n u)) Q E s :=
  KPc.mod_lit hX (log_lt hn) (hm n hn) h
end
end
local macro_rules | `(tactic| kpc_piece) => `(tactic| first | k_extra "m kpc_piece" | fail "no line")
theorem lines_JV1 : True := by
  (k_with "m kpc_piece" => (refine big_after (by kpc_g) rfl (by kpc_kind) rfl (by with_reducible assumption) rfl (by kpc_none) ?_; intro _ _))
  exact True.intro
section
variable {prog : Program} {w : World} {A : Around} {E : Value → Shared → Prop} {s : Shared} {n : Int} {t u : Tok} {Q : Value → Shared → Prop}
theorem mod_wire (hn : n.natAbs < 10 ^ 20) (h : ∀ x t' k, Q (.str x t') { s with toks := k }) : wpAny (model prog w) A (binaryOp .Mod (.str (Str.ofString "Unknown wire type: %d") t) (.int n u)) Q E s := by
  refine' mod_big ?kpcF hn ?kpcm ?_
  (case kpcF => kpc_eq)
  (case kpcm => k_dflt kpc_run)
  exact fun _ _ => h _ _ _
theorem mod_value (hn : n.natAbs < 10 ^ 20) (h : ∀ x t' k, Q (.str x t') { s with toks := k }) : wpAny (model prog w) A (binaryOp .Mod (.str (Str.ofString "Value out of range: %d") t) (.int n u)) Q E s := by
  refine' mod_big ?kpcF hn ?kpcm ?_
  (case kpcF => kpc_eq)
  (case kpcm => k_dflt kpc_run)
  exact fun _ _ => h _ _ _
end
theorem behind_JV : True := by
  w_top off
  exact True.intro
-- part JW
/-! the law's numbers -/
noncomputable def lawU (r : Int) : Int := if r % 2 = 0 then 2 ^ (7 * (r / 6 % 10)).toNat + r / 2 % 3 - 1 else r / 2 % 18446744073709551616
theorem lawU_bd {r : Int} (h : 0 ≤ r) : 0 ≤ lawU r ∧ lawU r ≤ 18446744073709551615 := by
  unfold lawU
  split
  · have h1 : (7 * (r / 6 % 10)).toNat ≤ 63 := by omega
    have h2 : (2 : Int) ^ (7 * (r / 6 % 10)).toNat ≤ 2 ^ 63 := by
      have := Nat.pow_le_pow_right (n := 2) (by decide) h1
      exact_mod_cast this
    have h3 : (1 : Int) ≤ 2 ^ (7 * (r / 6 % 10)).toNat := by
      have := Nat.pow_pos (a := 2) (n := (7 * (r / 6 % 10)).toNat) (by decide)
      exact_mod_cast this
    have h4 : (2 : Int) ^ 63 = 9223372036854775808 := by decide
    omega
  · omega
section
variable {prog : Program} {w : World} {A : Around} {E Q : Value → Shared → Prop} {s : Shared} {n : Int} {t u : Tok}
theorem bPowG (hn : 0 ≤ n) (hn2 : n ≤ 1000000) (h : Q (.int (2 ^ n.toNat) s.toks) { s with toks := s.toks + 1 }) : wpAny (model prog w) A (binaryOp .Pow (.int 2 t) (.int n u)) Q E s :=
  pow_int_small hn hn2 (by decide) h
end
theorem lines_JW1 : True := by
  (k_with "m c_powG" => refine bPowG (by omega) (by omega) ?_)
  exact True.intro
section
variable {news : List (Addr × Obj)} {r : Int} {t : Tok}
local macro_rules | `(tactic| walk_at "binaryOp Pow int int") => `(tactic| first
  | refine bPow (n := 64) (r := 18446744073709551616) (by decide) (by decide) (by decide) ?_
  | walk_at "c_powG")
theorem c_law_unsigned (h0 : 0 ≤ r) : Call 1 396 [.int r t] news (RInt news (lawU r)) := by
  walk_at "c_in"
  k_steps
  all_goals walk_at "c_outI"
  all_goals ((unfold lawU; split <;> omega))
end
theorem behind_JW : True := by
  w_top off
  exact True.intro
-- part JX
/-! sizes of texts and octets -/
section
variable {prog : Program} {w : World} {A : Around} {E : Value → Shared → Prop} {s : Shared} {Q : Value → Shared → Prop}
end
section
variable {news : List (Addr × Obj)} {f : Int} {t u : Tok} {c : Array UInt8} {n : Nat}
theorem c_BytesByteSize (hf0 : 0 ≤ f) (hf : f < 1152921504606846976) (hc : c.size ≤ 4000) : Call 3 184 [.int f t, .bytes c u] news (RInt news (vsz (8 * f) + vsz c.size + c.size)) := by
  walk_at "c_in"
  k_steps
  all_goals walk_at "c_outI"
  all_goals (rfl)
end
theorem lines_JX1 : True := by
  (k_with "m call ref" => (k_here; (with_reducible show wpAny _ _ (call (Value.ref 184) _) _ _ _); k_dflt (refine' Call.useI (c_BytesByteSize ?p0x112 ?p1x112 ?p2q) ?Bq ?Fq ?Xq ?Nq ?Tq ?kq ?dq ?uq ?_); walk_at "c_asm"; (case p0x112 => walk_at "c_side"); (case p1x112 => walk_at "c_side"); (case p2q => walk_at "c_side"); walk_at "c_got"))
  exact True.intro
section
variable {news : List (Addr × Obj)} {f : Int} {t u : Tok} {c : Array UInt8} {n : Nat}
theorem c_StringByteSize (hf0 : 0 ≤ f) (hf : f < 1152921504606846976) (hn : n ≤ 1000) : Call 4 177 [.int f t, .str (acute n) u] news (RInt news (vsz (8 * f) + vsz (acuteB n).size + (acuteB n).size)) := by
  have hasz : (acuteB n).size ≤ 4000 := by rw [acuteB_size]; omega
  walk_at "c_in"
  k_steps
  all_goals walk_at "c_outI"
  all_goals (rfl)
end
theorem lines_JX2 : True := by
  (k_with "m call ref" => (k_here; (with_reducible show wpAny _ _ (call (Value.ref 177) _) _ _ _); k_dflt (refine' Call.useI (c_StringByteSize ?p0x113 ?p1x113 ?p2q) ?Bq ?Fq ?Xq ?Nq ?Tq ?kq ?dq ?uq ?_); walk_at "c_asm"; (case p0x113 => walk_at "c_side"); (case p1x113 => walk_at "c_side"); (case p2q => walk_at "c_side"); walk_at "c_got"))
  exact True.intro
section
variable {news : List (Addr × Obj)} {f : Int} {t u : Tok} {c : Array UInt8} {n : Nat}
end
theorem behind_JX : True := by
  w_top off
  exact True.intro
-- part JS
/-! decoders -/
theorem or_shift {res a : Int} {k : Nat} {q : Int} (hq : (2 : Int) ^ k = q) (h0 : 0 ≤ res) (h1 : res < q) (ha : 0 ≤ a) : Builtin.bitOr res (a * q) = res + a * q := by
  subst hq
  have hq0 : (0 : Int) ≤ a * 2 ^ k := Int.mul_nonneg ha (Int.pow_nonneg (by decide))
  have hand : Builtin.bitAnd res (a * 2 ^ k) = 0 := by
    unfold Builtin.bitAnd
    have e1 : decide ((0 : Int) ≤ res) = true := by simpa using h0
    have e2 : decide ((0 : Int) ≤ a * 2 ^ k) = true := by simpa using hq0
    simp only [e1, e2]
    have e3 : (a * 2 ^ k).toNat = 2 ^ k * a.toNat := by
      obtain ⟨n, rfl⟩ := Int.eq_ofNat_of_zero_le ha
      have : ((n : Int) * 2 ^ k) = ((2 ^ k * n : Nat) : Int) := by
        rw [Int.natCast_mul, Int.natCast_pow, Int.mul_comm]; rfl
      rw [this, Int.toNat_natCast, Int.toNat_natCast]
    have e4 : res.toNat < 2 ^ k := by
      have : ((res.toNat : Nat) : Int) < ((2 ^ k : Nat) : Int) := by
        rw [Int.toNat_of_nonneg h0, Int.natCast_pow]; exact h1
      exact Int.ofNat_lt.mp this
    rw [e3]
    have : res.toNat &&& 2 ^ k * a.toNat = 0 := by
      apply Nat.eq_of_testBit_eq
      intro i
      rw [Nat.testBit_and, Nat.testBit_two_pow_mul, Nat.zero_testBit]
      by_cases hi : i < k
      · simp [Nat.not_le.mpr hi]
      · have : res.toNat.testBit i = false := Nat.testBit_lt_two_pow (Nat.lt_of_lt_of_le e4 (Nat.pow_le_pow_right (by decide) (by omega)))
        rw [this]; rfl
    rw [this]; rfl
  have h3 := bitXor_and res (a * 2 ^ k)
  unfold Builtin.bitXor at h3
  omega
section
open PySem.Calls
variable {prog : Program} {w : World} {A : Around} {E : Value → Shared → Prop} {s : Shared} {value slice : PySem.Expr} {b : Array UInt8} {t ui : Tok} {i x : Int} {Q : Value → Shared → Prop}
theorem item_b (j : Nat) (c : UInt8) (hi : i = (j : Int)) (hc : b.toList[j]? = some c) (hz : b.size ≤ 1000000) (hx : (c.toNat : Int) = x)
    (h : ∀ t k, Q (.int x t) { s with toks := k })
    (hs : subscripted slice false (.bytes b t) (.int i ui) = operate [.bytes b t, .int i ui] (getItem (.bytes b t) (.int i ui)) := by with_unfolding_all rfl)
    (ht : ∀ r, letTemporaryGo value (.bytes b t) r = pure () := by intro _; with_unfolding_all rfl) : wpAny (model prog w) A (subscriptTail value slice (.bytes b t) (.int i ui)) Q E s := by
  have hlt : j < b.size := by
    have := (List.getElem?_eq_some_iff.mp hc).1
    simpa using this
  have e : (KBw.bInts b).getD i.toNat 0 = x := by
    subst hi
    simp only [KBw.bInts, List.getD_eq_getElem?_getD, List.getElem?_map, Int.toNat_natCast, hc]
    exact hx
  refine KBw.item_K (ks := KBw.bInts b) rfl (by rw [KBw.ints_length]; omega) (by omega) (by rw [KBw.ints_length]; omega) (fun t' k _ _ => ?_) hs ht
  rw [e]
  exact h t' k
end
theorem vi_drop {n i : Nat} {r : Nat} (h : (vi n).drop i = vi r) (hr : 128 ≤ r) : (vi n)[i]? = some (r % 128 + 128).toUInt8 ∧ (vi n).drop (i + 1) = vi (r / 128) := by
  rw [vi_ge hr] at h
  have h0 : (vi n)[i]? = ((vi n).drop i)[0]? := by simp
  refine ⟨by rw [h0, h]; rfl, ?_⟩
  rw [← List.drop_drop, h]; rfl
theorem vi_last {n i : Nat} {r : Nat} (h : (vi n).drop i = vi r) (hr : r < 128) : (vi n)[i]? = some r.toUInt8 ∧ (vi n).length = i + 1 := by
  rw [vi_lt hr] at h
  have h0 : (vi n)[i]? = ((vi n).drop i)[0]? := by simp
  refine ⟨by rw [h0, h]; rfl, ?_⟩
  have := congrArg List.length h
  simp only [List.length_drop, List.length_cons, List.length_nil] at this
  omega
noncomputable def tupO (a b : Value) : Obj := { cls := .type "tuple", data := .seq #[a, b] }
noncomputable def RTup (news : List (Addr × Obj)) (P : Value → Value → Prop) (r : Value) (n : List (Addr × Obj)) : Prop := ∃ D a b, r = .ref D ∧ n = (D, tupO a b) :: news ∧ (∀ p ∈ news, p.1 < D) ∧ P a b
noncomputable def I2 (x y : Int) (a b : Value) : Prop := (∃ t, a = .int x t) ∧ ∃ t, b = .int y t
noncomputable def B2 (x : Array UInt8) (y : Int) (a b : Value) : Prop := (∃ t, a = .bytes x t) ∧ ∃ t, b = .int y t
section
variable {h₀ h' : Heap} {L D : Addr} {m : Str → Option Value} {s : Shared} {Q : Value → Shared → Prop} {news : List (Addr × Obj)} {a b : Value} {tk' : Nat} {P : Value → Value → Prop}
theorem outP (hret : ∀ r n' h' tk', RTup news P r n' → Fr h₀ L h' m → News h₀ L h' n' → Q r { s with heap := h', toks := tk' }) (F : Fr h₀ L h' m) (N : News h₀ L h' ((D, { cls := .type "tuple", data := .seq #[a, b] }) :: news)) (hl : ∀ p ∈ news, p.1 < D) (hP : P a b) :
    Q (.ref D) { s with heap := h', toks := tk' } := hret _ _ _ _ ⟨D, a, b, rfl, rfl, hl, hP⟩ F N
end
theorem stepW_ret {h₀ : Heap} {L : Addr} {s : Shared} {J : Nat → (Str → Option Value) → List (Addr × Obj) → Prop} {Q : Flow → Shared → Prop} {n : Nat} {v : Value} {s₃ : Shared} (h : Q (.ret v) s₃) : WhileStep2 h₀ L s J Q n (.ret v) s₃ := h
noncomputable def Hid (a b : Int) : Prop := a = b
theorem Hid.out {a b : Int} (h : Hid a b) : a = b := h
theorem lines_JS1 : True := by
  (k_with "m exec While" => refine StopW.mk ?_)
  (k_with "m c_outP" => (refine' outP ?hx115 ?Fx115 ?Nx115 ?lx115 ?_; (case hx115 => assumption); (case Fx115 => k_asm); (case Nx115 => walk_at "c_news"); (case lx115 => assumption)))
  (k_with "m subscriptTail" => ((with_reducible show wpAny _ _ (subscriptTail _ _ (Value.bytes _ _) (Value.int _ _)) _ _ _); k_dflt (refine' item_b _ _ ?ix116 ?cx116 ?zx116 ?xx116 ?_; (case cx116 => assumption); (case ix116 => first | rfl | assumption | omega); (case xx116 => first | assumption | rfl); (case zx116 => walk_at "c_side")); intro _ _; (try dsimp only)))
  (k_with "m WhileStep2" => (refine stepW_ret ?_; (try dsimp only)))
  (k_with "m loadName" => (k_here; k_dflt (refine' loadX_Lv ?Fx118 ?vx118 ?_ ?ax118 ?bx118; (case Fx118 => k_asm); (case ax118 => rfl); (case bx118 => rfl); (case vx118 => first | assumption | exact rfl); k_whole)))
  (k_with "m binaryOp LShift int int" => (refine bShl (by omega) (by omega) (by omega) (Hid.out (by assumption)) ?_))
  (k_with "m inplaceOp BitOr int int" => (refine biOr (Hid.out (by assumption)) ?_))
  (k_with "m inplaceOp BitAnd int int" => (refine biAnd (Hid.out (by assumption)) ?_))
  (k_with "m binaryOp BitAnd int int" => (refine bAnd (Hid.out (by assumption)) ?_))
  exact True.intro
theorem vd_cv0 {r : Int} (h0 : 0 ≤ r) (h1 : r < 128) : ((r.toNat.toUInt8.toNat : Nat) : Int) = r := by
  obtain ⟨k, rfl⟩ := Int.eq_ofNat_of_zero_le h0
  have hk : k < 128 := Int.ofNat_lt.mp h1
  show ((k.toUInt8.toNat : Nat) : Int) = k
  rw [Nat.toUInt8, UInt8.toNat_ofNat', Nat.mod_eq_of_lt (Nat.lt_trans hk (by decide))]
theorem vd_cv1 {r : Int} (h0 : 0 ≤ r) : (((r.toNat % 128 + 128).toUInt8.toNat : Nat) : Int) = r % 128 + 128 := by
  obtain ⟨k, rfl⟩ := Int.eq_ofNat_of_zero_le h0
  have hk : k % 128 + 128 < 256 := Nat.add_lt_add_right (Nat.mod_lt k (by decide)) 128
  show (((k % 128 + 128).toUInt8.toNat : Nat) : Int) = ((k % 128 + 128 : Nat) : Int)
  rw [Nat.toUInt8, UInt8.toNat_ofNat', Nat.mod_eq_of_lt hk]
theorem vd_a7 {r : Int} (h0 : 0 ≤ r) (h1 : r < 128) : Builtin.bitAnd r 127 = r := (bitAnd_m7 r).trans (Int.emod_eq_of_lt h0 h1)
theorem vd_a0 {r : Int} (h0 : 0 ≤ r) (h1 : r < 128) : Builtin.bitAnd r 128 = 0 := (and_128 r).trans (by rw [Int.ediv_eq_zero_of_lt h0 h1]; rfl)
theorem vd_a64 {n : Int} (h0 : 0 ≤ n) (h1 : n < 4294967296) : Builtin.bitAnd n 18446744073709551615 = n := (and_u64' n).trans (Int.emod_eq_of_lt h0 (Int.lt_trans h1 (by decide)))
theorem vd_b7 (r : Int) : Builtin.bitAnd (r % 128 + 128) 127 = r % 128 := (bitAnd_m7 _).trans (by omega)
theorem vd_b1 (r : Int) : Builtin.bitAnd (r % 128 + 128) 128 = 128 := (and_128 _).trans (by omega)
theorem vd_lt {r : Int} (h : ¬ r < 128) : (r / 128).toNat < r.toNat := by omega
theorem vd_spl (r : Int) : r = r % 128 + r / 128 * 128 := by omega
theorem vd_sh {sh : Int} (h : 0 ≤ sh) : (sh + 7).toNat = sh.toNat + 7 := by
  obtain ⟨k, rfl⟩ := Int.eq_ofNat_of_zero_le h
  rfl
section
variable {news G1 : List (Addr × Obj)} {t u : Tok} {T T1 : List Tab} {p v n : Int}
theorem c_Unpack (hv0 : 0 ≤ v) (hv : v < 4294967296) : Call 1 65 [.int v t] news (RTup news (I2 (v / 8) (v % 8))) := by
  walk_at "c_in"
  k_steps
  walk_at "c_outP"
  exact ⟨⟨_, rfl⟩, _, rfl⟩
/-- what the made decoder does -/
structure DecV (g : Addr) (G : List (Addr × Obj)) (T₀ : List Tab) : Prop where
  fn : ∃ oc od fd sl, (g, (⟨oc, od, .func fd, sl⟩ : Obj)) ∈ G
  call : ∀ news T n t u, TabInv T → TLe T₀ T → NoTab news → (∀ q ∈ G, q ∈ news) → 0 ≤ n → n < 4294967296 →
    Call 1 g [.bytes (vb n) t, .int 0 u] (news ++ entsOf T) (RTup (news ++ entsOf T) (I2 n (vb n).size))
theorem c_VD (NT : NoTab news) (I : TabInv T) : Call 1 205 [.int 18446744073709551615 t] (news ++ entsOf T) (RSp (fun f1 G1 T1 => DecV f1 G1 T1) news T) := by
  walk_at "c_inC"
  k_steps
  walk_at "c_outS2"
  refine ⟨⟨_, _, _, _, .head _⟩, fun news T n t u I le NT hG h0 hn => ?_⟩
  have g1 := hG _ (.head _)
  have g2 := hG _ (.tail _ (.head _))
  clear hG
  have hsz : (vb n).size ≤ 10 := vb_size_le (by omega)
  walk_at "c_inN"
  k_steps
  rename News _ _ _ _ => N1
  rename Fr _ _ _ _ => F1
  unfold StopW
  refine While_inv2 (fun k m nx => nx = news ++ entsOf T ∧ ∃ (i : Nat) (ip sh q r res : Int) (ti ts tr : Tok), m (Str.ofString "buffer") = some (.bytes (vb n) t) ∧ m (Str.ofString "pos") = some (.int ip ti) ∧ ip = i ∧ m (Str.ofString "shift") = some (.int sh ts) ∧
    m (Str.ofString "result") = some (.int res tr) ∧ (2 : Int) ^ sh.toNat = q ∧ sh = 7 * i ∧ n = res + r * q ∧ 0 ≤ res ∧ res < q ∧ 0 ≤ r ∧ (i = 0 ∨ 1 ≤ r) ∧ (vi n.toNat).drop i = vi r.toNat ∧ k = r.toNat) (n₀ := n.toNat) F1 N1
    ⟨rfl, 0, 0, 0, 1, n, 0, _, _, _, rfl, rfl, rfl, rfl, rfl, rfl, rfl, by omega, by omega, by omega, h0, .inl rfl, by simp, rfl⟩ ?_
  rintro k m₁ nx h₁ tk₁ F₁ N₁ ⟨rfl, i, ip, sh, q, r, res, ti, ts, tr, hm1, hm2, hip, hm3, hm4, hq, hsh, hnr, hr0, hr1, hr, hi, hdrop, rfl⟩
  clear F1 N1
  have hi4 : i ≤ 4 := by
    rcases hi with hi | hi
    · omega
    · refine Classical.byContradiction fun hc => ?_
      have e1 : (2 : Int) ^ 35 ≤ (2 : Int) ^ sh.toNat := by
        have := Nat.pow_le_pow_right (n := 2) (by decide) (show 35 ≤ sh.toNat by omega)
        exact_mod_cast this
      rw [hq] at e1
      have e2 : q ≤ r * q := by
        have := Int.mul_le_mul_of_nonneg_right hi (show 0 ≤ q by omega)
        omega
      have : (2 : Int) ^ 35 = 34359738368 := by decide
      omega
  have hq0 : 0 < q := by subst hq; exact Int.pow_pos (by decide)
  have hsh0 : 0 ≤ sh := by omega
  have hsh4 : sh ≤ 28 := by omega
  by_cases hlast : r < 128
  · obtain ⟨hc, hlen⟩ := vi_last hdrop (show r.toNat < 128 by omega)
    have hc' : (vb n).toList[i]? = some r.toNat.toUInt8 := hc
    have hcv : ((r.toNat.toUInt8.toNat : Nat) : Int) = r := vd_cv0 hr hlast
    have hvs : (((vb n).size : Nat) : Int) = (i : Int) + 1 := by
      have : (vb n).size = (vi n.toNat).length := by simp [vb]
      omega
    have e1 : Hid (Builtin.bitAnd r 127) r := vd_a7 hr hlast
    have e2 : Hid (Builtin.bitAnd r 128) 0 := vd_a0 hr hlast
    have e3 : Hid (r * 2 ^ sh.toNat) (r * q) := by unfold Hid; rw [hq]
    have e4 : Hid (Builtin.bitOr res (r * q)) n := by
      unfold Hid
      rw [or_shift hq hr0 hr1 hr, hnr]
    have e5 : Hid (Builtin.bitAnd n 18446744073709551615) n := vd_a64 h0 hn
    clear hdrop hlen hc hi hnr hr0 hr1 hq hq0
    generalize r * q = X at *
    generalize r.toNat.toUInt8 = C at *
    generalize vb n = B at *
    k_steps
    walk_at "c_outP"
    exact ⟨⟨_, rfl⟩, _, by rw [show ip + 1 = (B.size : Int) by omega]⟩
  · obtain ⟨hc, hd'⟩ := vi_drop hdrop (show 128 ≤ r.toNat by omega)
    have hc' : (vb n).toList[i]? = some (r.toNat % 128 + 128).toUInt8 := hc
    obtain ⟨bv, hbv⟩ : ∃ bv, bv = r % 128 + 128 := ⟨_, rfl⟩
    obtain ⟨lo, hlo⟩ : ∃ lo, lo = r % 128 := ⟨_, rfl⟩
    have hcv : (((r.toNat % 128 + 128).toUInt8.toNat : Nat) : Int) = bv := (vd_cv1 hr).trans hbv.symm
    have e1 : Hid (Builtin.bitAnd bv 127) lo := by rw [hbv, hlo]; exact vd_b7 r
    have e2 : Hid (Builtin.bitAnd bv 128) 128 := by rw [hbv]; exact vd_b1 r
    have hlo0 : 0 ≤ lo := by rw [hlo]; exact Int.emod_nonneg r (by decide)
    have hlo1 : lo < 128 := by rw [hlo]; exact Int.emod_lt_of_pos r (by decide)
    have hlo2 : lo ≤ 127 := Int.le_of_lt_add_one hlo1
    obtain ⟨X, hX⟩ : ∃ X, X = lo * q := ⟨_, rfl⟩
    have e3 : Hid (lo * 2 ^ sh.toNat) X := by unfold Hid; rw [hq, hX]
    have e4 : Hid (Builtin.bitOr res X) (res + X) := by
      unfold Hid
      rw [hX, or_shift hq hr0 hr1 hlo0]
    have hq' : Hid (2 ^ (sh + 7).toNat) (q * 128) := by
      unfold Hid
      rw [vd_sh hsh0, Int.pow_add, hq]; rfl
    have hn' : Hid n (res + X + r / 128 * (q * 128)) := by
      unfold Hid
      rw [hnr, hX, hlo]
      have := vd_spl r
      generalize r / 128 = a at *
      generalize r % 128 = b at *
      rw [this, Int.add_mul, Int.mul_assoc, Int.mul_comm 128 q]
      omega
    have hX0 : 0 ≤ X := by rw [hX]; exact Int.mul_nonneg hlo0 (Int.le_of_lt hq0)
    have hX1 : X ≤ 127 * q := by rw [hX]; exact Int.mul_le_mul_of_nonneg_right hlo2 (Int.le_of_lt hq0)
    have hd2 : (vi n.toNat).drop (i + 1) = vi (r / 128).toNat := by rw [hd', toNat_d hr]
    clear hdrop hc hi hnr hd' hbv hlo hX
    generalize (r.toNat % 128 + 128).toUInt8 = C at *
    generalize vb n = B at *
    k_steps
    refine' stepW ?F ?N (n' := (r / 128).toNat) ?J ?k
    (case F => k_asm)
    (case N => k_asm)
    (case k => exact vd_lt hlast)
    exact ⟨rfl, i + 1, ip + 1, sh + 7, q * 128, r / 128, res + X, _, _, _, hm1, rfl, by omega, rfl, rfl, hq'.out, by omega, hn'.out, by omega, by omega, by omega, .inr (by omega), hd2, rfl⟩
end
theorem behind_JS : True := by
  w_top off
  exact True.intro
-- part JT
/-! tags -/
noncomputable def RTT (news : List (Addr × Obj)) (T : List Tab) (P : Value → Value → Prop) (r : Value) (n : List (Addr × Obj)) : Prop :=
  ∃ D a b T', r = .ref D ∧ n = (D, tupO a b) :: (news ++ entsOf T') ∧ TabInv T' ∧ TLe T T' ∧ (∀ p ∈ news, p.1 < D) ∧ P a b
section
variable {h₀ h' : Heap} {L D : Addr} {m : Str → Option Value} {s : Shared} {Q : Value → Shared → Prop} {T T' : List Tab} {news led : List (Addr × Obj)} {a b : Value} {tk' : Nat} {P : Value → Value → Prop}
theorem outTT (hret : ∀ r n' h' tk', RTT news T P r n' → Fr h₀ L h' m → News h₀ L h' n' → Q r { s with heap := h', toks := tk' }) (F : Fr h₀ L h' m) (N : News h₀ L h' led) (I : TabInv T') (le : TLe T T') (hs : ∀ p ∈ (D, tupO a b) :: (news ++ entsOf T'), p ∈ led)
    (hl : ∀ p ∈ news, p.1 < D) (hP : P a b) : Q (.ref D) { s with heap := h', toks := tk' } := hret _ _ _ _ ⟨D, a, b, T', rfl, rfl, I, le, hl, hP⟩ F fun p hp => N p (hs p hp)
variable {d : Nat} {f : Addr} {vs : List Value} {prog : Program} {w : World} {p : Program} {loose : List Str} {mean : ExcName → Option Value} {mg mb : Str → Option Value}
  {dp un : Nat} {gd : Option (List Code)} {cn : Str} {cs : Scope} {ad : Addr} {ccd : Value} {cl : List (Str × Addr)} {outer : List Env} {A₀ : Around} {base : Heap} {E : Value → Shared → Prop}
theorem Call.useP (C : Call d f vs led (RTup led P)) (B : Below A₀ base outer h₀) (F : Fr h₀ L s.heap m) (X : (HD.heap_39 w.params).In h₀) (N : News h₀ L s.heap led) (Tp : Top p loose mean mg mb h₀) (hk : cs.kind = .function)
    (hd : dp + d < recursionLimit) (hu : un + 8 * d < cLine)
    (h : ∀ D a b h' tk', P a b → (∀ p ∈ led, p.1 < D) → Fr h₀ L h' m → News h₀ L h' ((D, tupO a b) :: led) → Q (.ref D) { s with heap := h', toks := tk' }) :
    wpAny (model prog w) (ktrTop dp un gd cn cs L ad ccd cl outer) (call (.ref f) vs) Q E s :=
  C.use B F X N Tp hk hd hu fun r n' h' tk' hR F' N' => by obtain ⟨D, a, b, rfl, rfl, hl, hP⟩ := hR; exact h D a b h' tk' hP hl F' N'
theorem Call.useTT (N : News h₀ L s.heap led) (hl : Led led news T) (I : TabInv T) (C : NoTab news → Call d f vs (news ++ entsOf T) (RTT news T P)) (B : Below A₀ base outer h₀) (F : Fr h₀ L s.heap m) (X : (HD.heap_39 w.params).In h₀) (Tp : Top p loose mean mg mb h₀) (hk : cs.kind = .function)
    (hd : dp + d < recursionLimit) (hu : un + 8 * d < cLine)
    (h : ∀ D a b T' h' tk', P a b → TabInv T' → TLe T T' → (∀ p ∈ news, p.1 < D) → Fr h₀ L h' m → News h₀ L h' ((D, tupO a b) :: (news ++ entsOf T')) → Q (.ref D) { s with heap := h', toks := tk' }) :
    wpAny (model prog w) (ktrTop dp un gd cn cs L ad ccd cl outer) (call (.ref f) vs) Q E s :=
  (C hl.noTab).use B F X (hl.eq ▸ N) Tp hk hd hu fun r n' h' tk' hR F' N' => by obtain ⟨D, a, b, T', rfl, rfl, I', hle, hlt, hP⟩ := hR; exact h D a b T' h' tk' hP I' hle hlt F' N'
end
theorem lines_JT1 : True := by
  (k_with "m c_sub" => (intro _ hpħ; (repeat' (first | exact hpħ | refine List.mem_cons_of_mem _ ?_ | refine List.mem_append_right _ ?_)); done))
  (k_with "m c_outTT" => (refine' outTT ?hx124 ?Fx124 ?Nx124 ?Ix124 ?lx124 ?_ ?_ ?vx124; (case hx124 => assumption); (case Fx124 => k_asm); (case Nx124 => k_asm); (case Ix124 => assumption); (case lx124 => walk_at "c_le"); (case vx124 => assumption)))
  exact True.intro
section
variable {news : List (Addr × Obj)} {t u : Tok} {T : List Tab} {n : Int}
theorem c_DV (NT : NoTab news) (I : TabInv T) (h0 : 0 ≤ n) (hn : n < 4294967296) : Call 2 212 [.bytes (vb n) t, .int 0 u] (news ++ entsOf T) (RTT news T (I2 n (vb n).size)) := by
  walk_at "c_in"
  k_steps
  refine' Call.useSp ?N ?l (fun hn => c_VD hn ?I) ?Bq ?Fq ?Xq ?Tq ?kq ?dq ?uq ?_
  (case N => k_asm)
  (case l => walk_at "led")
  (case I => assumption)
  walk_at "c_as"
  intro f1 G1 T1 h1 tk1 I1 le1 NG1 hS F1 N1
  obtain ⟨oc, od, fd, sl, hf1⟩ := hS.fn
  k_steps
  refine' Call.use (hS.call (G1 ++ news) T1 n _ _ I1 (TLe.refl _) (NG1.append NT) (fun q hq => List.mem_append_left _ hq) h0 hn) ?B2 ?F2 ?X2 ?N2 ?T2 ?k2 ?d2 ?u2 ?_
  (case N2 => rw [List.append_assoc]; k_asm)
  (case B2 => k_asm)
  (case F2 => k_asm)
  (case X2 => k_asm)
  (case T2 => k_asm)
  (case k2 => first | exact rfl | assumption)
  (case d2 => ktr_room)
  (case u2 => ktr_units)
  intro r n' h' tk' hR F' N'
  obtain ⟨D, a, b, rfl, rfl, hlt, hP⟩ := hR
  clear F1 N1
  k_steps
  walk_at "c_outTT"
  · intro p hp
    rcases List.mem_cons.mp hp with rfl | hp
    · exact List.mem_cons_self
    · exact List.mem_cons_of_mem _ (by rw [List.append_assoc]; exact List.mem_append_right _ hp)
  · exact fun p hp => hlt p (List.mem_append_left _ (List.mem_append_right _ hp))
theorem c_DecodeTag (NT : NoTab news) (I : TabInv T) (h0 : 0 ≤ n) (hn : n < 4294967296) : Call 3 226 [.bytes (vb n) t] (news ++ entsOf T) (RTT news T (I2 (n / 8) (n % 8))) := by
  walk_at "c_in"
  k_steps
  refine' Call.useTT ?N ?l ?I (fun hn' => c_DV hn' ?I2 h0 hn) ?Bq ?Fq ?Xq ?Tq ?kq ?dq ?uq ?_
  (case N => k_asm)
  (case l => walk_at "led")
  (case I => assumption)
  (case I2 => assumption)
  walk_at "c_as"
  rintro D _ _ T1 h1 tk1 ⟨⟨t1, rfl⟩, t2, rfl⟩ I1 le1 hlt F1 N1
  unfold tupO at N1
  k_steps
  refine' Call.useP (c_Unpack h0 hn) ?B2 ?F2 ?X2 ?N2 ?T2 ?k2 ?d2 ?u2 ?_
  (case N2 => k_asm)
  (case B2 => k_asm)
  (case F2 => k_asm)
  (case X2 => k_asm)
  (case T2 => k_asm)
  (case k2 => first | exact rfl | assumption)
  (case d2 => ktr_room)
  (case u2 => ktr_units)
  intro D2 a b h2 tk2 hP hlt2 F2 N2
  k_steps
  walk_at "c_outTT"
  · intro p hp
    rcases List.mem_cons.mp hp with rfl | hp
    · exact List.mem_cons_self
    · exact List.mem_cons_of_mem _ (List.mem_cons_of_mem _ hp)
  · exact fun p hp => hlt2 p (List.mem_cons_of_mem _ (List.mem_append_left _ hp))
end
theorem behind_JT : True := by
  w_top off
  exact True.intro
-- part JY
/-! ReadTag -/
section
open PySem.Calls
variable {prog : Program} {w : World} {A : Around} {E : Value → Shared → Prop} {s : Shared} {value slice : PySem.Expr} {b X : Array UInt8} {t tl th : Tok} {h₀ : Heap} {L : Addr} {m : Str → Option Value} {news : List (Addr × Obj)} {lo hi : Int} {Q : Value → Shared → Prop}
theorem slice_X (hF : Fr h₀ L s.heap m) (hN : News h₀ L s.heap news) (hp : KBy.picked b (some lo) (some hi) = X) (hz : b.size ≤ 1000000) (h : ∀ h' t' k, Fr h₀ L h' m → News h₀ L h' news → Q (.bytes X t') { s with heap := h', toks := k })
    (hs : subscripted slice false (.bytes b t) (.ref s.heap.objs.size) = operate [.ref s.heap.objs.size, .bytes b t] (getItem (.bytes b t) (.ref s.heap.objs.size)) := by with_unfolding_all rfl)
    (ht : ∀ r, letTemporaryGo value (.bytes b t) r = pure () := by intro _; with_unfolding_all rfl) :
    wpAny (model prog w) A (subscriptTail value slice (.bytes b t) (.ref s.heap.objs.size)) Q E { s with heap := s.heap.push { cls := .type "slice", data := .fields #[.int lo tl, .int hi th, .none] } } := by
  subst hp
  exact KBc.slice_K hF hN rfl (by constructor) (by constructor) (by rw [KBw.ints_length]; omega) (fun h' t' k F N _ => h h' t' k F N) hs ht
end
theorem picked_mid {B X : Array UInt8} {hi : Int} {r : List UInt8} (hB : B.toList = [97, 98] ++ X.toList ++ r) (hh : hi = 2 + X.size) : KBy.picked B (some 2) (some hi) = X := by
  rw [KBc.picked_eq]
  have hs : B.size = 2 + X.size + r.length := by
    have := congrArg List.length hB
    simp at this
    omega
  have e2 : clipAt B.size 2 = 2 := by rw [show (2 : Int) = ((2 : Nat) : Int) from rfl, clipAt_nat]; omega
  have e3 : clipAt B.size hi = 2 + X.size := by rw [hh, show (2 : Int) + (X.size : Int) = ((2 + X.size : Nat) : Int) by omega, clipAt_nat]; omega
  simp only [Option.elim_some]
  rw [e2, e3, hB]
  apply Array.toList_inj.mp
  simp
theorem lines_JY1 : True := by
  (k_with "m subscriptTail" => (k_here; (with_reducible show wpAny _ _ (subscriptTail _ (Expr.Slice _ _ none _) (Value.bytes _ _) (Value.ref _)) _ _ _); (with_reducible rename Fr _ _ _ _ => F'); (with_reducible rename News _ _ _ _ => N'); (refine slice_X (s := ⟨_, _, _, _, _⟩) F' N' (by assumption) (by walk_at "c_side") ?_); intro _ _ _ _ _))
  exact True.intro
section
variable {news : List (Addr × Obj)} {t u : Tok} {T : List Tab} {n : Int} {B : Array UInt8}
theorem c_ReadTag (hB : B.toList = [97, 98] ++ (vb n).toList ++ [99]) (hn : n < 4294967296) : Call 1 219 [.bytes B t, .int 2 u] news (RTup news (B2 (vb n) (2 + (vb n).size))) := by
  have hsz : (vb n).size ≤ 10 := vb_size_le (by omega)
  have hBs : B.size = 3 + (vb n).size := by
    have := congrArg List.length hB
    simp at this
    omega
  have hvl : (vb n).size = (vi n.toNat).length := by simp [vb]
  have hat : ∀ i, i < (vi n.toNat).length → B.toList[2 + i]? = (vi n.toNat)[i]? := fun i hi => by
    rw [hB]
    have : (vb n).toList = vi n.toNat := by simp [vb]
    rw [this, List.append_assoc, List.getElem?_append_right (by simp)]
    simp only [List.length_cons, List.length_nil]
    rw [List.getElem?_append_left (by omega)]
    congr 1
    omega
  walk_at "c_in"
  k_steps
  rename News _ _ _ _ => N1
  rename Fr _ _ _ _ => F1
  unfold StopW
  refine While_inv2 (fun k m nx => nx = news ∧ ∃ (i : Nat) (ip : Int) (ti ts : Tok), m (Str.ofString "buffer") = some (.bytes B t) ∧ m (Str.ofString "pos") = some (.int ip ti) ∧ ip = 2 + i ∧ m (Str.ofString "start") = some (.int 2 ts) ∧
    i < (vi n.toNat).length ∧ (vi n.toNat).drop i = vi k) (n₀ := n.toNat) F1 N1
    ⟨rfl, 0, 2, _, _, rfl, rfl, rfl, rfl, vi_pos _, by simp⟩ ?_
  rintro r m₁ nx h₁ tk₁ F₁ N₁ ⟨rfl, i, ip, ti, ts, hm1, hm2, hip, hm3, hil, hdrop⟩
  clear F1 N1
  have hat' := hat i hil
  by_cases hlast : r < 128
  · obtain ⟨hc, hlen⟩ := vi_last hdrop hlast
    have hc' : B.toList[2 + i]? = some r.toUInt8 := hat'.trans hc
    have hcv : ((r.toUInt8.toNat : Nat) : Int) = r := by
      simp
      omega
    have e2 : Hid (Builtin.bitAnd r 128) 0 := by
      have := and_128 r
      unfold Hid
      omega
    have hip' : ip = ((2 + i : Nat) : Int) := by omega
    have hpk : KBy.picked B (some 2) (some (ip + 1)) = vb n := picked_mid hB (by omega)
    have hend : ip + 1 = 2 + ((vb n).size : Int) := by omega
    clear hdrop hlen hc hB hat hat' hil
    generalize r.toUInt8 = C at *
    generalize vb n = V at *
    k_steps
    walk_at "c_outP"
    exact ⟨⟨_, rfl⟩, _, by rw [hend]⟩
  · obtain ⟨hc, hd'⟩ := vi_drop hdrop (show 128 ≤ r by omega)
    have hc' : B.toList[2 + i]? = some (r % 128 + 128).toUInt8 := hat'.trans hc
    obtain ⟨bv, hbv⟩ : ∃ bv : Int, bv = r % 128 + 128 := ⟨_, rfl⟩
    have hcv : (((r % 128 + 128).toUInt8.toNat : Nat) : Int) = bv := by
      simp
      omega
    have e2 : Hid (Builtin.bitAnd bv 128) 128 := by
      have := and_128 bv
      unfold Hid
      omega
    have hip' : ip = ((2 + i : Nat) : Int) := by omega
    have hil' : i + 1 < (vi n.toNat).length := by
      have h1 := congrArg List.length hd'
      have h2 := vi_pos (r / 128)
      simp only [List.length_drop] at h1
      omega
    clear hdrop hc hB hat hat'
    generalize (r % 128 + 128).toUInt8 = C at *
    k_steps
    refine' stepW ?F ?N (n' := r / 128) ?J ?k
    (case F => k_asm)
    (case N => k_asm)
    (case k => omega)
    exact ⟨rfl, i + 1, ip + 1, _, _, hm1, rfl, by omega, hm3, hil', hd'⟩
end
theorem behind_JY : True := by
  w_top off
  exact True.intro
-- part JZ
/-! lines for the law's own defs -/
section
variable {prog : Program} {w : World} {A : Around} {E : Value → Shared → Prop} {s : Shared} {Q : Value → Shared → Prop} {a b : Int} {x y : Array UInt8} {t u : Tok}
theorem ne_sameI (e : a = b) (h : Q (.bool false) s) : wpAny (model prog w) A (compareOp .NotEq (.int a t) (.int b u)) Q E s := ne_int (by subst e; rw [show (a != a) = false by simp]; exact h)
theorem eq_sameI (e : a = b) (h : Q (.bool true) s) : wpAny (model prog w) A (compareOp .Eq (.int a t) (.int b u)) Q E s := eq_int (by subst e; rw [show (a == a) = true by simp]; exact h)
theorem ne_sameB (e : x = y) (h : Q (.bool false) s) : wpAny (model prog w) A (compareOp .NotEq (.bytes x t) (.bytes y u)) Q E s := ne_bytes (by subst e; rw [show (x.toList != x.toList) = false by simp]; exact h)
theorem len_as (e : ((x.size : Nat) : Int) = a) (hz : x.size ≤ 16777216) (h : ∀ t k, Q (.int a t) { s with toks := k }) : wpAny (model prog w) A (call (.builtin "len") [.bytes x t]) Q E s := len_bytes (by omega) (by rw [e]; exact h _ _)
theorem len_vb (h0 : 0 ≤ a) (h1 : a ≤ 18446744073709551615) (h : ∀ t k, Q (.int (vsz a) t) { s with toks := k }) : wpAny (model prog w) A (call (.builtin "len") [.bytes (vb a) t]) Q E s :=
  len_as (vsz_vb h0 h1) (by have := vb_size_le h1; omega) h
theorem add_bb (hz : x.size + y.size ≤ 16777216) (h : ∀ t' k, Q (.bytes (x ++ y) t') { s with toks := k }) : wpAny (model prog w) A (binaryOp .Add (.bytes x t) (.bytes y u)) Q E s := KBy.add_bytes hz h
variable {h₀ : Heap} {L D D' : Addr} {news : List (Addr × Obj)} {c d : Int} {v v' : Tok}
theorem ne_tupII (N : News h₀ L s.heap news) (h1 : (D, ({ cls := .type "tuple", data := .seq #[.int a t, .int b u] } : Obj)) ∈ news) (h2 : (D', ({ cls := .type "tuple", data := .seq #[.int c v, .int d v'] } : Obj)) ∈ news) (e1 : a = c) (e2 : b = d) (hu : A.units + 64 < cLine)
    (h : Q (.bool false) s) : wpAny (model prog w) A (compareOp .NotEq (.ref D) (.ref D')) Q E s := by
  subst e1 e2
  refine ne_dataH (reads_tuple_at (News.get N h1) rfl rfl (ReadsAll.cons (Reads.int _ _) (ReadsAll.cons (Reads.int _ _) ReadsAll.nil))) (reads_tuple_at (News.get N h2) rfl rfl (ReadsAll.cons (Reads.int _ _) (ReadsAll.cons (Reads.int _ _) ReadsAll.nil))) rfl rfl hu ?_
  simp only [PyData.eqv, PyData.eqvAll, beq_self_eq_true, Bool.and_true, Bool.not_true]
  exact h
end
theorem vsz_tag {p w : Int} (h0 : 0 ≤ w) (h1 : w < 8) : vsz (8 * p + w) = vsz (8 * p) := by
  have e : ∀ k : Int, k % 8 = 7 → ((8 * p + w ≤ k) = (8 * p ≤ k)) := fun k hk => propext ⟨fun h => by omega, fun h => by omega⟩
  unfold vsz
  simp only [e 127 (by decide), e 16383 (by decide), e 2097151 (by decide), e 268435455 (by decide), e 34359738367 (by decide), e 4398046511103 (by decide), e 562949953421311 (by decide), e 72057594037927935 (by decide), e 9223372036854775807 (by decide)]
noncomputable def IsT (r : Value) : Prop := r = .bool true
section
variable {d : Nat} {f : Addr} {vs : List Value} {prog : Program} {w : World} {p : Program} {loose : List Str} {mean : ExcName → Option Value} {mg mb : Str → Option Value}
  {dp un : Nat} {gd : Option (List Code)} {cn : Str} {cs : Scope} {a : Addr} {ccd : Value} {cl : List (Str × Addr)} {outer : List Env} {A₀ : Around} {base h₀ : Heap} {L : Addr} {m : Str → Option Value} {news led : List (Addr × Obj)} {s : Shared} {Q E : Value → Shared → Prop}
  {T : List Tab} {x y : Int} {X : Array UInt8}
theorem Call.useP2 (C : Call d f vs led (RTup led (I2 x y))) (B : Below A₀ base outer h₀) (F : Fr h₀ L s.heap m) (X : (HD.heap_39 w.params).In h₀) (N : News h₀ L s.heap led) (Tp : Top p loose mean mg mb h₀) (hk : cs.kind = .function)
    (hd : dp + d < recursionLimit) (hu : un + 8 * d < cLine)
    (h : ∀ D t u h' tk', Fr h₀ L h' m → News h₀ L h' ((D, { cls := .type "tuple", data := .seq #[.int x t, .int y u] }) :: led) → (∀ p ∈ led, p.1 < D) → Q (.ref D) { s with heap := h', toks := tk' }) :
    wpAny (model prog w) (ktrTop dp un gd cn cs L a ccd cl outer) (call (.ref f) vs) Q E s :=
  C.useP B F X N Tp hk hd hu fun D a b h' tk' hP hl F' N' => by obtain ⟨⟨t, rfl⟩, u, rfl⟩ := hP; exact h D t u h' tk' F' N' hl
theorem Call.usePB (C : Call d f vs led (RTup led (B2 X y))) (B : Below A₀ base outer h₀) (F : Fr h₀ L s.heap m) (Xh : (HD.heap_39 w.params).In h₀) (N : News h₀ L s.heap led) (Tp : Top p loose mean mg mb h₀) (hk : cs.kind = .function)
    (hd : dp + d < recursionLimit) (hu : un + 8 * d < cLine)
    (h : ∀ D t u h' tk', Fr h₀ L h' m → News h₀ L h' ((D, { cls := .type "tuple", data := .seq #[.bytes X t, .int y u] }) :: led) → (∀ p ∈ led, p.1 < D) → Q (.ref D) { s with heap := h', toks := tk' }) :
    wpAny (model prog w) (ktrTop dp un gd cn cs L a ccd cl outer) (call (.ref f) vs) Q E s :=
  C.useP B F Xh N Tp hk hd hu fun D a b h' tk' hP hl F' N' => by obtain ⟨⟨t, rfl⟩, u, rfl⟩ := hP; exact h D t u h' tk' F' N' hl
theorem Call.useTT2 (N : News h₀ L s.heap led) (hl : Led led news T) (I : TabInv T) (C : NoTab news → Call d f vs (news ++ entsOf T) (RTT news T (I2 x y))) (B : Below A₀ base outer h₀) (F : Fr h₀ L s.heap m) (X : (HD.heap_39 w.params).In h₀) (Tp : Top p loose mean mg mb h₀) (hk : cs.kind = .function)
    (hd : dp + d < recursionLimit) (hu : un + 8 * d < cLine)
    (h : ∀ D t u T' h' tk', TabInv T' → TLe T T' → Fr h₀ L h' m → News h₀ L h' ((D, { cls := .type "tuple", data := .seq #[.int x t, .int y u] }) :: (news ++ entsOf T')) → (∀ p ∈ news, p.1 < D) → Q (.ref D) { s with heap := h', toks := tk' }) :
    wpAny (model prog w) (ktrTop dp un gd cn cs L a ccd cl outer) (call (.ref f) vs) Q E s :=
  Call.useTT N hl I C B F X Tp hk hd hu fun D a b T' h' tk' hP I' le hlt F' N' => by obtain ⟨⟨t, rfl⟩, u, rfl⟩ := hP; exact h D t u T' h' tk' I' le F' N' hlt
end
theorem lines_JZ1 : True := by
  (k_with "m dbg" => (repeat (first | (k_unfold; (try dsimp only)) | (k_end; wrow_close) | walk1 | (dsimp only; walk1) | (leave1; walk_say "STEP leave1"; try dsimp only))))
  (k_with "m c_u64" => ((have hcL9ħ := cLine_is); (simp only [units_in1, units_deeper, Around.mark_units, units_caller, units_under_make, cLine] at *); (try dsimp only [ktrTop]); omega))
  (k_with "m c_eq" => (first | (with_reducible rfl) | assumption | (with_reducible exact Hid.out (by assumption)) | omega))
  (k_with "m compareOp NotEq int int" => (refine ne_sameI (by walk_at "c_eq") ?_))
  (k_with "m compareOp Eq int int" => (refine eq_sameI (by walk_at "c_eq") ?_))
  (k_with "m compareOp NotEq bytes bytes" => (refine ne_sameB (by walk_at "c_eq") ?_))
  (k_with "m call builtin:len" => ((with_reducible show wpAny _ _ (call (Value.builtin "len") [Value.bytes (vb _) _]) _ _ _); refine len_vb (by walk_at "c_side") (by walk_at "c_side") ?_; intro _ _; (try dsimp only)))
  (k_with "m call builtin:len" => ((with_reducible show wpAny _ _ (call (Value.builtin "len") [Value.bytes _ _]) _ _ _); refine len_as (by first | assumption | (with_reducible exact Hid.out (by assumption))) (by walk_at "c_bsz") ?_; intro _ _; (try dsimp only)))
  (k_with "m binaryOp Add bytes bytes" => (refine add_bb (by walk_at "c_bsz") ?_; intro _ _; (try dsimp only)))
  (k_with "m c_bsz" => ((try simp only [Array.size_append, List.size_toArray, List.length_cons, List.length_nil, Array.size_empty]); omega))
  (k_with "m compareOp NotEq ref ref" => (k_here; k_dflt (refine' ne_tupII ?Nx136 ?h1x136 ?h2x136 ?e1x136 ?e2x136 ?ux136 ?_; (case Nx136 => k_asm); (case h1x136 => k_mem); (case h2x136 => k_mem); (case e1x136 => walk_at "c_eq"); (case e2x136 => walk_at "c_eq"); (case ux136 => walk_at "c_u64"))))
  (k_with "m compareOp Eq ref ref" => (k_here; k_dflt (refine' eq_tupBI ?Nx137 ?h1x137 ?h2x137 ?e1x137 ?e2x137 ?ux137 ?_; (case Nx137 => k_asm); (case h1x137 => k_mem); (case h2x137 => k_mem); (case e1x137 => walk_at "c_eq"); (case e2x137 => walk_at "c_eq"); (case ux137 => exact Nat.lt_of_le_of_lt (Nat.le_add_right _ 64) (by walk_at "c_u64")))))
  (k_with "m c_gotP" => (intro _ _ _ _ _ _ N9ħ l9ħ; (try simp only [List.cons_append, List.nil_append] at N9ħ); (try dsimp only); (try k_lt l9ħ); (try k_sweep)))
  (k_with "m c_gotTT" => ((case Bq => k_asm); (case Fq => k_asm); (case Xq => k_asm); (case Tq => k_asm); (case kq => first | exact rfl | assumption); (case dq => ktr_room); (case uq => ktr_units); intro _ _ _ _ _ _ _ _ _ N9ħ l9ħ; (try simp only [List.cons_append, List.nil_append] at N9ħ); (try dsimp only); (try k_lt l9ħ); (try k_sweep)))
  (k_with "m call ref" => (k_here; (with_reducible show wpAny _ _ (call (Value.ref 382) _) _ _ _); k_dflt (refine' Call.useY (c_varint ?p0x140 ?p1x140) ?Bq ?Fq ?Xq ?Nq ?Tq ?kq ?dq ?uq ?_); walk_at "c_asm"; (case p0x140 => walk_at "c_side"); (case p1x140 => walk_at "c_side"); walk_at "c_got"))
  (k_with "m call ref" => (k_here; (with_reducible show wpAny _ _ (call (Value.ref 65) _) _ _ _); k_dflt (refine' Call.useP2 (c_Unpack ?p0x141 ?p1x141) ?Bq ?Fq ?Xq ?Nq ?Tq ?kq ?dq ?uq ?_); walk_at "c_asm"; (case p0x141 => walk_at "c_side"); (case p1x141 => walk_at "c_side"); walk_at "c_gotP"))
  (k_with "m call ref" => (k_here; (with_reducible show wpAny _ _ (call (Value.ref 219) _) _ _ _); k_dflt (refine' Call.usePB (c_ReadTag ?p0x142 ?p1x142) ?Bq ?Fq ?Xq ?Nq ?Tq ?kq ?dq ?uq ?_); walk_at "c_asm"; (case p0x142 => assumption); (case p1x142 => walk_at "c_side"); walk_at "c_gotP"))
  (k_with "m call ref" => (k_here; (with_reducible show wpAny _ _ (call (Value.ref 226) _) _ _ _); k_dflt (refine' Call.useTT2 ?Nq ?lx143 ?Ix143 (fun hnħ => c_DecodeTag hnħ ?Ix143 ?p0x143 ?p1x143) ?Bq ?Fq ?Xq ?Tq ?kq ?dq ?uq ?_; (case Nq => k_asm); (case lx143 => walk_at "led"); (case Ix143 => assumption); (case p0x143 => walk_at "c_side"); (case p1x143 => walk_at "c_side")); walk_at "c_gotTT"))
  exact True.intro
section
variable {news : List (Addr × Obj)} {t u : Tok} {T : List Tab} {p wt : Int}
local macro_rules | `(tactic| walk_at "eval Name") => `(tactic| (k_here; k_dflt (refine' ld ?k1 ?k2 ?_; (case k1 => k_asm); (case k2 => exact rfl); k_whole)))
theorem c_law_tags (NT : NoTab news) (I : TabInv T) (hp0 : 1 ≤ p) (hp1 : p < 536870912) (hw0 : 0 ≤ wt) (hw1 : wt ≤ 5) : Call 20 403 [.int p t, .int wt u] (news ++ entsOf T) (RT news T IsT) := by
  have hvt := vsz_tag (p := p) hw0 (by omega)
  have hvs := vsz_vb (v := 8 * p + wt) (by omega) (by omega)
  have hsz : (vb (8 * p + wt)).size ≤ 10 := vb_size_le (by omega)
  have hB : (#[97, 98] ++ vb (8 * p + wt) ++ #[99]).toList = [97, 98] ++ (vb (8 * p + wt)).toList ++ [99] := by simp
  walk_at "c_in"
  k_steps
  all_goals trace_state
  all_goals walk_at "c_outT"
  all_goals exact rfl
end
theorem behind_JZ : True := by
  w_top off
  exact True.intro
-- part KA
/-! the law's sizes -/
noncomputable def sg (n : Int) : Int := if n ≥ 9223372036854775808 then n - 18446744073709551616 else n
theorem unzz_zz (v : Int) : unzz (zz v) = v := by unfold unzz zz; (repeat' split) <;> omega
theorem zz_unzz {n : Int} (h : 0 ≤ n) : zz (unzz n) = n := by unfold unzz zz; (repeat' split) <;> omega
noncomputable def JI (x : Int) (s : Shared) (v : Value) (s' : Shared) : Prop := ∃ t k, v = .int x t ∧ s' = { s with toks := k }
theorem JI.mk {x y : Int} {t : Tok} {k : Nat} {s : Shared} (e : y = x) : JI x s (.int y t) { s with toks := k } := ⟨t, k, by rw [e], rfl⟩
section
variable {M : Model} {A : Around} {E : Value → Shared → Prop} {s : Shared} {env : Env} {test body orelse : PySem.Expr} {pos : Pos} {Q : Value → Shared → Prop}
theorem ifJoin (x : Int) (h1 : wpAny M A (isTrue test env (eval test env)) (fun c s₂ => if c then wpAny M A (eval body env) (JI x s) E s₂ else wpAny M A (eval orelse env) (JI x s) E s₂) E s) (h2 : ∀ t k, Q (.int x t) { s with toks := k }) :
    wpAny M A (eval (.IfExp test body orelse pos) env) Q E s :=
  wpAny_mono (IfExp_ h1) (fun v s' h => by obtain ⟨t, k, rfl, rfl⟩ := h; exact h2 t k) fun _ _ e => e
end
section
variable {d d2 : Nat} {f : Addr} {vs : List Value} {prog : Program} {w : World} {p : Program} {loose : List Str} {mean : ExcName → Option Value} {mg mb : Str → Option Value}
  {dp un : Nat} {gd : Option (List Code)} {cn : Str} {cs : Scope} {a : Addr} {ccd : Value} {cl : List (Str × Addr)} {outer : List Env} {A₀ : Around} {base h₀ : Heap} {L : Addr} {m : Str → Option Value} {news led : List (Addr × Obj)} {s : Shared} {Q E : Value → Shared → Prop}
  {T T₀ : List Tab} {x : Int} {G : List (Addr × Obj)} {g : Addr} {val : Value}
theorem Call.useRE {P : Value → Array UInt8 → Prop} (N : News h₀ L s.heap led) (hl : Led led news T) (C : NoTab news → Call d f vs (news ++ entsOf T) (RE d2 P news T)) (B : Below A₀ base outer h₀) (F : Fr h₀ L s.heap m) (X : (HD.heap_39 w.params).In h₀) (Tp : Top p loose mean mg mb h₀) (hk : cs.kind = .function)
    (hd : dp + d < recursionLimit) (hu : un + 8 * d < cLine)
    (h : ∀ g G T' h' tk', (∀ val b, P val b → EncS d2 val b g (G ++ news) T') → TabInv T' → TLe T T' → NoTab G → Fr h₀ L h' m → News h₀ L h' (G ++ (news ++ entsOf T')) → Q (.ref g) { s with heap := h', toks := tk' }) :
    wpAny (model prog w) (ktrTop dp un gd cn cs L a ccd cl outer) (call (.ref f) vs) Q E s :=
  (C hl.noTab).use B F X (hl.eq ▸ N) Tp hk hd hu fun r n' h' tk' hR F' N' => by obtain ⟨g, G, T', rfl, rfl, I', le', NG, hS⟩ := hR; exact h g G T' h' tk' hS I' le' NG F' N'
theorem Call.useRZ {P : Value → Int → Prop} (hP : ∃ val x, P val x) (N : News h₀ L s.heap led) (hl : Led led news T) (C : NoTab news → Call d f vs (news ++ entsOf T) (RZ d2 P news T)) (B : Below A₀ base outer h₀) (F : Fr h₀ L s.heap m) (X : (HD.heap_39 w.params).In h₀) (Tp : Top p loose mean mg mb h₀) (hk : cs.kind = .function)
    (hd : dp + d < recursionLimit) (hu : un + 8 * d < cLine)
    (h : ∀ g G T' oc od fd sl h' tk', (g, (⟨oc, od, .func fd, sl⟩ : Obj)) ∈ G ++ (news ++ entsOf T') → (∀ val x, P val x → SizS d2 val x g (G ++ news) T') → TabInv T' → TLe T T' → NoTab G → Fr h₀ L h' m → News h₀ L h' (G ++ (news ++ entsOf T')) → Q (.ref g) { s with heap := h', toks := tk' }) :
    wpAny (model prog w) (ktrTop dp un gd cn cs L a ccd cl outer) (call (.ref f) vs) Q E s :=
  (C hl.noTab).use B F X (hl.eq ▸ N) Tp hk hd hu fun r n' h' tk' hR F' N' => by
    obtain ⟨g, G, T', rfl, rfl, I', le', NG, hS⟩ := hR
    obtain ⟨v, x, hv⟩ := hP
    obtain ⟨oc, od, fd, sl, hf⟩ := (hS v x hv).fn
    exact h g G T' oc od fd sl h' tk' (by rw [← List.append_assoc]; exact List.mem_append_left _ hf) hS I' le' NG F' N'
theorem Call.useSizI (N : News h₀ L s.heap led) (hl : Led led news T) (I : TabInv T) (S : SizS d val x g G T₀) (le : TLe T₀ T) (hG : ∀ q ∈ G, q ∈ news) (B : Below A₀ base outer h₀) (F : Fr h₀ L s.heap m) (X : (HD.heap_39 w.params).In h₀) (Tp : Top p loose mean mg mb h₀) (hk : cs.kind = .function)
    (hd : dp + d < recursionLimit) (hu : un + 8 * d < cLine)
    (h : ∀ t h' tk', Fr h₀ L h' m → News h₀ L h' (news ++ entsOf T) → Q (.int x t) { s with heap := h', toks := tk' }) :
    wpAny (model prog w) (ktrTop dp un gd cn cs L a ccd cl outer) (call (.ref g) [val]) Q E s :=
  Call.useI (S.call news T I le hl.noTab hG) B F X (hl.eq ▸ N) Tp hk hd hu h
end
theorem sg_lo {n : Int} (h0 : 0 ≤ n) : -9223372036854775808 ≤ sg n := by unfold sg; split <;> omega
theorem sg_hi {n : Int} (h1 : n ≤ 18446744073709551615) : sg n < 9223372036854775808 := by unfold sg; split <;> omega
theorem sg_mod {n : Int} (h0 : 0 ≤ n) (h1 : n ≤ 18446744073709551615) : sg n % 18446744073709551616 = n := by unfold sg; split <;> omega
theorem uz_lo {n : Int} (h1 : n ≤ 18446744073709551615) (h0 : 0 ≤ n) : -(2 ^ 63) ≤ unzz n := by unfold unzz; split <;> omega
theorem uz_hi {n : Int} (h1 : n ≤ 18446744073709551615) (h0 : 0 ≤ n) : unzz n < 2 ^ 63 := by unfold unzz; split <;> omega
theorem lines_KA1 : True := by
  (k_with "m JI" => (refine JI.mk ?_; first | (unfold sg; split <;> omega) | (unfold zz; split <;> omega)))
  (k_with "m eval IfExp" => (refine StopW.mk ?_))
  (k_with "m c_norm" => skip)
  (k_with "m c_gotRE" => ((case Bq => k_asm); (case Fq => k_asm); (case Xq => k_asm); (case Tq => k_asm); (case kq => first | exact rfl | assumption); (case dq => ktr_room); (case uq => ktr_units); intro _ _ _ _ _ _ _ _ _ _ N9ħ; (try simp only [List.cons_append, List.nil_append, List.append_assoc] at N9ħ); (try dsimp only); (try k_sweep)))
  (k_with "m c_gotRZ" => ((case Bq => k_asm); (case Fq => k_asm); (case Xq => k_asm); (case Tq => k_asm); (case kq => first | exact rfl | assumption); (case dq => ktr_room); (case uq => ktr_units); intro _ _ _ _ _ _ _ _ _ hf9ħ _ _ _ _ _ N9ħ; (try simp only [List.cons_append, List.nil_append, List.append_assoc] at N9ħ hf9ħ); (try dsimp only); (try k_sweep)))
  (k_with "m call ref" => (k_here; (with_reducible show wpAny _ _ (call (Value.ref 354) [_, Value.bool false, Value.bool false]) _ _ _); k_dflt (refine' Call.useRE ?Nq ?lx149 (fun hnħ => c_U64FF hnħ ?Ix149 ?p0x149 ?p1x149) ?Bq ?Fq ?Xq ?Tq ?kq ?dq ?uq ?_; (case Nq => k_asm); (case lx149 => walk_at "led"); (case Ix149 => assumption); (case p0x149 => walk_at "c_side"); (case p1x149 => walk_at "c_side")); walk_at "c_gotRE"))
  (k_with "m call ref" => (k_here; (with_reducible show wpAny _ _ (call (Value.ref 347) _) _ _ _); k_dflt (refine' Call.useRE ?Nq ?lx150 (fun hnħ => c_I64FF hnħ ?Ix150 ?p0x150 ?p1x150) ?Bq ?Fq ?Xq ?Tq ?kq ?dq ?uq ?_; (case Nq => k_asm); (case lx150 => walk_at "led"); (case Ix150 => assumption); (case p0x150 => walk_at "c_side"); (case p1x150 => walk_at "c_side")); walk_at "c_gotRE"))
  (k_with "m call ref" => (k_here; (with_reducible show wpAny _ _ (call (Value.ref 340) _) _ _ _); k_dflt (refine' Call.useRE ?Nq ?lx151 (fun hnħ => c_I32FF hnħ ?Ix151 ?p0x151 ?p1x151) ?Bq ?Fq ?Xq ?Tq ?kq ?dq ?uq ?_; (case Nq => k_asm); (case lx151 => walk_at "led"); (case Ix151 => assumption); (case p0x151 => walk_at "c_side"); (case p1x151 => walk_at "c_side")); walk_at "c_gotRE"))
  (k_with "m call ref" => (k_here; (with_reducible show wpAny _ _ (call (Value.ref 361) _) _ _ _); k_dflt (refine' Call.useRE ?Nq ?lx152 (fun hnħ => c_S64FF hnħ ?Ix152 ?p0x152 ?p1x152) ?Bq ?Fq ?Xq ?Tq ?kq ?dq ?uq ?_; (case Nq => k_asm); (case lx152 => walk_at "led"); (case Ix152 => assumption); (case p0x152 => walk_at "c_side"); (case p1x152 => walk_at "c_side")); walk_at "c_gotRE"))
  (k_with "m call ref" => (k_here; (with_reducible show wpAny _ _ (call (Value.ref 275) [_, Value.bool false, Value.bool false]) _ _ _); k_dflt (refine' Call.useRZ ⟨.int 0 0, _, 0, 0, rfl, rfl⟩ ?Nq ?lx153 (fun hnħ => z_U64FF hnħ ?Ix153 ?p0x153 ?p1x153) ?Bq ?Fq ?Xq ?Tq ?kq ?dq ?uq ?_; (case Nq => k_asm); (case lx153 => walk_at "led"); (case Ix153 => assumption); (case p0x153 => walk_at "c_side"); (case p1x153 => walk_at "c_side")); walk_at "c_gotRZ"))
  (k_with "m call ref" => (k_here; (with_reducible show wpAny _ _ (call (Value.ref 268) _) _ _ _); k_dflt (refine' Call.useRZ ⟨.int 0 0, _, 0, 0, rfl, rfl⟩ ?Nq ?lx154 (fun hnħ => z_I64FF hnħ ?Ix154 ?p0x154 ?p1x154) ?Bq ?Fq ?Xq ?Tq ?kq ?dq ?uq ?_; (case Nq => k_asm); (case lx154 => walk_at "led"); (case Ix154 => assumption); (case p0x154 => walk_at "c_side"); (case p1x154 => walk_at "c_side")); walk_at "c_gotRZ"))
  (k_with "m call ref" => (k_here; (with_reducible show wpAny _ _ (call (Value.ref 282) _) _ _ _); k_dflt (refine' Call.useRZ ⟨.int 0 0, _, 0, 0, rfl, by decide, by decide, rfl⟩ ?Nq ?lx155 (fun hnħ => z_S64FF hnħ ?Ix155 ?p0x155 ?p1x155) ?Bq ?Fq ?Xq ?Tq ?kq ?dq ?uq ?_; (case Nq => k_asm); (case lx155 => walk_at "led"); (case Ix155 => assumption); (case p0x155 => walk_at "c_side"); (case p1x155 => walk_at "c_side")); walk_at "c_gotRZ"))
  (k_with "m c_es" => (first
  | ((rename (∀ _ _, PU _ _ _ _ → _) => es8ħ); exact es8ħ _ _ ⟨_, _, rfl, by walk_at "c_side", by walk_at "c_side", rfl⟩)
  | ((rename (∀ _ _, PS _ _ _ _ → _) => es8ħ); exact es8ħ _ _ ⟨_, _, rfl, by walk_at "c_side", by walk_at "c_side", rfl⟩)
  | ((rename (∀ _ _, PZ _ _ _ _ → _) => es8ħ); exact es8ħ _ _ ⟨_, _, rfl, by walk_at "c_side", by walk_at "c_side", rfl⟩)
  | ((rename (∀ _ _, ZU _ _ _ _ → _) => es8ħ); exact es8ħ _ _ ⟨_, _, rfl, rfl⟩)
  | ((rename (∀ _ _, ZS _ _ _ _ → _) => es8ħ); exact es8ħ _ _ ⟨_, _, rfl, rfl⟩)
  | ((rename (∀ _ _, ZZ _ _ _ _ → _) => es8ħ); exact es8ħ _ _ ⟨_, _, rfl, by walk_at "c_side", by walk_at "c_side", rfl⟩)))
  (k_with "m call ref" => (k_here; (with_reducible show wpAny _ _ (call (Value.ref 389) _) _ _ _); k_dflt (refine' Call.useTB ?Nq ?lx157 ?Ix157 (fun hnħ => c_written hnħ ?Ix157 ?ESx157 ?lex157 ?Gx157 ?bx157) ?Bq ?Fq ?Xq ?Tq ?kq ?dq ?uq ?_; (case Nq => k_asm); (case lx157 => walk_at "led"); (case Ix157 => assumption); (case ESx157 => walk_at "c_es"); (case lex157 => walk_at "c_le"); (case Gx157 => walk_at "c_sub"); (case bx157 => walk_at "c_bsz")); walk_at "c_gotTA"))
  (k_with "m c_gotTA" => ((case Bq => k_asm); (case Fq => k_asm); (case Xq => k_asm); (case Tq => k_asm); (case kq => first | exact rfl | assumption); (case dq => ktr_room); (case uq => ktr_units); intro _ _ _ _ _ _ _ N9ħ; (try simp only [List.cons_append, List.nil_append, List.append_assoc] at N9ħ); (try dsimp only); (try k_sweep)))
  (k_with "m call ref" => (k_here; (with_reducible show wpAny _ _ (call (Value.ref _) [Value.int _ _]) _ _ _); k_dflt (refine' Call.useSizI ?Nq ?lx159 ?Ix159 ?ESx159 ?lex159 ?Gx159 ?Bq ?Fq ?Xq ?Tq ?kq ?dq ?uq ?_; (case ESx159 => walk_at "c_es"); (case Nq => k_asm); (case lx159 => walk_at "led"); (case Ix159 => assumption); (case lex159 => walk_at "c_le"); (case Gx159 => walk_at "c_sub")); (case Bq => k_asm); (case Fq => k_asm); (case Xq => k_asm); (case Tq => k_asm); (case kq => first | exact rfl | assumption); (case dq => ktr_room); (case uq => ktr_units); intro _ _ _ _ N9ħ; (try simp only [List.cons_append, List.nil_append, List.append_assoc] at N9ħ); (try dsimp only); (try k_sweep)))
  exact True.intro
section
variable {news : List (Addr × Obj)} {t u : Tok} {T : List Tab} {p n : Int}
local macro_rules | `(tactic| walk_at "eval Name") => `(tactic| (k_here; k_dflt (refine' ld ?k1 ?k2 ?_; (case k1 => k_asm); (case k2 => exact rfl); k_whole)))
theorem c_law_sizes (NT : NoTab news) (I : TabInv T) (hp0 : 1 ≤ p) (hp1 : p < 536870912) (hn0 : 0 ≤ n) (hn1 : n ≤ 18446744073709551615) : Call 20 410 [.int p t, .int n u] (news ++ entsOf T) (RT news T IsT) := by
  have hz8 : (vb (8 * p)).size ≤ 10 := vb_size_le (by omega)
  have hzn : (vb n).size ≤ 10 := vb_size_le hn1
  have hs0 := sg_lo hn0
  have hs1 := sg_hi hn1
  walk_at "c_in"
  k_steps
  unfold StopW
  refine ifJoin (sg n) ?_ ?_
  · k_steps
  intro t1 k1
  have hs2 := sg_mod hn0 hn1
  generalize sg n = S at *
  obtain ⟨hz0, hz1⟩ := zz_bd hs0 hs1
  have hzz : (vb (zz S)).size ≤ 10 := vb_size_le hz1
  have hzS : (vb (S % 18446744073709551616)).size ≤ 10 := vb_size_le (m64_le S)
  have e1 : vb (8 * p) ++ vb (S % 18446744073709551616) = vb (8 * p) ++ vb n := by rw [hs2]
  have e3 : vsz (S % 18446744073709551616) = vsz n := by rw [hs2]
  have e4 : vsz (8 * p) + (if S < 0 then 10 else vsz S) = vsz (8 * p) + vsz n := by
    split
    · rw [vsz_ten (n := n) (by omega)]
    · rw [show S = n by omega]
  have hsm : (vb ((n % 4294967296 - 2147483648) % 18446744073709551616)).size ≤ 10 := vb_size_le (m64_le _)
  have f1 : Hid (unzz (zz S)) S := unzz_zz S
  have f2 : Hid (zz (unzz n)) n := zz_unzz hn0
  have hu0 := uz_lo hn1 hn0
  have hu1 := uz_hi hn1 hn0
  have hmS : Hid (S % 18446744073709551616) n := hs2
  clear hs2
  k_steps
  unfold StopW
  refine ifJoin (zz S) ?_ ?_
  · k_steps
  intro t2 k2
  k_steps
  unfold StopW
  refine ifJoin (zz (n % 4294967296 - 2147483648)) ?_ ?_
  · k_steps
  intro t3 k3
  obtain ⟨hy0, hy1⟩ := zz_bd (v := n % 4294967296 - 2147483648) (m32_lo n) (m32_hi n)
  k_steps
  walk_at "c_outT"
  exact rfl
end
theorem behind_KA : True := by
  w_top off
  exact True.intro
-- part KB
/-! the law's rows -/
section
variable {h₀ h' : Heap} {L : Addr} {m : Str → Option Value} {s : Shared} {Q : Value → Shared → Prop} {T T' : List Tab} {news G : List (Addr × Obj)} {g : Addr} {tk' d : Nat} {P : List (Addr × Obj) → Value → Int → Prop}
noncomputable def RZX (d : Nat) (P : List (Addr × Obj) → Value → Int → Prop) (news : List (Addr × Obj)) (T : List Tab) (r : Value) (n : List (Addr × Obj)) : Prop :=
  ∃ g G T', r = .ref g ∧ n = G ++ (news ++ entsOf T') ∧ TabInv T' ∧ TLe T T' ∧ NoTab G ∧ (∃ oc od fd sl, (g, (⟨oc, od, .func fd, sl⟩ : Obj)) ∈ G) ∧ ∀ X val x, P X val x → SizS d val x g (G ++ X) T'
theorem outZX (hret : ∀ r n' h' tk', RZX d P news T r n' → Fr h₀ L h' m → News h₀ L h' n' → Q r { s with heap := h', toks := tk' }) (F : Fr h₀ L h' m) (N : News h₀ L h' (G ++ (news ++ entsOf T'))) (I : TabInv T') (le : TLe T T') (hG : NoTab G)
    (hf : ∃ oc od fd sl, (g, (⟨oc, od, .func fd, sl⟩ : Obj)) ∈ G) (hS : ∀ X val b, P X val b → SizS d val b g (G ++ X) T') : Q (.ref g) { s with heap := h', toks := tk' } := hret _ _ _ _ ⟨g, G, T', rfl, rfl, I, le, hG, hf, hS⟩ F N
end
section
variable {news : List (Addr × Obj)} {t : Tok} {T : List Tab} {p : Int}
theorem z_BytesTX (NT : NoTab news) (I : TabInv T) (h0 : 0 ≤ p) (hp : p < 536870912) : Call 5 289 [.int p t, .bool true, .bool false] (news ++ entsOf T) (RZX 2 (fun X => ZB X p) news T) := by
  walk_at "c_inC"
  k_steps
  refine' outZX ?h ?F ?N ?I ?l ?g ?f ?S (G := [_, _, _])
  (case h => assumption)
  (case F => k_asm)
  (case N => k_asm)
  (case I => assumption)
  (case l => walk_at "c_le")
  (case g => walk_at "c_noTab")
  (case f => exact ⟨_, _, _, _, .head _⟩)
  rintro X _ _ ⟨xs, ⟨l, e, rfl, hl, hx, hlen⟩, rfl⟩
  refine ⟨⟨_, _, _, _, .head _⟩, fun news T I le NT hG => ?_⟩
  have g1 := hG _ (.head _)
  have g2 := hG _ (.tail _ (.head _))
  have g3 := hG _ (.tail _ (.tail _ (.head _)))
  have gl := hG _ (.tail _ (.tail _ (.tail _ hl)))
  clear hG hl
  walk_at "c_inN"
  k_steps
  rename News _ _ _ _ => N1
  rename Fr _ _ _ _ => F1
  unfold StopW
  refine For_B (xs := xs) (e := e) (l := l) (fun r m nx => nx = news ++ entsOf T ∧ (∃ tz, m (Str.ofString "result") = some (.int (vsz (8 * p) * xs.length + (bsum xs - bsum r)) tz)) ∧ ∀ x ∈ r, x.1.size ≤ 4000) F1 N1 rfl (List.mem_append_left _ gl) ⟨rfl, ⟨_, int_eq (by omega)⟩, hx⟩ ?_ ?_
  · rintro v t r m₁ nx I oI h₁ tk₁ ⟨rfl, ⟨tz, hm1⟩, hr⟩ hc hl hI F₁ N₁
    have hv := hr _ (.head _)
    dsimp only at hv
    clear F1 N1
    k_steps
    walk_at "c_step"
    · exact hl
    · exact hI
    · exact ⟨rfl, ⟨_, int_eq (by simp only [bsum_cons]; omega)⟩, fun x hx => hr x (.tail _ hx)⟩
  · rintro m₁ nx h₁ tk₁ ⟨rfl, ⟨tz, hm1⟩, hr⟩ hl F₁ N₁
    clear F1 N1
    rw [bsum_nil, Int.sub_zero] at hm1
    k_steps
    walk_at "c_outI"
    rfl
end
theorem mul_acute {n : Int} (h0 : 0 ≤ n) : Txt.mul (Str.ofString "é") n = acute n.toNat := by
  have he : (Str.ofString "é") = ⟨#[233]⟩ := by decide +kernel
  have hfold : ∀ (m : Nat) (o : Array Nat), (List.replicate m #[233]).foldl (· ++ ·) o = o ++ (List.replicate m 233).toArray := by
    intro m
    induction m with
    | zero => intro o; simp
    | succ m ih => intro o; rw [List.replicate_succ, List.foldl_cons, ih]; apply Array.toList_inj.mp; simp [List.replicate_succ]
  rw [he]
  unfold Txt.mul
  split
  · rw [show n = 0 by omega]; rfl
  · split
    · rename_i h
      have : n = 1 := by simpa [Str.length] using h
      rw [this]; rfl
    · show Str.mk ((List.replicate n.toNat #[233]).foldl (· ++ ·) #[]) = _
      rw [hfold]
      simp [acute]
section
variable {prog : Program} {w : World} {A : Around} {E : Value → Shared → Prop} {s : Shared} {n : Int} {t u : Tok} {Q : Value → Shared → Prop}
theorem mul_e (h0 : 0 ≤ n) (h1 : n ≤ 1000) (h : ∀ t' k, Q (.str (acute n.toNat) t') { s with toks := k }) : wpAny (model prog w) A (binaryOp .Mult (.str (Str.ofString "é") t) (.int n u)) Q E s :=
  SB.mul (mulOk_of 1 1000 (by decide +kernel) (by omega) (by omega) (by decide) (by decide)) fun t' k => by rw [mul_acute h0]; exact h t' k
variable {value slice : PySem.Expr} {h₀ : Heap} {L l : Addr} {e : Nat} {xs : List (Int × Tok)} {led : List (Addr × Obj)} {v : Int} {tv : Tok}
theorem item_iv (N : News h₀ L s.heap led) (hm : (l, W.listOf (ivals xs).toArray e) ∈ led) (h0 : 0 ≤ n) (h1 : n < 1000) (hx : xs[n.toNat]? = some (v, tv)) (h : Q (.int v tv) s)
    (hs : subscripted slice false (.ref l) (.int n u) = operate [.ref l, .int n u] (getItem (.ref l) (.int n u)) := by with_unfolding_all rfl) :
    wpAny (model prog w) A (subscriptTail value slice (.ref l) (.int n u)) Q E s :=
  tail_any (N.isList hm).typeIs slot_list_getitem.lookup (wpAny_getItem_list (N.isList hm) h0 (by omega) (by simp [ivals, hx]) h) hs
end
/-! comprehensions that give octets -/
section
variable {prog : Program} {w : World} {A : Around} {h₀ : Heap} {L : Addr} {m : Str → Option Value} {env : Env} {elt : PySem.Expr} {x : Str} {scope : Scope} {cl : List (Str × Addr)} {s : Shared} {S : List (Addr × Obj) → Prop} {Fin : List Value → List (Addr × Obj) → Prop} {news : List (Addr × Obj)}
theorem comp_B {xs : List (Int × Tok)} (g : Int → Array UInt8)
    (turn : ∀ k t I oI C oC D m₂ ys h tk (E' : Value → Shared → Prop), (k, t) ∈ xs → LCg.NsObj oC m₂ → m₂ x = some (.int k t) → Fr h₀ L h m → News h₀ L h ((I, oI) :: (C, oC) :: (D, LCg.lst ys) :: news) → LCg.Off3 I C D news → ((@Ne Nat I C) ∧ (@Ne Nat I D) ∧ (@Ne Nat C D)) →
      wpAny (model prog w) A (eval elt (compEnvC scope cl C env)) (LCg.CompEnd h₀ L m { s with heap := h, toks := tk } I oI C oC D (LCg.lst ys) S (fun y news' => news' = news ∧ ∃ t, y = .bytes (g k) t)) E' { s with heap := h, toks := tk })
    (fin : ∀ bs : List (Array UInt8 × Tok), bs.map (·.1) = xs.map (fun p => g p.1) → Fin (bvals bs) news) : LCg.CompRest prog w A h₀ L m env elt x scope cl s S (fun i v => (ivals xs).toArray[i]? = some v) Fin (ivals xs).toArray.size 0 [] news := by
  have key : ∀ (j i : Nat) (bs : List (Array UInt8 × Tok)), i + j = xs.length → bs.map (·.1) = (xs.take i).map (fun p => g p.1) → LCg.CompRest prog w A h₀ L m env elt x scope cl s S (fun i v => (ivals xs).toArray[i]? = some v) Fin j i (bvals bs) news := by
    intro j
    induction j with
    | zero =>
      intro i bs hi hb
      have e : i = xs.length := by omega
      subst e
      rw [List.take_length] at hb
      exact LCg.CompRest.zero (fin bs hb)
    | succ j ih =>
      intro i bs hi hb
      refine LCg.CompRest.succ ?_
      intro v I oI C oC D m₂ h tk E' hv hC hx F N off ne
      obtain ⟨⟨k, t⟩, hk⟩ : ∃ p, xs[i]? = some p := ⟨_, List.getElem?_eq_getElem (by omega)⟩
      have hv' : v = .int k t := by
        have : (ivals xs).toArray[i]? = some (.int k t) := by simp [ivals, hk]
        rw [this] at hv
        exact (Option.some.inj hv).symm
      subst hv'
      refine wpAny_mono (turn k t I oI C oC D m₂ _ h tk E' (List.mem_of_getElem? hk) hC hx F N off ne) (fun y s₂ hq => ?_) fun _ _ e => e
      obtain ⟨h', tk', nw, e, F', N', off', hS, hn, t', hy'⟩ := hq
      rw [hn] at N' off' hS
      refine ⟨h', tk', news, e, F', N', off', hS, ?_⟩
      rw [hy']
      have := ih (i + 1) (bs ++ [(g k, t')]) (by omega) (by rw [List.take_add_one, hk]; simp [hb])
      simpa [bvals] using this
  have := key xs.length 0 [] (by omega) (by simp)
  simpa [ivals, bvals] using this
end
theorem behind_KB : True := by
  w_top off
  exact True.intro
-- part KC
theorem bodyB_size : ∀ xs : List (Int × Tok), (∀ x ∈ xs, 0 ≤ x.1 ∧ x.1 ≤ 18446744073709551615) → (((bodyB xs).size : Nat) : Int) = isum vsz xs
  | [], _ => rfl
  | (v, t) :: r, h => by
    have h1 := h _ (.head _)
    have h2 := bodyB_size r fun x hx => h x (.tail _ hx)
    have h3 := vsz_vb h1.1 h1.2
    rw [bodyB_cons, isum_cons, Array.size_append]
    dsimp only at h3 ⊢
    omega
theorem singB_size {p : Int} (hp0 : 0 ≤ p) (hp1 : p < 536870912) : ∀ xs : List (Int × Tok), (∀ x ∈ xs, 0 ≤ x.1 ∧ x.1 ≤ 18446744073709551615) → (((singB p xs).size : Nat) : Int) = vsz (8 * p) * xs.length + isum vsz xs
  | [], _ => by simp [singB, cat, isum]
  | (v, t) :: r, h => by
    have h1 := h _ (.head _)
    have h2 := singB_size hp0 hp1 r fun x hx => h x (.tail _ hx)
    have h3 := vsz_vb h1.1 h1.2
    have h4 := vsz_vb (v := 8 * p) (by omega) (by omega)
    rw [singB_cons, isum_cons, Array.size_append, Array.size_append, List.length_cons]
    rw [show ((r.length + 1 : Nat) : Int) = (r.length : Int) + 1 by omega, Int.mul_add]
    dsimp only at h3 ⊢
    omega
section
variable {prog : Program} {w : World} {A : Around} {E : Value → Shared → Prop} {s : Shared}
theorem join_NE {h₀ : Heap} {L l : Addr} {t : Tok} {e : Nat} {ps : List (Array UInt8 × Tok)} {b : Array UInt8} {led : List (Addr × Obj)} {Q : Value → Shared → Prop} (N : News h₀ L s.heap led) (hm : (l, W.listOf (bvals ps).toArray e) ∈ led) (hb : cat (ps.map (·.1)) = b) (hz : b.size ≤ 16777216)
    (h : ∀ t k, Q (.bytes b t) { s with toks := k }) : wpAny (model prog w) A (call (.builtin "bytes.join") [.bytes #[] t, .ref l]) Q E s := by
  subst hb
  exact join_N N hm hz h
end
section
variable {d d2 : Nat} {f : Addr} {vs : List Value} {prog : Program} {w : World} {p : Program} {loose : List Str} {mean : ExcName → Option Value} {mg mb : Str → Option Value}
  {dp un : Nat} {gd : Option (List Code)} {cn : Str} {cs : Scope} {a : Addr} {ccd : Value} {cl : List (Str × Addr)} {outer : List Env} {A₀ : Around} {base h₀ : Heap} {L : Addr} {m : Str → Option Value} {news led : List (Addr × Obj)} {s : Shared} {Q E : Value → Shared → Prop} {T : List Tab}
theorem Call.useRZX {P : List (Addr × Obj) → Value → Int → Prop} (N : News h₀ L s.heap led) (hl : Led led news T) (C : NoTab news → Call d f vs (news ++ entsOf T) (RZX d2 P news T)) (B : Below A₀ base outer h₀) (F : Fr h₀ L s.heap m) (X : (HD.heap_39 w.params).In h₀) (Tp : Top p loose mean mg mb h₀) (hk : cs.kind = .function)
    (hd : dp + d < recursionLimit) (hu : un + 8 * d < cLine)
    (h : ∀ g G T' oc od fd sl h' tk', (g, (⟨oc, od, .func fd, sl⟩ : Obj)) ∈ G ++ (news ++ entsOf T') → (∀ X val x, P X val x → SizS d2 val x g (G ++ X) T') → TabInv T' → TLe T T' → NoTab G → Fr h₀ L h' m → News h₀ L h' (G ++ (news ++ entsOf T')) → Q (.ref g) { s with heap := h', toks := tk' }) :
    wpAny (model prog w) (ktrTop dp un gd cn cs L a ccd cl outer) (call (.ref f) vs) Q E s :=
  (C hl.noTab).use B F X (hl.eq ▸ N) Tp hk hd hu fun r n' h' tk' hR F' N' => by
    obtain ⟨g, G, T', rfl, rfl, I', le', NG, ⟨oc, od, fd, sl, hf⟩, hS⟩ := hR
    exact h g G T' oc od fd sl h' tk' (List.mem_append_left _ hf) hS I' le' NG F' N'
end
section
variable {prog : Program} {w : World} {A : Around} {E : Value → Shared → Prop} {s : Shared} {t u : Tok} {Q : Value → Shared → Prop} {value slice : PySem.Expr} {h₀ : Heap} {L l : Addr} {e : Nat} {xs : List (Int × Tok)} {led : List (Addr × Obj)} {v : Int} {tv : Tok}
theorem nameOC_C {M : Model} {news : List (Addr × Obj)} {name x : Str} {scope : Scope} {f : Addr} {cdv v : Value} {o : Obj} {pos : Pos} (N : News h₀ L s.heap news) (hm : (L + 1, o) ∈ news) (hd : o.data = .cell (some v)) (h : Q v s) (hc : (cellsFrom (L + 1) scope.names []).lookup x = some (L + 1))
    (hk : scope.kind = .function) (hx : (envOfC name scope L f cdv).kindOf x = some .cell) (hb : (x == ("__debug__" : Str)) = false) : wpAny M A (eval (.Name x pos) (envOfC name scope L f cdv)) Q E s :=
  nameX_C N hc hm hd h hk hx hb
theorem item_iv0 (N : News h₀ L s.heap led) (hm : (l, W.listOf (ivals xs).toArray e) ∈ led) (hx : xs[0]? = some (v, tv)) (h : Q (.int v tv) s)
    (hs : subscripted slice false (.ref l) (.int 0 u) = operate [.ref l, .int 0 u] (getItem (.ref l) (.int 0 u)) := by with_unfolding_all rfl) :
    wpAny (model prog w) A (subscriptTail value slice (.ref l) (.int 0 u)) Q E s := item_iv N hm (by decide) (by decide) hx h hs
end
section
variable {d d2 : Nat} {f : Addr} {vs : List Value} {prog : Program} {w : World} {p : Program} {loose : List Str} {mean : ExcName → Option Value} {mg mb : Str → Option Value}
  {dp un : Nat} {gd : Option (List Code)} {cn : Str} {cs : Scope} {a : Addr} {ccd : Value} {cl : List (Str × Addr)} {outer : List Env} {A₀ : Around} {base h₀ : Heap} {L : Addr} {m : Str → Option Value} {news led G : List (Addr × Obj)} {s : Shared} {Q E : Value → Shared → Prop} {T T₀ : List Tab}
  {xs : List (Array UInt8 × Tok)} {D g : Addr} {e : Nat} {x q : Int}
theorem Call.useBS (N : News h₀ L s.heap ((D, W.listOf (bvals xs).toArray e) :: led)) (hl : Led led news T) (I : TabInv T) (es : ∀ X val x, ZB X q val x → SizS 2 val x g (G ++ X) T₀) (le : TLe T₀ T) (hG : ∀ r ∈ G, r ∈ news) (hxs : ∀ x ∈ xs, x.1.size ≤ 4000) (hlen : xs.length ≤ 4)
    (hres : vsz (8 * q) * (xs.length : Int) + bsum xs = x) (B : Below A₀ base outer h₀) (F : Fr h₀ L s.heap m) (X : (HD.heap_39 w.params).In h₀) (Tp : Top p loose mean mg mb h₀) (hk : cs.kind = .function)
    (hd : dp + 2 < recursionLimit) (hu : un + 8 * 2 < cLine)
    (h : ∀ t h' tk', Fr h₀ L h' m → News h₀ L h' ((D, W.listOf (bvals xs).toArray e) :: news ++ entsOf T) → Q (.int x t) { s with heap := h', toks := tk' }) :
    wpAny (model prog w) (ktrTop dp un gd cn cs L a ccd cl outer) (call (.ref g) [.ref D]) Q E s :=
  Call.useSizI N (Led.cons (NotTab.cls (by intro h; cases h)) hl) I (es [(D, W.listOf (bvals xs).toArray e)] (.ref D) x ⟨xs, ⟨D, e, rfl, .head _, hxs, hlen⟩, hres.symm⟩) le (fun r hr => (List.mem_append.mp hr).elim (fun h => .tail _ (hG r h)) (fun h => by rw [List.mem_singleton.mp h]; exact .head _)) B F X Tp hk hd hu h
end
theorem lines_KC1 : True := by
  (k_with "m call builtin:bytes.join" => (k_here; (with_reducible refine' join_NE ?Nx160 ?mx160 ?ex160 ?zx160 ?_); k_dflt ((case Nx160 => k_asm); (case mx160 => k_mem)); (case ex160 => assumption); (case zx160 => walk_at "c_bsz"); intro _ _; (try dsimp only)))
  (k_with "m call ref" => (k_here; (with_reducible show wpAny _ _ (call (Value.ref 289) _) _ _ _); k_dflt (refine' Call.useRZX ?Nq ?lx161 (fun hnħ => z_BytesTX hnħ ?Ix161 ?p0x161 ?p1x161) ?Bq ?Fq ?Xq ?Tq ?kq ?dq ?uq ?_; (case Nq => k_asm); (case lx161 => walk_at "led"); (case Ix161 => assumption); (case p0x161 => walk_at "c_side"); (case p1x161 => walk_at "c_side")); walk_at "c_gotRZ"))
  (k_with "m eval ListComp" => (refine StopW.mk ?_))
  (k_with "m CompSrc" => (refine StopW.mk ?_))
  (k_with "m CompEnd" => (refine StopW.mk ?_))
  (k_with "m c_memn" => ((repeat' (first | (with_reducible exact List.mem_append_left _ (by assumption)) | (with_reducible refine List.mem_cons_of_mem _ ?_) | (with_reducible refine List.mem_append_right _ ?_))); done))
  (k_with "m c_mems" => ((repeat' (first | (with_reducible exact List.mem_cons_self) | (with_reducible assumption) | (with_reducible refine List.mem_cons_of_mem _ ?_) | (with_reducible refine List.mem_append_right _ ?_))); done))
  (k_with "m eval Name" => ((with_reducible show wpAny _ _ (eval (Expr.Name (Str.ofString "place") _) (compEnvC _ _ _ _)) _ _ _); (refine' lcf_cell ?Nx167 ?cx167 ?mx167 ?dx167 ?_ ?ax167 ?bx167; (case ax167 => with_unfolding_all rfl); (case bx167 => with_unfolding_all rfl); (case Nx167 => k_asm); (case cx167 => with_unfolding_all rfl); (case dx167 => with_reducible assumption); (case mx167 => walk_at "c_mems"))))
  (k_with "m eval Name" => (k_here; k_dflt (refine' nameX_K ?Fx168 ?Xx168 ?Tx168 ?ex168 ?_ ?ax168 ?bx168; (case ax168 => rfl); (case bx168 => rfl); (case Fx168 => k_asm); (case Xx168 => k_asm); (case Tx168 => k_asm); (case ex168 => k_is); k_whole)))
  (k_with "m callWith ref" => (k_here; (with_reducible show wpAny _ _ (callWith _ (Value.ref (@OfNat.ofNat Nat _ _)) _ _ _) _ _ _); k_dflt (first
  | (refine' callWith_K ?k1x169 ?k2x169 ?_; (case k1x169 => k_asm); (case k2x169 => k_is); k_whole)
  | (refine' callWith_K0 ?k1x169 ?k2x169 ?_; (case k1x169 => k_in); (case k2x169 => k_is); k_whole))))
  (k_with "m eval Name" => ((with_reducible show wpAny _ _ (eval (Expr.Name (Str.ofString "place") _) (envOfC _ _ _ _ _)) _ _ _); (refine' nameOC_C ?Nx170 ?mx170 ?dx170 ?_ ?cx170 ?ax170 ?bx170 ?ex170; (case Nx170 => k_asm); (case dx170 => with_reducible assumption); (case mx170 => walk_at "c_mems"); (case ax170 => with_unfolding_all rfl); (case bx170 => with_unfolding_all rfl); (case cx170 => with_unfolding_all rfl); (case ex170 => decide))))
  (k_with "m ite" => (first | (with_reducible refine ite_neg Bool.false_ne_true ?_) | (with_reducible refine ite_pos rfl ?_) | (with_reducible refine ite_pos True.intro ?_)))
  (k_with "m FnAt" => (refine' FnAt.of ?Nx172 ?mx172; (case Nx172 => k_asm); (case mx172 => walk_at "c_mems")))
  (k_with "m c_memr" => ((repeat' (first | assumption | (with_reducible refine List.mem_cons_of_mem _ ?_) | (with_reducible refine List.mem_append_right _ ?_))); done))
  (k_with "m c_es" => (first
  | ((rename (∀ _ _, PP _ _ _ _ → _) => es8ħ); exact es8ħ _ _ ⟨_, ⟨_, _, rfl, by walk_at "c_memr", by assumption, by assumption⟩, rfl⟩)
  | ((rename (∀ _ _, PR _ _ _ _ → _) => es8ħ); exact es8ħ _ _ ⟨_, ⟨_, _, rfl, by walk_at "c_memr", by assumption, by assumption⟩, rfl⟩)
  | ((rename (∀ _ _, ZP _ _ _ _ → _) => es8ħ); exact es8ħ _ _ ⟨_, ⟨_, _, rfl, by walk_at "c_memr", by assumption, by assumption⟩, rfl⟩)
  | ((rename (∀ _ _, ZR _ _ _ _ → _) => es8ħ); exact es8ħ _ _ ⟨_, ⟨_, _, rfl, by walk_at "c_memr", by assumption, by assumption⟩, rfl⟩)
  | ((rename (∀ _ _, PStr _ _ _ _ → _) => es8ħ); exact es8ħ _ _ ⟨_, _, rfl, by walk_at "c_side", rfl⟩)
  | ((rename (∀ _ _, PBy _ _ _ _ → _) => es8ħ); exact es8ħ _ _ ⟨_, _, rfl, by walk_at "c_side", rfl⟩)))
  (k_with "m subscriptTail" => (k_here; (with_reducible show wpAny _ _ (subscriptTail _ _ (Value.ref _) (Value.int _ _)) _ _ _); (refine' item_iv0 ?Nx175 ?mx175 ?xx175 ?_; (case xx175 => with_reducible assumption); (case Nx175 => k_asm); (case mx175 => walk_at "c_memn"))))
  (k_with "m binaryOp Mult str int" => (refine mul_e (by walk_at "c_side") (by walk_at "c_side") ?_; intro _ _; (try dsimp only)))
  (k_with "m call ref" => (k_here; (with_reducible show wpAny _ _ (call (Value.ref 354) [_, Value.bool true, Value.bool true]) _ _ _); k_dflt (refine' Call.useRE ?Nq ?lx177 (fun hnħ => c_U64TT hnħ ?Ix177 ?p0x177 ?p1x177) ?Bq ?Fq ?Xq ?Tq ?kq ?dq ?uq ?_; (case Nq => k_asm); (case lx177 => walk_at "led"); (case Ix177 => assumption); (case p0x177 => walk_at "c_side"); (case p1x177 => walk_at "c_side")); walk_at "c_gotRE"))
  (k_with "m call ref" => (k_here; (with_reducible show wpAny _ _ (call (Value.ref 354) [_, Value.bool true, Value.bool false]) _ _ _); k_dflt (refine' Call.useRE ?Nq ?lx178 (fun hnħ => c_U64TF hnħ ?Ix178 ?p0x178 ?p1x178) ?Bq ?Fq ?Xq ?Tq ?kq ?dq ?uq ?_; (case Nq => k_asm); (case lx178 => walk_at "led"); (case Ix178 => assumption); (case p0x178 => walk_at "c_side"); (case p1x178 => walk_at "c_side")); walk_at "c_gotRE"))
  (k_with "m call ref" => (k_here; (with_reducible show wpAny _ _ (call (Value.ref 368) _) _ _ _); k_dflt (refine' Call.useRE ?Nq ?lx179 (fun hnħ => c_StringFF hnħ ?Ix179 ?p0x179 ?p1x179) ?Bq ?Fq ?Xq ?Tq ?kq ?dq ?uq ?_; (case Nq => k_asm); (case lx179 => walk_at "led"); (case Ix179 => assumption); (case p0x179 => walk_at "c_side"); (case p1x179 => walk_at "c_side")); walk_at "c_gotRE"))
  (k_with "m call ref" => (k_here; (with_reducible show wpAny _ _ (call (Value.ref 375) _) _ _ _); k_dflt (refine' Call.useRE ?Nq ?lx180 (fun hnħ => c_BytesFF hnħ ?Ix180 ?p0x180 ?p1x180) ?Bq ?Fq ?Xq ?Tq ?kq ?dq ?uq ?_; (case Nq => k_asm); (case lx180 => walk_at "led"); (case Ix180 => assumption); (case p0x180 => walk_at "c_side"); (case p1x180 => walk_at "c_side")); walk_at "c_gotRE"))
  (k_with "m call ref" => (k_here; (with_reducible show wpAny _ _ (call (Value.ref 275) [_, Value.bool true, Value.bool true]) _ _ _); k_dflt (refine' Call.useRZ ?hPx181 ?Nq ?lx181 (fun hnħ => z_U64TT hnħ ?Ix181 ?p0x181 ?p1x181) ?Bq ?Fq ?Xq ?Tq ?kq ?dq ?uq ?_; (case Nq => k_asm); (case lx181 => walk_at "led"); (case hPx181 => exact ⟨_, _, _, ⟨_, _, rfl, by walk_at "c_memr", by assumption, by assumption⟩, rfl⟩); (case Ix181 => assumption); (case p0x181 => walk_at "c_side"); (case p1x181 => walk_at "c_side")); walk_at "c_gotRZ"))
  (k_with "m call ref" => (k_here; (with_reducible show wpAny _ _ (call (Value.ref 275) [_, Value.bool true, Value.bool false]) _ _ _); k_dflt (refine' Call.useRZ ?hPx182 ?Nq ?lx182 (fun hnħ => z_U64TF hnħ ?Ix182 ?p0x182 ?p1x182) ?Bq ?Fq ?Xq ?Tq ?kq ?dq ?uq ?_; (case Nq => k_asm); (case lx182 => walk_at "led"); (case hPx182 => exact ⟨_, _, _, ⟨_, _, rfl, by walk_at "c_memr", by assumption, by assumption⟩, rfl⟩); (case Ix182 => assumption); (case p0x182 => walk_at "c_side"); (case p1x182 => walk_at "c_side")); walk_at "c_gotRZ"))
  (k_with "m call ref" => (k_here; (with_reducible show wpAny _ _ (call (Value.ref _) [Value.ref _]) _ _ _); k_dflt (refine' Call.useSizI ?Nq ?lx183 ?Ix183 ?ESx183 ?lex183 ?Gx183 ?Bq ?Fq ?Xq ?Tq ?kq ?dq ?uq ?_; (case ESx183 => walk_at "c_es"); (case Nq => k_asm); (case lx183 => walk_at "led"); (case Ix183 => assumption); (case lex183 => walk_at "c_le"); (case Gx183 => walk_at "c_sub")); (case Bq => k_asm); (case Fq => k_asm); (case Xq => k_asm); (case Tq => k_asm); (case kq => first | exact rfl | assumption); (case dq => ktr_room); (case uq => ktr_units); intro _ _ _ _ N9ħ; (try simp only [List.cons_append, List.nil_append, List.append_assoc] at N9ħ); (try dsimp only); (try k_sweep)))
  exact True.intro
section
variable {news : List (Addr × Obj)} {t : Tok} {T : List Tab} {p : Int} {xs r : List (Int × Tok)} {v : Int} {tv : Tok} {l : Addr} {e : Nat}
set_option maxHeartbeats 8000000 in
theorem c_law_rows (NT : NoTab news) (I : TabInv T) (hp0 : 1 ≤ p) (hp1 : p < 536870912) (hl : (l, W.listOf (ivals xs).toArray e) ∈ news) (hx : ∀ x ∈ xs, 0 ≤ x.1 ∧ x.1 ≤ 18446744073709551615) (hlen : xs.length ≤ 4) (hxs : xs = (v, tv) :: r) :
    Call 20 415 [.int p t, .ref l] (news ++ entsOf T) (RT news T IsT) := by
  have hz8 : (vb (8 * p)).size ≤ 10 := vb_size_le (by omega)
  have hsum := isum_le xs hlen
  have hv := hx (v, tv) (by rw [hxs]; exact .head _)
  have hv0 := hv.1
  have hv1 := hv.2
  dsimp only at hv0 hv1
  have hx0 : xs[0]? = some (v, tv) := by rw [hxs]; rfl
  have hz82 : (vb (8 * p + 2)).size ≤ 10 := vb_size_le (by omega)
  have hzs : (vb (isum vsz xs)).size ≤ 10 := vb_size_le (by omega)
  have ht2 := vsz_tag (p := p) (w := 2) (by omega) (by omega)
  have hbs := bodyB_size xs hx
  have hsg := singB_size (by omega) hp1 xs hx
  have hbz : (bodyB xs).size ≤ 40 := by omega
  have hsz : (singB p xs).size ≤ 100 := by
    have h1 := vsz_pos (8 * p)
    have h2 := vsz_le (8 * p)
    have h3 : vsz (8 * p) * xs.length ≤ 10 * 4 := Int.mul_le_mul h2 (by omega) (by omega) (by omega)
    omega
  have v1 := vsz_vb (v := 8 * p) (by omega) (by omega)
  have v2 := vsz_vb (v := 8 * p + 2) (by omega) (by omega)
  have v3 := vsz_vb (v := isum vsz xs) (by omega) (by omega)
  have hpk : (((vb (8 * p + 2) ++ vb (isum vsz xs) ++ bodyB xs).size : Nat) : Int) = isum vsz xs + vsz (isum vsz xs) + vsz (8 * p) := by
    simp only [Array.size_append, Int.natCast_add]
    omega
  obtain ⟨K, hK⟩ : ∃ K, K = (v % 200).toNat := ⟨_, rfl⟩
  have hK2 : K ≤ 200 := by omega
  have hasz : (acuteB K).size ≤ 400 := by rw [acuteB_size]; omega
  have v4 := vsz_vb (v := (acuteB K).size) (by omega) (by omega)
  have hza : (vb ((acuteB K).size : Int)).size ≤ 10 := vb_size_le (by omega)
  have hcs : (((acuteB K).size : Nat) : Int) = ((acuteB K).size : Int) := rfl
  have hoc : (((vb (8 * p + 2) ++ vb ((acuteB K).size : Int) ++ acuteB K).size : Nat) : Int) = vsz (8 * p) + vsz ((acuteB K).size : Int) + ((acuteB K).size : Int) := by
    simp only [Array.size_append, Int.natCast_add]
    omega
  have hfin : ∀ t u : Tok, vsz (8 * p) * (([(acuteB K, t), (#[], u)] : List (Array UInt8 × Tok)).length : Int) + bsum [(acuteB K, t), (#[], u)] = vsz (8 * p) + vsz ((acuteB K).size : Int) + ((acuteB K).size : Int) + vsz (8 * p + 2) + 1 := by
    intro t u
    have h0 : vsz ((#[] : Array UInt8).size : Int) = 1 := by decide
    have h1 : (((#[] : Array UInt8).size : Nat) : Int) = 0 := rfl
    simp only [bsum_cons, bsum_nil, List.length_cons, List.length_nil]
    omega
  subst hK
  have hbs' : Hid _ _ := hbs
  have hsg' : Hid _ _ := hsg
  have hcs' : Hid _ _ := hcs
  have hpk' : Hid _ _ := hpk
  have hoc' : Hid _ _ := hoc
  obtain ⟨his0, his1⟩ := hsum
  clear hpk hoc ht2 hbs hsg v1 v2 v3 v4 hcs
  walk_at "c_inC"
  rename Obj => oc
  rename (_ = Data.cell _) => dc
  change oc.data = Data.cell (some (Value.int p t)) at dc
  rename Fr _ _ _ _ => F1
  change Fr _ _ _ (fun y => if y = Str.ofString "numbers" then some (Value.ref l) else none) at F1
  walk_at "dbg"
  unfold StopW
  refine LCg.ListComp_U (F₀ := by k_asm) (by with_unfolding_all rfl) (by decide) (by rfl) (by decide) (by rfl) ?_
  walk_at "dbg"
  unfold StopW
  k_dflt (refine LCg.CompSrc.ledger (by rfl) (by k_asm) (by k_asm) (List.mem_cons_of_mem _ (List.mem_append_left _ hl)) (by rw [sizeLine_eq]; simp [ivals]; omega) ?_)
  intro g1
  refine comp_B (xs := xs) vb ?_ ?_
  · intro k t' I' oI' C' oC' D' m' ys' h' tk' E' hk hC hx' F' N' off' ne'
    have hkb := hx _ hk
    have hk0 := hkb.1
    have hk1 := hkb.2
    dsimp only at hk0 hk1
    walk_at "dbg"
    unfold StopW
    exact LCg.CompEnd.intro (by k_asm) (by k_asm) _ (fun p hp => hp) off' (Or.inr ⟨_, List.mem_cons_of_mem _ (List.mem_append_left _ hl), rfl, _, rfl⟩) ⟨rfl, _, rfl⟩
  intro bs1 hb1 D1 hh1 tk1 F1 N1 off1
  have hcat1 : cat (bs1.map (·.1)) = bodyB xs := by rw [hb1]; rfl
  change News _ _ _ ((D1, W.listOf (bvals bs1).toArray (bvals bs1).length) :: _) at N1
  walk_at "dbg"
  unfold StopW
  refine LCg.ListComp_U (F₀ := by k_asm) (by with_unfolding_all rfl) (by decide) (by rfl) (by decide) (by rfl) ?_
  walk_at "dbg"
  unfold StopW
  k_dflt (refine LCg.CompSrc.ledger (its := (ivals xs).toArray) (k := e) (by rfl) (by k_asm) (by k_asm) (by k_mem) (by rw [sizeLine_eq]; simp [ivals]; omega) ?_)
  intro g2
  dsimp only
  refine comp_B (xs := xs) (fun k => vb (8 * p) ++ vb k) ?_ ?_
  · intro k t' I' oI' C' oC' D' m' ys' h' tk' E' hk hC hx' F' N' off' ne'
    have hkb := hx _ hk
    have hk0 := hkb.1
    have hk1 := hkb.2
    dsimp only at hk0 hk1
    have hkz : (vb k).size ≤ 10 := vb_size_le hk1
    walk_at "dbg"
    unfold StopW
    exact LCg.CompEnd.intro (by k_asm) (by k_asm) _ (fun p hp => hp) off' (Or.inr ⟨_, by walk_at "c_memn", rfl, _, rfl⟩) ⟨rfl, _, rfl⟩
  intro bs2 hb2 D2 hh2 tk2 F2 N2 off2
  have hcat2 : cat (bs2.map (·.1)) = singB p xs := by rw [hb2]; rfl
  change News _ _ _ ((D2, W.listOf (bvals bs2).toArray (bvals bs2).length) :: _) at N2
  walk_at "dbg"
  refine' Call.useBS (xs := [(acuteB (v % 200).toNat, _), (#[], _)]) ?N ?l ?I ?es ?le ?G ?xs ?len (hfin _ _) ?Bq ?Fq ?Xq ?Tq ?kq ?dq ?uq ?_
  (case N => k_asm)
  (case l => walk_at "led")
  (case I => assumption)
  (case es => assumption)
  (case le => walk_at "c_le")
  (case G => exact fun q hq => List.mem_append_left _ hq)
  (case xs => (intro x hx; simp only [List.mem_cons, List.not_mem_nil, or_false] at hx; rcases hx with rfl | rfl; (show (acuteB _).size ≤ 4000; omega); (show (#[] : Array UInt8).size ≤ 4000; decide)))
  (case len => exact Nat.le_of_ble_eq_true rfl)
  (case Bq => k_asm)
  (case Fq => k_asm)
  (case Xq => k_asm)
  (case Tq => k_asm)
  (case kq => exact rfl)
  (case dq => ktr_room)
  (case uq => ktr_units)
  intro t9 h9 tk9 F9 N9
  simp only [List.cons_append, List.nil_append, List.append_assoc] at N9
  walk_at "dbg"
  walk_at "c_outT"
  exact rfl
end
theorem behind_KC : True := by
  w_top off
  exact True.intro
-- part KD
/-! the law -/
noncomputable def T0 : List Tab := topTabs.map fun P => ⟨P, []⟩
theorem T0_inv : TabInv T0 := by
  refine ⟨by decide, fun P hP => ?_, fun t ht e he => ?_⟩
  · exact List.mem_map.mpr ⟨⟨P, []⟩, List.mem_map.mpr ⟨P, hP, rfl⟩, rfl⟩
  · obtain ⟨P, _, rfl⟩ := List.mem_map.mp ht
    exact absurd he List.not_mem_nil
theorem T0_ents : entsOf T0 = [(370, tabObj #[]), (363, tabObj #[]), (284, tabObj #[]), (384, tabObj #[]), (328, tabObj #[]), (321, tabObj #[]), (256, tabObj #[]), (249, tabObj #[]), (307, tabObj #[]), (200, tabObj #[])] := rfl
theorem ints_ivals : ∀ {vs : List Value} {ns : List Int}, IntsAre vs ns → ∃ xs : List (Int × Tok), vs = ivals xs
  | _, _, .nil => ⟨[], rfl⟩
  | _, _, .cons x t r => by
    obtain ⟨xs, rfl⟩ := ints_ivals r
    exact ⟨(x, t) :: xs, rfl⟩
noncomputable def JP (h₀ : Heap) (L : Addr) (m : Str → Option Value) (news : List (Addr × Obj)) (s : Shared) (v : Value) (s' : Shared) : Prop :=
  ∃ x t h' k, v = .int x t ∧ 1 ≤ x ∧ x < 536870912 ∧ s' = { s with heap := h', toks := k } ∧ Fr h₀ L h' m ∧ News h₀ L h' news
section
variable {M : Model} {A : Around} {E : Value → Shared → Prop} {s : Shared} {env : Env} {test body orelse : PySem.Expr} {pos : Pos} {Q : Value → Shared → Prop} {h₀ h' : Heap} {L : Addr} {m : Str → Option Value} {news : List (Addr × Obj)} {x : Int} {t : Tok} {k : Nat}
theorem JP.mk (h1 : 1 ≤ x) (h2 : x < 536870912) (F : Fr h₀ L h' m) (N : News h₀ L h' news) : JP h₀ L m news s (.int x t) { s with heap := h', toks := k } := ⟨x, t, h', k, rfl, h1, h2, rfl, F, N⟩
theorem ifJoinP (h1 : wpAny M A (isTrue test env (eval test env)) (fun c s₂ => if c then wpAny M A (eval body env) (JP h₀ L m news s) E s₂ else wpAny M A (eval orelse env) (JP h₀ L m news s) E s₂) E s)
    (h2 : ∀ x t h' k, 1 ≤ x → x < 536870912 → Fr h₀ L h' m → News h₀ L h' news → Q (.int x t) { s with heap := h', toks := k }) : wpAny M A (eval (.IfExp test body orelse pos) env) Q E s :=
  wpAny_mono (IfExp_ h1) (fun v s' h => by obtain ⟨x, t, h', k, rfl, a, b, rfl, F, N⟩ := h; exact h2 x t h' k a b F N) fun _ _ e => e
end
section
variable {prog : Program} {w : World} {A : Around} {E : Value → Shared → Prop} {s : Shared} {value slice : PySem.Expr} {h₀ : Heap} {L D : Addr} {k : Int} {u a1 a2 a3 a4 a5 a6 a7 : Tok} {b1 b2 b3 b4 b5 b6 b7 : Int} {n : Nat} {led : List (Addr × Obj)} {Q : Value → Shared → Prop}
theorem item_seven (N : News h₀ L s.heap led) (hm : (D, ({ cls := .type "tuple", data := .seq #[.int b1 a1, .int b2 a2, .int b3 a3, .int b4 a4, .int b5 a5, .int b6 a6, .int b7 a7] n } : Obj)) ∈ led) (h0 : 0 ≤ k) (h7 : k < 7)
    (hb : (1 ≤ b1 ∧ b1 < 536870912) ∧ (1 ≤ b2 ∧ b2 < 536870912) ∧ (1 ≤ b3 ∧ b3 < 536870912) ∧ (1 ≤ b4 ∧ b4 < 536870912) ∧ (1 ≤ b5 ∧ b5 < 536870912) ∧ (1 ≤ b6 ∧ b6 < 536870912) ∧ (1 ≤ b7 ∧ b7 < 536870912))
    (h : ∀ x t, 1 ≤ x → x < 536870912 → Q (.int x t) s)
    (hs : subscripted slice false (.ref D) (.int k u) = operate [.ref D, .int k u] (getItem (.ref D) (.int k u)) := by with_unfolding_all rfl) :
    wpAny (model prog w) A (subscriptTail value slice (.ref D) (.int k u)) Q E s := by
  obtain ⟨⟨p1, q1⟩, ⟨p2, q2⟩, ⟨p3, q3⟩, ⟨p4, q4⟩, ⟨p5, q5⟩, ⟨p6, q6⟩, ⟨p7, q7⟩⟩ := hb
  have hk : k = 0 ∨ k = 1 ∨ k = 2 ∨ k = 3 ∨ k = 4 ∨ k = 5 ∨ k = 6 := by omega
  rcases hk with rfl | rfl | rfl | rfl | rfl | rfl | rfl
  · exact item_tupleT (N.isTup hm) (by decide) (by decide) rfl rfl (h _ _ p1 q1) hs
  · exact item_tupleT (N.isTup hm) (by decide) (by decide) rfl rfl (h _ _ p2 q2) hs
  · exact item_tupleT (N.isTup hm) (by decide) (by decide) rfl rfl (h _ _ p3 q3) hs
  · exact item_tupleT (N.isTup hm) (by decide) (by decide) rfl rfl (h _ _ p4 q4) hs
  · exact item_tupleT (N.isTup hm) (by decide) (by decide) rfl rfl (h _ _ p5 q5) hs
  · exact item_tupleT (N.isTup hm) (by decide) (by decide) rfl rfl (h _ _ p6 q6) hs
  · exact item_tupleT (N.isTup hm) (by decide) (by decide) rfl rfl (h _ _ p7 q7) hs
theorem item_two0 (N : News h₀ L s.heap led) (hm : (D, ({ cls := .type "tuple", data := .seq #[.int b1 a1, .int b2 a2] n } : Obj)) ∈ led) (hk : k = 0) (h : Q (.int b1 a1) s)
    (hs : subscripted slice false (.ref D) (.int k u) = operate [.ref D, .int k u] (getItem (.ref D) (.int k u)) := by with_unfolding_all rfl) :
    wpAny (model prog w) A (subscriptTail value slice (.ref D) (.int k u)) Q E s := by
  subst hk
  exact item_tupleT (N.isTup hm) (by decide) (by decide) rfl rfl h hs
theorem item_two1 (N : News h₀ L s.heap led) (hm : (D, ({ cls := .type "tuple", data := .seq #[.int b1 a1, .int b2 a2] n } : Obj)) ∈ led) (hk : k = 1) (h : Q (.int b2 a2) s)
    (hs : subscripted slice false (.ref D) (.int k u) = operate [.ref D, .int k u] (getItem (.ref D) (.int k u)) := by with_unfolding_all rfl) :
    wpAny (model prog w) A (subscriptTail value slice (.ref D) (.int k u)) Q E s := by
  subst hk
  exact item_tupleT (N.isTup hm) (by decide) (by decide) rfl rfl h hs
theorem item_last {arr : Array Value} {x : Value} (N : News h₀ L s.heap led) (hm : (D, W.listOf (arr.push x) n) ∈ led) (hz : arr.size ≤ 1000) (h : Q x s)
    (hs : subscripted slice false (.ref D) (.int (-1) u) = operate [.ref D, .int (-1) u] (getItem (.ref D) (.int (-1) u)) := by with_unfolding_all rfl) :
    wpAny (model prog w) A (subscriptTail value slice (.ref D) (.int (-1) u)) Q E s :=
  tail_any (N.isList hm).typeIs slot_list_getitem.lookup (wpAny_getItem_list_neg (N.isList hm) (by decide) (by rw [Array.size_push]; omega) (by decide) (by
    rw [Array.size_push, show ((-1 : Int) + ((arr.size + 1 : Nat) : Int)).toNat = arr.size by omega]
    simp) h) hs
end
section
variable {prog : Program} {w : World} {A : Around} {E : Value → Shared → Prop} {s : Shared} {h₀ : Heap} {L l : Addr} {m : Str → Option Value} {news : List (Addr × Obj)} {value slice : PySem.Expr} {xs : List (Int × Tok)} {e : Nat} {t : Tok} {Q : Value → Shared → Prop}
theorem envOf_loc {n : Str} {sc : Scope} {L a : Addr} {c : Value} : (envOf n sc L a c).locals = L := rfl
theorem truthy_ivN {Q : Bool → Shared → Prop} (N : News h₀ L s.heap news) (hm : (l, W.listOf (ivals []).toArray e) ∈ news) (h : ∀ k, Q false { s with toks := k }) : wpAny (model prog w) A (truthy (.ref l)) Q E s :=
  kgr_truthy (vs := []) N hm rfl rfl (by decide) (h _)
theorem truthy_ivC {Q : Bool → Shared → Prop} {z : Int × Tok} {r : List (Int × Tok)} (N : News h₀ L s.heap news) (hm : (l, W.listOf (ivals (z :: r)).toArray e) ∈ news) (hz : (z :: r).length ≤ 1000) (h : ∀ k, Q true { s with toks := k }) : wpAny (model prog w) A (truthy (.ref l)) Q E s :=
  kgr_truthy (vs := ivals (z :: r)) N hm rfl rfl (by simp only [ivals, List.length_map]; omega) (h _)
theorem pick_iv4 : kms_pick (ivals xs).toArray.toList none (some 4) = ivals (xs.take 4) := by
  unfold kms_pick ivals
  simp only [kms_lo, kms_hi, List.drop_zero, Nat.sub_zero, List.map_take]
  rw [if_neg (by decide)]
  exact kmk_take_min _ _
theorem slice_iv4 (F : Fr h₀ L s.heap m) (N : News h₀ L s.heap news) (hm : (l, W.listOf (ivals xs).toArray e) ∈ news) (hz : xs.length ≤ 1000)
    (h : ∀ D h', Fr h₀ L h' m → News h₀ L h' ((D, W.listOf (ivals (xs.take 4)).toArray 0) :: news) → (∀ p ∈ news, p.1 < D) → Q (.ref D) { s with heap := h' })
    (hs : subscripted slice false (.ref l) (.ref s.heap.objs.size) = operate [.ref s.heap.objs.size, .ref l] (getItem (.ref l) (.ref s.heap.objs.size))) (ht : ∀ r, letTemporaryGo value (.ref l) r = pure ()) :
    wpAny (model prog w) A (subscriptTail value slice (.ref l) (.ref s.heap.objs.size)) Q E { s with heap := s.heap.push { cls := .type "slice", data := .fields #[.none, .int 4 t, .none] } } :=
  kms_slice_lit F N (N.isList hm) (by constructor) (by constructor) pick_iv4 h hs ht (by rw [sizeLine_eq]; simp [ivals]; omega)
end
section
variable {d d2 : Nat} {f : Addr} {vs : List Value} {prog : Program} {w : World} {p : Program} {loose : List Str} {mean : ExcName → Option Value} {mg mb : Str → Option Value}
  {dp un : Nat} {gd : Option (List Code)} {cn : Str} {cs : Scope} {a : Addr} {ccd : Value} {cl : List (Str × Addr)} {outer : List Env} {A₀ : Around} {base h₀ : Heap} {L : Addr} {m : Str → Option Value} {news led : List (Addr × Obj)} {s : Shared} {Q E : Value → Shared → Prop} {T : List Tab}
theorem Call.useTrue (N : News h₀ L s.heap led) (hl : Led led news T) (I : TabInv T) (C : NoTab news → Call d f vs (news ++ entsOf T) (RT news T IsT)) (B : Below A₀ base outer h₀) (F : Fr h₀ L s.heap m) (X : (HD.heap_39 w.params).In h₀) (Tp : Top p loose mean mg mb h₀) (hk : cs.kind = .function)
    (hd : dp + d < recursionLimit) (hu : un + 8 * d < cLine)
    (h : ∀ T' h' tk', TabInv T' → TLe T T' → Fr h₀ L h' m → News h₀ L h' (news ++ entsOf T') → Q (.bool true) { s with heap := h', toks := tk' }) :
    wpAny (model prog w) (ktrTop dp un gd cn cs L a ccd cl outer) (call (.ref f) vs) Q E s :=
  Call.useT N hl I C B F X Tp hk hd hu fun r T' h' tk' hr I' le F' N' => by
    have hr : r = .bool true := hr
    subst hr
    exact h T' h' tk' I' le F' N'
end
/-! a statement and the rest, joined; a short range by what holds of the frame -/
noncomputable def EndN (h₀ : Heap) (L : Addr) (s : Shared) (J : (Str → Option Value) → List (Addr × Obj) → Prop) (f : Flow) (s' : Shared) : Prop :=
  f = .next ∧ ∃ h' tk' m' n', s' = { s with heap := h', toks := tk' } ∧ Fr h₀ L h' m' ∧ News h₀ L h' n' ∧ J m' n'
theorem EndN.mk {h₀ h' : Heap} {L : Addr} {s : Shared} {tk' : Nat} {J : (Str → Option Value) → List (Addr × Obj) → Prop} {m' : Str → Option Value} {n' : List (Addr × Obj)} (F : Fr h₀ L h' m') (N : News h₀ L h' n') (hJ : J m' n') : EndN h₀ L s J .next { s with heap := h', toks := tk' } :=
  ⟨rfl, h', tk', m', n', rfl, F, N, hJ⟩
theorem execsJoin {M : Model} {A : Around} {E : Value → Shared → Prop} {s : Shared} {env : Env} {st : Stmt} {rest : List Stmt} {Q : Flow → Shared → Prop} {h₀ : Heap} {L : Addr} {m : Str → Option Value} {J : (Str → Option Value) → List (Addr × Obj) → Prop}
    (_F : Fr h₀ L s.heap m) (h1 : wpAny M A (exec st env) (EndN h₀ L s J) E s)
    (h2 : ∀ h' tk' m' n', Fr h₀ L h' m' → News h₀ L h' n' → J m' n' → wpAny M A (execs rest env) Q E { s with heap := h', toks := tk' }) : wpAny M A (execs (st :: rest) env) Q E s :=
  wpAny_execs_cons (wpAny_mono h1 (fun f s' h => by obtain ⟨rfl, h', tk', m', n', rfl, F, N, hJ⟩ := h; exact h2 h' tk' m' n' F N hJ) fun _ _ e => e)
theorem rr3 {prog : Program} {w : World} {A : Around} {E : Value → Shared → Prop} {s : Shared} {env : Env} {h₀ : Heap} {x : Str} {body : List Stmt} {Q : Flow → Shared → Prop} {I : Addr} {a : Int} {m : Str → Option Value} {nb : List (Addr × Obj)} {P : Nat → (Str → Option Value) → Prop}
    (hI : ∀ p ∈ nb, p.1 ≠ I) (h0 : P 0 m)
    (step : ∀ i m₁ t h tk it, i < 3 → P i m₁ → Fr h₀ env.locals h (fun y => if y = x then some (.int (a + (i : Int)) t) else m₁ y) → News h₀ env.locals h ((I, it) :: nb) →
      wpAny (model prog w) A (execs body env) (EndN h₀ env.locals { s with heap := h, toks := tk } (fun m' n' => n' = (I, it) :: nb ∧ P (i + 1) m')) E { s with heap := h, toks := tk })
    (done : ∀ m₁ h tk, P 3 m₁ → Fr h₀ env.locals h m₁ → News h₀ env.locals h nb → Q .next { s with heap := h, toks := tk }) :
    RangeRest prog w A E h₀ env x body Q s I a 3 3 0 m nb := by
  have key : ∀ k i m, k + i = 3 → P i m → RangeRest prog w A E h₀ env x body Q s I a 3 k i m nb := by
    intro k
    induction k with
    | zero =>
      intro i m hi hP h tk F N
      have hi3 : i = 3 := by omega
      subst hi3
      exact done m h tk hP F N
    | succ k ih =>
      intro i m hi hP t h tk F N
      refine wpAny_mono (step i m t h tk _ (by omega) hP F N) (fun f s' hh => ?_) fun _ _ e => e
      obtain ⟨rfl, h', tk', m', n', rfl, F', N', rfl, hP'⟩ := hh
      exact ⟨h', tk', m', nb, rfl, F', N', hI, ih (i + 1) m' (by omega) hP'⟩
  exact key 3 0 m rfl h0
theorem grown_of {h₀ h : Heap} {L : Addr} {T : List Tab} (I : TabInv T) (N : News h₀ L h (entsOf T)) : ∀ l : List (Addr × Addr), (∀ q ∈ l, q.2 ∈ topTabs) → GrownAll l h
  | [], _ => True.intro
  | q :: r, hl => by
    obtain ⟨t, ht, e⟩ := List.mem_map.mp (I.2.1 q.2 (hl q (.head _)))
    have hm := tab_mem ht
    rw [e] at hm
    exact ⟨GrownAt.of N hm, grown_of I N r fun x hx => hl x (.tail _ hx)⟩
theorem ents_neI {h₀ h : Heap} {L a : Addr} {oI : Obj} {T : List Tab} {led : List (Addr × Obj)} (hc : oI.cls = .type "list_iterator") (I : TabInv T) (N : News h₀ L h led) (hm : (a, oI) ∈ led) (hs : ∀ p ∈ entsOf T, p ∈ led) : ∀ p ∈ entsOf T, p.1 ≠ a := fun p hp e => by
  have h1 := (N _ hm).1
  have h2 := (N p (hs p hp)).1
  rw [e] at h2
  have h3 : p.2 = oI := Option.some.inj (h2.symm.trans h1)
  rcases ents_cls I hp with h | h
  · rw [h3, hc] at h; cases h
  · rw [h3, hc] at h; exact absurd (Value.type.inj h) (by decide)
theorem ivals_push {zs : List (Int × Tok)} {x : Int} {t : Tok} : (ivals zs).toArray.push (.int x t) = (ivals (zs ++ [(x, t)])).toArray := by simp [ivals]
theorem behind_KD : True := by
  w_top off
  exact True.intro
-- part KE
theorem lines_KE1 : True := by
  (k_with "m subscriptTail" => (k_here; (with_reducible show wpAny _ _ (subscriptTail (Expr.Tuple [_, _, _, _, _, _, _] _ _) _ (Value.ref _) (Value.int _ _)) _ _ _); k_dflt (refine' item_seven ?Nx184 ?mx184 ?ax184 ?bx184 ?xx184 ?_; (case Nx184 => k_asm); (case mx184 => k_mem); (case ax184 => omega); (case bx184 => omega); (case xx184 => decide)); intro _ _ _ _))
  (k_with "m subscriptTail" => (k_here; (with_reducible show wpAny _ _ (subscriptTail (Expr.Tuple [_, _] _ _) _ (Value.ref _) (Value.int _ _)) _ _ _); k_dflt (first
  | (refine' item_two0 ?Nx185 ?mx185 ?ax185 ?_; (case ax185 => exact rfl); (case Nx185 => k_asm); (case mx185 => walk_at "c_mems"))
  | (refine' item_two1 ?Nx185 ?mx185 ?ax185 ?_; (case ax185 => exact rfl); (case Nx185 => k_asm); (case mx185 => walk_at "c_mems")))))
  (k_with "m c_gotTr" => ((case Bq => k_asm); (case Fq => k_asm); (case Xq => k_asm); (case Tq => k_asm); (case kq => first | exact rfl | assumption); (case dq => ktr_room); (case uq => ktr_units); intro _ _ _ _ _ _ N9ħ; (try simp only [List.cons_append, List.nil_append] at N9ħ); (try dsimp only); (try k_sweep)))
  (k_with "m call ref" => (k_here; (with_reducible show wpAny _ _ (call (Value.ref 396) _) _ _ _); k_dflt (refine' Call.useI (c_law_unsigned ?p0x187) ?Bq ?Fq ?Xq ?Nq ?Tq ?kq ?dq ?uq ?_); walk_at "c_asm"; (case p0x187 => walk_at "c_side"); walk_at "c_got"))
  (k_with "m call ref" => (k_here; (with_reducible show wpAny _ _ (call (Value.ref 403) _) _ _ _); k_dflt (refine' Call.useTrue ?Nq ?lx188 ?Ix188 (fun hnħ => c_law_tags hnħ ?Ix188 ?p0x188 ?p1x188 ?p2q ?p3x188) ?Bq ?Fq ?Xq ?Tq ?kq ?dq ?uq ?_; (case Nq => k_asm); (case lx188 => walk_at "led"); (case Ix188 => assumption); (case p0x188 => walk_at "c_side"); (case p1x188 => walk_at "c_side"); (case p2q => walk_at "c_side"); (case p3x188 => walk_at "c_side")); walk_at "c_gotTr"))
  (k_with "m call ref" => (k_here; (with_reducible show wpAny _ _ (call (Value.ref 410) _) _ _ _); k_dflt (refine' Call.useTrue ?Nq ?lx189 ?Ix189 (fun hnħ => c_law_sizes hnħ ?Ix189 ?p0x189 ?p1x189 ?p2q ?p3x189) ?Bq ?Fq ?Xq ?Tq ?kq ?dq ?uq ?_; (case Nq => k_asm); (case lx189 => walk_at "led"); (case Ix189 => assumption); (case p0x189 => walk_at "c_side"); (case p1x189 => walk_at "c_side"); (case p2q => walk_at "c_side"); (case p3x189 => walk_at "c_side")); walk_at "c_gotTr"))
  (k_with "m JP" => (refine' JP.mk ?ax190 ?bx190 ?Fx190 ?Nx190; (case ax190 => omega); (case bx190 => omega); (case Fx190 => k_asm); (case Nx190 => walk_at "c_news")))
  (k_with "m pyIter ref" => ((rename IntsAre _ (List.take 7 _) => hI7ħ); refine StopW.mk ?_))
  (k_with "m subscriptTail Name Slice ref ref" => (k_here; (with_reducible show wpAny _ _ (subscriptTail _ (Expr.Slice _ _ none _) (Value.ref _) (Value.ref _)) _ _ _); k_dflt (refine' slice_iv4 ?Fx192 ?Nx192 ?mx192 ?zx192 ?_ ?sx192 ?tx192; (case Fx192 => k_asm); (case Nx192 => k_asm); (case mx192 => k_mem); (case zx192 => walk_at "c_side"); (case sx192 => with_unfolding_all rfl); (case tx192 => kmk_pure)); intro _ _ _ _ l9ħ; (try k_lt l9ħ); (try k_sweep)))
  (k_with "m pyIter ref" => ((with_reducible show wpAny _ _ (pyIter (Value.ref _)) (fun itħ s₂ => LoopAtV _ _ _ _ _ _ _ _ _ itħ s₂) _ _); k_rangeUnr))
  (k_with "m call ref" => (k_here; (first | (with_reducible show wpAny _ _ (call (Value.ref 58) _) _ _ _) | (with_reducible show wpAny _ _ (call (Value.ref 114) _) _ _ _) | (with_reducible show wpAny _ _ (call (Value.ref 198) [Value.int (_ + _) _]) _ _ _) | (with_reducible show wpAny _ _ (call (Value.ref 198) [Value.int 18446744073709551616 _]) _ _ _)); k_dflt (refine wpAny_call ?_; k_enter)))
  (k_with "m binaryOp Mod str int" => ((first | refine mod_wire (by (rw [show (10 : Nat) ^ 20 = 100000000000000000000 from by decide]; omega)) ?_ | refine mod_value (by (rw [show (10 : Nat) ^ 20 = 100000000000000000000 from by decide]; omega)) ?_); intro _ _ _; (try dsimp only)))
  (k_with "m noteFrame ref" => ((rename RaisedK _ _ _ _ _ _ _ _ => rkXħ); k_dflt (refine' caught_O0 (bmB := [.type "Exception", .type "BaseException", .type "object"]) (newId := "Exception.__new__") ?Kx196 ?Fx196 ?Ux196 ?Rx196 ?Xx196 ?Tx196 ?exx196 ?qx196 ?hbx196 ?_; (case Rx196 => exact rkXħ); (case Kx196 => with_reducible assumption); (case Fx196 => with_reducible assumption); (case Ux196 => with_reducible assumption); (case Xx196 => k_asm); (case Tx196 => k_asm); (case exx196 => k_is); (case qx196 => k_exc); (case hbx196 => rfl); k_whole); intro _ n₂ _ N₂ _ _; (try k_sweep)))
  (k_with "m truthy ref" => (k_here; (with_reducible show wpAny _ _ (truthy (Value.ref _)) _ _ _); (first | (refine' truthy_ivN ?Nx197 ?mx197 ?_; (case Nx197 => k_asm); (case mx197 => walk_at "c_mems")) | (refine' truthy_ivC ?Nx197 ?mx197 ?zx197 ?_; (case Nx197 => k_asm); (case mx197 => walk_at "c_mems"); (case zx197 => assumption))); intro _; (try dsimp only)))
  (k_with "m call ref" => (k_here; (with_reducible show wpAny _ _ (call (Value.ref 415) _) _ _ _); k_dflt (refine' Call.useTrue ?Nq ?lx198 ?Ix198 (fun hnħ => c_law_rows (xs := List.take 4 _) (tv := _) (r := _) hnħ ?Ix198 ?p0x198 ?p1x198 ?p2q ?p3x198 ?p4x198 ?p5x198) ?Bq ?Fq ?Xq ?Tq ?kq ?dq ?uq ?_; (case Nq => k_asm); (case lx198 => walk_at "led"); (case Ix198 => assumption); (case p0x198 => walk_at "c_side"); (case p1x198 => walk_at "c_side"); (case p2q => exact List.mem_cons_self); (case p3x198 => assumption); (case p4x198 => exact List.length_take_le 4 _); (case p5x198 => exact List.take_succ_cons)); walk_at "c_gotTr"))
  (k_with "m execs cons" => ((first | (with_reducible show wpAny _ _ (execs (Stmt.For _ _ _ _ _ :: _) _) _ _ _) | (with_reducible show wpAny _ _ (execs (Stmt.If (Expr.BoolOp BoolOp.And _ _) _ _ _ :: _) _) _ _ _)); refine StopW.mk ?_))
  (k_with "m RangeRest" => (refine StopW.mk ?_))
  (k_with "m GrownAll" => (refine StopW.mk ?_))
  (k_with "m eval Call Name" => ((with_reducible show wpAny _ _ (eval (Expr.Call (Expr.Name _ _) _ _ _) _) _ _ _); (first | (with_reducible show wpAny _ _ (eval (Expr.Call (Expr.Name (Str.ofString "UInt64ByteSize") _) _ _ _) _) _ _ _) | (with_reducible show wpAny _ _ (eval (Expr.Call (Expr.Name (Str.ofString "_VarUInt64ByteSizeNoTag") _) _ _ _) _) _ _ _) | (with_reducible show wpAny _ _ (eval (Expr.Call (Expr.Name (Str.ofString "TagByteSize") _) _ _ _) _) _ _ _)); k_dflt (refine Call_ ?_)))
  (k_with "m subscriptTail Name Constant ref int" => ((with_reducible show wpAny _ _ (subscriptTail _ _ (Value.ref _) (Value.int 0 _)) _ _ _); (refine' item_iv0 ?Nx203 ?mx203 ?xx203 ?_; (case xx203 => with_reducible assumption); (case Nx203 => k_asm); (case mx203 => walk_at "c_mems"))))
  (k_with "m subscriptTail Name UnaryOp ref int" => ((with_reducible show wpAny _ _ (subscriptTail (Expr.Name (Str.ofString "numbers") _) _ _ _) _ _ _); (refine StopW.mk ?_)))
  (k_with "m eval IfExp" => (first | ((rename IntsAre _ (List.take 7 _) => hI7ħ); refine StopW.mk ?_) | (refine IfExp_ ?_)))
  exact True.intro
set_option maxHeartbeats 40000000 in
theorem holds : PySem.Challenge.rw_jm0050_01.Holds := by
  refine HD ?_
  k_go0
  all_goals (try k_fold)
  rename News _ _ _ _ => N0
  rename Fr _ _ _ _ => F0
  rename IntsAre _ _ => hIA
  rename (Frag.In _ _) => X0
  rw [← T0_ents] at N0
  have I0 := T0_inv
  obtain ⟨xs, hxs⟩ := ints_ivals hIA
  subst hxs
  walk_at "dbg"
  unfold StopW
  rename News _ _ _ _ => N1
  rename Fr _ _ _ _ => F1
  rename_i lN hx1 l1N hx2 hx3
  refine execsJoin F1 (J := fun m n => ∃ T zs e pl tp, n = (lN, W.listOf (ivals zs).toArray e) :: entsOf T ∧ TabInv T ∧ m (Str.ofString "numbers") = some (.ref lN) ∧ m (Str.ofString "place") = some (.int pl tp) ∧ 1 ≤ pl ∧ pl < 536870912 ∧
    (∀ z ∈ zs, 0 ≤ z.1 ∧ z.1 ≤ 18446744073709551615) ∧ zs.length ≤ 7) ?f1 ?f2
  case f1 =>
    ((try (rename (Ground ..) => hq9; clear hq9)); (try (rename (Dflts ..) => hq9; clear hq9)); (try (rename (TopE ..) => hq9; clear hq9)); (try (rename (TopW ..) => hq9; clear hq9)); (try (rename (TabsAt ..) => hq9; clear hq9)); (try (rename (Tables ..) => hq9; clear hq9)); (try (rename (LooseAre ..) => hq9; clear hq9)); (try (rename (Heap.CodeRec ..) => hq9; clear hq9)); (try (rename (Flt.MathXP ..) => hq9; clear hq9)); (try (rename (WData.layableAll _ = _) => hq9; clear hq9)); (try (rename (Well ..) => hq9; clear hq9)); (try (rename (Reads ..) => hq9; clear hq9)); (try (rename (ReadsAllW ..) => hq9; clear hq9)); (try (rename (WShape.hasAll .. = _) => hq9; clear hq9)); (try (rename (PyData.layable0 _ = _) => hq9; clear hq9)); (try (rename (PyData.layableAll0 _ = _) => hq9; clear hq9)); (try (rename (Spec.Shape.has .. = _) => hq9; clear hq9)); (try (rename (_ < Array.size _ ∧ _) => hq9; clear hq9)); (repeat ((rename CodeHd _ _ _ => hq9); clear hq9)); (repeat ((rename ReadsAll _ _ _ _ => hq9); clear hq9)); (try clear hT8))
    refine For_turns (env := envOf _ _ _ _ _) F1 ?_ (fun _ => rfl)
    walk_at "dbg"
    unfold StopW
    rename News _ _ _ _ => N2
    rename Fr _ _ _ _ => F2
    rename Addr => DS
    rename IntsAre _ (List.take 7 _) => hI7
    obtain ⟨ys, hys⟩ := ints_ivals hI7
    subst hys
    have hy7 : ys.length ≤ 7 := by
      have h1 := hI7.length
      have h2 := List.length_take_le 7 ‹List Int›
      simp only [ivals, List.length_map] at h1
      omega
    have hne : @Ne Nat lN DS := by omega
    refine iter_listTurns (n := 0) (by rfl) F2 N2 (.head _) rfl rfl fun I hI => rest_inv (fun p : Int × Tok => Value.int p.1 p.2) (fun r m nx => ∃ T zs e pl tp, nx = (DS, W.listOf (ivals ys).toArray 0) :: (lN, W.listOf (ivals zs).toArray e) :: entsOf T ∧ TabInv T ∧ m (Str.ofString "numbers") = some (.ref lN) ∧ m (Str.ofString "place") = some (.int pl tp) ∧ 1 ≤ pl ∧ pl < 536870912 ∧
      (∀ z ∈ zs, 0 ≤ z.1 ∧ z.1 ≤ 18446744073709551615) ∧ zs.length + r.length = ys.length) ?_ ?_ ys _ _ ⟨T0, [], 0, 1, _, rfl, I0, rfl, rfl, by decide, by decide, (fun _ h => nomatch h), by simp⟩ (.head _) (fun p hp => Nat.ne_of_lt (hI p hp))
    · rintro ⟨v, tv⟩ r m₁ nx oI h₁ tk₁ ⟨T, zs, e, pl, tp, rfl, I1, hm1, hm2, hp0, hp1, hz, hlen⟩ hc hl hI' F₁ N₁
      have hIl : @Ne Nat lN I := hI' (lN, _) (.tail _ (.head _))
      have hID : @Ne Nat DS I := hI' (DS, _) (.head _)
      have hnI : NotTab oI := NotTab.cls (by rw [hc]; intro h; cases h)
      have hz7 : zs.length ≤ 7 := by omega
      have hsz : (ivals zs).length ≤ 1000 := by simp only [ivals, List.length_map]; omega
      clear F2 N2
      rw [envOf_loc] at F₁ N₁
      walk_at "dbg"
      unfold StopW
      rename News _ _ _ _ => N3
      rename Fr _ _ _ _ => F3
      refine' ifJoinP (news := (I, oI) :: (DS, W.listOf (ivals ys).toArray 0) :: (lN, W.listOf (ivals zs).toArray e) :: entsOf T) ?h1 ?h2
      (case h1 => walk_at "dbg")
      intro pl2 tp2 h2 k2 hq0 hq1 F4 N4
      have hlb := lawU_bd (r := v / 2 % 1180591620717411303424) (by omega)
      have hlb0 := hlb.1
      have hlb1 := hlb.2
      clear F3 N3
      walk_at "dbg"
      unfold StopW
      k_dflt (refine' item_last ?N ?m ?z ?_)
      (case N => k_asm)
      (case m => k_mem)
      (case z => (simp only [ivals, List.size_toArray, List.length_map]; omega))
      walk_at "dbg"
      rename News _ _ _ _ => N9
      rename TabInv _ => I9
      rw [ivals_push] at N9
      have hzz : ∀ t9 : Tok, ∀ z ∈ zs ++ [(lawU (v / 2 % 1180591620717411303424), t9)], 0 ≤ z.1 ∧ z.1 ≤ 18446744073709551615 := fun t9 z hz9 => (List.mem_append.mp hz9).elim (hz z) (fun h => by rw [List.mem_singleton.mp h]; exact ⟨hlb0, hlb1⟩)
      rename Fr _ _ _ _ => F9
      refine stepF F9 N9 (.head _) ?_ ⟨_, _, _, pl2, tp2, rfl, I9, hm1, rfl, hq0, hq1, hzz _, ?_⟩
      · have hE := ents_neI hc I9 N9 (.head _) fun p hp => .tail _ (.tail _ (.tail _ hp))
        exact fun p hp => (List.mem_cons.mp hp).elim (fun h => by rw [h]; exact Ne.symm (Ne.symm hID)) fun hp => (List.mem_cons.mp hp).elim (fun h => by rw [h]; exact hIl) (hE p)
      · simp only [List.length_append, List.length_cons, List.length_nil] at hlen ⊢
        omega
    · rintro m₁ nx h₁ tk₁ ⟨T, zs, e, pl, tp, rfl, I1, hm1, hm2, hp0, hp1, hz, hlen⟩ hl F₁ N₁
      refine EndN.mk (n' := (lN, W.listOf (ivals zs).toArray e) :: entsOf T) F₁ (fun p hp => N₁ p (.tail _ hp)) ⟨T, zs, e, pl, tp, rfl, I1, hm1, hm2, hp0, hp1, hz, ?_⟩
      simp only [List.length_nil] at hlen
      omega
  case f2 =>
    rintro h₁ tk₁ m₁ n₁ F₁ N₁ ⟨T, zs, e, pl, tp, rfl, I1, hm1, hm2, hp0, hp1, hz, hz7⟩
    clear F1 N1
    refine execsJoin F₁ (J := fun m n => m = m₁ ∧ ∃ T, n = (lN, W.listOf (ivals zs).toArray e) :: entsOf T ∧ TabInv T) ?f3 ?f4
    case f3 =>
      ((try (rename (Ground ..) => hq9; clear hq9)); (try (rename (Dflts ..) => hq9; clear hq9)); (try (rename (TopE ..) => hq9; clear hq9)); (try (rename (TopW ..) => hq9; clear hq9)); (try (rename (TabsAt ..) => hq9; clear hq9)); (try (rename (Tables ..) => hq9; clear hq9)); (try (rename (LooseAre ..) => hq9; clear hq9)); (try (rename (Heap.CodeRec ..) => hq9; clear hq9)); (try (rename (Flt.MathXP ..) => hq9; clear hq9)); (try (rename (WData.layableAll _ = _) => hq9; clear hq9)); (try (rename (Well ..) => hq9; clear hq9)); (try (rename (Reads ..) => hq9; clear hq9)); (try (rename (ReadsAllW ..) => hq9; clear hq9)); (try (rename (WShape.hasAll .. = _) => hq9; clear hq9)); (try (rename (PyData.layable0 _ = _) => hq9; clear hq9)); (try (rename (PyData.layableAll0 _ = _) => hq9; clear hq9)); (try (rename (Spec.Shape.has .. = _) => hq9; clear hq9)); (try (rename (_ < Array.size _ ∧ _) => hq9; clear hq9)); (repeat ((rename CodeHd _ _ _ => hq9); clear hq9)); (repeat ((rename ReadsAll _ _ _ _ => hq9); clear hq9)); (try clear hT8))
      ((repeat ((rename Heap.IsList _ _ _ => hq9); clear hq9)); (repeat ((rename IntsAre _ _ => hq9); clear hq9)); (try (rename (_ ∧ AllLt _ _) => hq9; clear hq9)); (repeat ((rename (List.length (List.take _ _) = _) => hq9); clear hq9)); (repeat ((rename (List.length (List.take _ _) ≤ _) => hq9); clear hq9)))
      clear l1N
      generalize ghostOf _ _ = GH at *
      cases zs with
      | nil =>
        walk_at "dbg"
        exact EndN.mk F₁ N₁ ⟨rfl, T, rfl, I1⟩
      | cons z0 r =>
        obtain ⟨v, tv⟩ := z0
        have hx0 : ((v, tv) :: r)[0]? = some (v, tv) := rfl
        have hz4 : ∀ x ∈ List.take 4 ((v, tv) :: r), 0 ≤ x.1 ∧ x.1 ≤ 18446744073709551615 := fun x hx => hz x (List.mem_of_mem_take hx)
        have hv := hz (v, tv) (.head _)
        have hv0 := hv.1
        have hv1 := hv.2
        dsimp only at hv0 hv1
        have hln : ((v, tv) :: r).length ≤ 1000 := by omega
        walk_at "dbg"
        rename News _ _ _ _ => N9
        rename TabInv _ => I9
        exact EndN.mk (by k_asm) (fun p hp => N9 p (.tail _ hp)) ⟨rfl, _, rfl, I9⟩
    case f4 =>
      rintro h₂ tk₂ m₂ n₂ F₂ N₂ ⟨rfl, T, rfl, I2⟩
      clear F₁ N₁ I1
      walk_at "dbg"
      unfold StopW
      rename News _ _ _ _ => N3
      rename Fr _ _ _ _ => F3
      refine execsJoin F3 (J := fun m n => n = entsOf T ∧ ∃ t, m (Str.ofString "refused") = some (.int 3 t)) ?f5 ?f6
      case f5 =>
        ((try (rename (Ground ..) => hq9; clear hq9)); (try (rename (Dflts ..) => hq9; clear hq9)); (try (rename (TopE ..) => hq9; clear hq9)); (try (rename (TopW ..) => hq9; clear hq9)); (try (rename (TabsAt ..) => hq9; clear hq9)); (try (rename (Tables ..) => hq9; clear hq9)); (try (rename (LooseAre ..) => hq9; clear hq9)); (try (rename (Heap.CodeRec ..) => hq9; clear hq9)); (try (rename (Flt.MathXP ..) => hq9; clear hq9)); (try (rename (WData.layableAll _ = _) => hq9; clear hq9)); (try (rename (Well ..) => hq9; clear hq9)); (try (rename (Reads ..) => hq9; clear hq9)); (try (rename (ReadsAllW ..) => hq9; clear hq9)); (try (rename (WShape.hasAll .. = _) => hq9; clear hq9)); (try (rename (PyData.layable0 _ = _) => hq9; clear hq9)); (try (rename (PyData.layableAll0 _ = _) => hq9; clear hq9)); (try (rename (Spec.Shape.has .. = _) => hq9; clear hq9)); (try (rename (_ < Array.size _ ∧ _) => hq9; clear hq9)); (repeat ((rename CodeHd _ _ _ => hq9); clear hq9)); (repeat ((rename ReadsAll _ _ _ _ => hq9); clear hq9)); (try clear hT8))
        ((repeat ((rename Heap.IsList _ _ _ => hq9); clear hq9)); (repeat ((rename IntsAre _ _ => hq9); clear hq9)); (try (rename (_ ∧ AllLt _ _) => hq9; clear hq9)); (repeat ((rename (List.length (List.take _ _) = _) => hq9); clear hq9)); (repeat ((rename (List.length (List.take _ _) ≤ _) => hq9); clear hq9)))
        clear l1N
        generalize ghostOf _ _ = GH at *
        with_unfolding_all refine' For_invVF F3 ?k1 ?k2 ?_
        (case k1 => exact rfl)
        (case k2 => exact rfl)
        refine Call_ ?_
        walk_at "dbg"
        unfold StopW
        (try dsimp only)
        refine rr3 (nb := (lN, W.listOf (ivals zs).toArray e) :: entsOf T) (P := fun i m => m (Str.ofString "numbers") = some (.ref lN) ∧ m (Str.ofString "place") = some (.int pl tp) ∧ ∃ t, m (Str.ofString "refused") = some (.int i t)) ?hI ⟨hm1, hm2, _, rfl⟩ ?step ?done
        case hI =>
          rename (_ ∧ AllLt _ _) => l9
          exact fun p hp => (List.mem_cons.mp hp).elim (fun h => by rw [h]; exact Nat.ne_of_lt l9.1) (fun h => allne_of l9.2 p h)
        case done =>
          rintro m₅ h₅ tk₅ ⟨_, _, t₅, hr₅⟩ F₅ N₅
          exact EndN.mk F₅ (fun p hp => N₅ p (.tail _ hp)) ⟨rfl, t₅, hr₅⟩
        case step =>
          rintro i m₅ t₅ h₅ tk₅ it hi ⟨hn₅, hp₅, u₅, hr₅⟩ F₅ N₅
          rw [envOf_loc] at F₅ N₅ ⊢
          have hi' : i = 0 ∨ i = 1 ∨ i = 2 := by omega
          rcases hi' with rfl | rfl | rfl
          · walk_at "dbg"
            rename Fr _ _ _ _ => F9
            refine' EndN.mk (n' := (_, it) :: (lN, _) :: entsOf T) F9 ?N ⟨rfl, hn₅, hp₅, _, int_eq (by omega)⟩
            (case N => walk_at "c_news")
          · walk_at "dbg"
            rename Fr _ _ _ _ => F9
            refine' EndN.mk (n' := (_, it) :: (lN, _) :: entsOf T) F9 ?N ⟨rfl, hn₅, hp₅, _, int_eq (by omega)⟩
            (case N => walk_at "c_news")
          · cases zs with
            | nil =>
              walk_at "dbg"
              rename Fr _ _ _ _ => F9
              refine' EndN.mk (n' := (_, it) :: (lN, _) :: entsOf T) F9 ?N ⟨rfl, hn₅, hp₅, _, int_eq (by omega)⟩
              (case N => walk_at "c_news")
            | cons z0 r =>
              obtain ⟨v, tv⟩ := z0
              have hx0 : ((v, tv) :: r)[0]? = some (v, tv) := rfl
              have hv := hz (v, tv) (.head _)
              have hv0 := hv.1
              have hv1 := hv.2
              dsimp only at hv0 hv1
              have hln : ((v, tv) :: r).length ≤ 1000 := by omega
              walk_at "dbg"
              rename Fr _ _ _ _ => F9
              refine' EndN.mk (n' := (_, it) :: (lN, _) :: entsOf T) F9 ?N ⟨rfl, hn₅, hp₅, _, int_eq (by omega)⟩
              (case N => walk_at "c_news")
      case f6 =>
        rintro h₃ tk₃ m₃ n₃ F₃ N₃ ⟨rfl, t₃, hr⟩
        clear F3 N3
        walk_at "dbg"
        unfold StopW
        exact grown_of I2 N₃ _ (by decide)
theorem behind_KE : True := by
  w_top off
  exact True.intro
end Mine
theorem PySem.Challenge.cw_jm0050_01_holds : PySem.Challenge.rw_jm0050_01.Holds :=
  Mine.holds
