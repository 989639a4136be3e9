import PyProof.Rows.All
import Wide.All
import OpenK.AllK
import Wide.FinOn
import PyProof.DelItemList
import PyProof.RulesDelMore
import PySem.Challenge.RW_ta0114_01
set_option maxHeartbeats 4000000
set_option Elab.async false
set_option tactic.hygienic false
set_option maxRecDepth 100000
set_option linter.all false
section
open PySem PySem.W PySem.Calls PyProof.Rows
namespace Mine
theorem nn {α:Type _} {a:α} {P:Prop} (h:none=some a):P:=(Option.some_ne_none _ h.symm).elim
theorem nm {α:Type _} {a:α} {P:Prop} (h:a∈([]:List α)):P:=(List.not_mem_nil h).elim
theorem pZ {α:Type} {x:Str} {a:α} {r:List (Str×α)}:List.lookup x ((x,a) :: r)=some a:=by rw [List.lookup_cons,beq_self_eq_true]
theorem sJ {α:Type} {x y:Str} (h:x≠y) {a:α} {r:List (Str×α)}:List.lookup x ((y,a) :: r)=r.lookup x:=by rw [List.lookup_cons,beq_eq_false_iff_ne.mpr h]
theorem ez {α:Type} {x:Str} {a:α} {l:List (Str×α)} (h:l.lookup x=some a):(x,a)∈l:=by
 obtain ⟨l1,l2,rfl,_⟩:=List.lookup_eq_some_iff.mp h
 exact List.mem_append_right _ List.mem_cons_self
theorem zX6 {α β:Type} {f:Str×α→Str×β} {g:Str→α→β} (hf:∀ y a,f (y,a)=(y,g y a)) (x:Str) (l:List (Str×α)):(l.map f).lookup x=(l.lookup x).map (g x):=by
 induction l with
 | nil=>rfl
 | cons p r ih =>
  obtain ⟨y,a⟩:=p
  rw [List.map_cons,hf]
  by_cases hx:x=y
  ·subst hx;rw [pZ,pZ];rfl
  ·rw [sJ hx,sJ hx,ih]
theorem isub {a b:Nat} (h:b≤a):(a:Int) - (b:Int)=((a - b:Nat):Int):=(Int.ofNat_sub h).symm
theorem z25 {c:Nat} (h:97≤c∧c≤122):c - 97 < 26:=Nat.lt_succ_of_le (Nat.sub_le_sub_right h.2 97)
theorem z97 {c:Nat} (h:97≤c∧c≤122):97 + (c - 97)=c:=Nat.add_sub_cancel' h.1
theorem bc {p:Prop} (h:¬ p→False):p:=Classical.byContradiction h
noncomputable section
noncomputable abbrev pw:Program:=PySem.Challenge.pw_ta0114_01
noncomputable def yQl:List Stmt→Nat→Stmt
 | [],_=>default
 | a :: _,0=>a
 | _ :: r,n + 1=>yQl r n
noncomputable def stN (i:Nat):Stmt:=yQl pw.main.body i
noncomputable def fdP (i:Nat):Arguments:=match stN i with | .FunctionDef _ a _ _ _ _ _ _ _ _=>a | _=>default
noncomputable def fdB (i:Nat):List Stmt:=match stN i with | .FunctionDef _ _ b _ _ _ _ _ _ _=>b | _=>[]
noncomputable def fdSc (i:Nat):Scope:=match stN i with | .FunctionDef _ _ _ _ _ _ s _ _ _=>s | _=>default
noncomputable def sv (x:String) (t:Nat):Value:=.str (Str.ofString x) t
noncomputable def de (P:Params) (x:String) (t:Nat) (v:Value):DictEntry:=⟨PyData.keyHash P (Str.ofString x),.str (Str.ofString x) t,v⟩
noncomputable def ie (i:Nat) (x:String) (t:Nat):DictEntry:=⟨Int.ofNat i,.int (Int.ofNat i) t,.str (Str.ofString x) (t + 1)⟩
noncomputable def ies:Nat→List (Nat×String)→List DictEntry
 | _,[]=>[]
 | t,p :: r=>ie p.1 p.2 t :: ies (t + 3) r
noncomputable def yY9 (P:Params):Bool:=!P.followText "set-order"
noncomputable def yJj:List (Nat×String):=[(181,"μ"),(223,"ss"),(304,"i̇"),(329,"ʼn"),(383,"s"),(496,"ǰ"),(837,"ι"),(890," ι"),(912,"ΐ"),(944,"ΰ"),(962,"σ"),(976,"β"),(977,"θ"),(978,"υ"),(979,"ύ"),(980,"ϋ"),(981,"φ"),(982,"π"),(1008,"κ"),(1009,"ρ"),(1010,"σ"),(1013,"ε"),(1415,"եւ"),(7830,"ẖ"),(7831,"ẗ"),(7832,"ẘ"),(7833,"ẙ"),(7834,"aʾ"),(7835,"ṡ"),(8016,"ὐ"),(8018,"ὒ"),(8020,"ὔ"),(8022,"ὖ"),(8064,"ἀι"),(8065,"ἁι"),(8066,"ἂι"),(8067,"ἃι"),(8068,"ἄι"),(8069,"ἅι"),(8070,"ἆι"),(8071,"ἇι"),(8072,"ἀι"),(8073,"ἁι"),(8074,"ἂι"),(8075,"ἃι"),(8076,"ἄι"),(8077,"ἅι"),(8078,"ἆι"),(8079,"ἇι"),(8080,"ἠι")]
noncomputable def yJk:List DictEntry:=ies 416 yJj
noncomputable def yJl:List (Nat×String):=[(8081,"ἡι"),(8082,"ἢι"),(8083,"ἣι"),(8084,"ἤι"),(8085,"ἥι"),(8086,"ἦι"),(8087,"ἧι"),(8088,"ἠι"),(8089,"ἡι"),(8090,"ἢι"),(8091,"ἣι"),(8092,"ἤι"),(8093,"ἥι"),(8094,"ἦι"),(8095,"ἧι"),(8096,"ὠι"),(8097,"ὡι"),(8098,"ὢι"),(8099,"ὣι"),(8100,"ὤι"),(8101,"ὥι"),(8102,"ὦι"),(8103,"ὧι"),(8104,"ὠι"),(8105,"ὡι"),(8106,"ὢι"),(8107,"ὣι"),(8108,"ὤι"),(8109,"ὥι"),(8110,"ὦι"),(8111,"ὧι"),(8114,"ὰι"),(8115,"αι"),(8116,"άι"),(8118,"ᾶ"),(8119,"ᾶι"),(8124,"αι"),(8126,"ι"),(8130,"ὴι"),(8131,"ηι"),(8132,"ήι"),(8134,"ῆ"),(8135,"ῆι"),(8140,"ηι"),(8146,"ῒ"),(8147,"ΐ"),(8150,"ῖ"),(8151,"ῗ"),(8162,"ῢ"),(8163,"ΰ")]
noncomputable def yJm:List DictEntry:=ies 566 yJl
noncomputable def yJn:List (Nat×String):=[(8164,"ῤ"),(8166,"ῦ"),(8167,"ῧ"),(8178,"ὼι"),(8179,"ωι"),(8180,"ώι"),(8182,"ῶ"),(8183,"ῶι"),(8188,"ωι"),(8360,"rs"),(8450,"c"),(8451,"°c"),(8455,"ɛ"),(8457,"°f"),(8459,"h"),(8460,"h"),(8461,"h"),(8464,"i"),(8465,"i"),(8466,"l"),(8469,"n"),(8470,"no"),(8473,"p"),(8474,"q"),(8475,"r"),(8476,"r"),(8477,"r"),(8480,"sm"),(8481,"tel"),(8482,"tm"),(8484,"z"),(8488,"z"),(8492,"b"),(8493,"c"),(8496,"e"),(8497,"f"),(8499,"m"),(8510,"γ"),(8511,"π"),(8517,"d"),(13169,"hpa"),(13171,"au"),(13173,"ov"),(13184,"pa"),(13185,"na"),(13186,"μa"),(13187,"ma"),(13188,"ka"),(13189,"kb"),(13190,"mb")]
noncomputable def yJo:List DictEntry:=ies 716 yJn
noncomputable def yJp:List (Nat×String):=[(13191,"gb"),(13194,"pf"),(13195,"nf"),(13196,"μf"),(13200,"hz"),(13201,"khz"),(13202,"mhz"),(13203,"ghz"),(13204,"thz"),(13225,"pa"),(13226,"kpa"),(13227,"mpa"),(13228,"gpa"),(13236,"pv"),(13237,"nv"),(13238,"μv"),(13239,"mv"),(13240,"kv"),(13241,"mv"),(13242,"pw"),(13243,"nw"),(13244,"μw"),(13245,"mw"),(13246,"kw"),(13247,"mw"),(13248,"kω"),(13249,"mω"),(13251,"bq"),(13254,"c∕kg"),(13255,"co."),(13256,"db"),(13257,"gy"),(13259,"hp"),(13261,"kk"),(13262,"km"),(13271,"ph"),(13273,"ppm"),(13274,"pr"),(13276,"sv"),(13277,"wb"),(64256,"ff"),(64257,"fi"),(64258,"fl"),(64259,"ffi"),(64260,"ffl"),(64261,"st"),(64262,"st"),(64275,"մն"),(64276,"մե"),(64277,"մի")]
noncomputable def yJq:List DictEntry:=ies 866 yJp
noncomputable def yJr:List (Nat×String):=[(64278,"վն"),(64279,"մխ"),(119808,"a"),(119809,"b"),(119810,"c"),(119811,"d"),(119812,"e"),(119813,"f"),(119814,"g"),(119815,"h"),(119816,"i"),(119817,"j"),(119818,"k"),(119819,"l"),(119820,"m"),(119821,"n"),(119822,"o"),(119823,"p"),(119824,"q"),(119825,"r"),(119826,"s"),(119827,"t"),(119828,"u"),(119829,"v"),(119830,"w"),(119831,"x"),(119832,"y"),(119833,"z"),(119860,"a"),(119861,"b"),(119862,"c"),(119863,"d"),(119864,"e"),(119865,"f"),(119866,"g"),(119867,"h"),(119868,"i"),(119869,"j"),(119870,"k"),(119871,"l"),(119872,"m"),(119873,"n"),(119874,"o"),(119875,"p"),(119876,"q"),(119877,"r"),(119878,"s"),(119879,"t"),(119880,"u"),(119881,"v")]
noncomputable def yJs:List DictEntry:=ies 1016 yJr
noncomputable def yJt:List (Nat×String):=[(119882,"w"),(119883,"x"),(119884,"y"),(119885,"z"),(119912,"a"),(119913,"b"),(119914,"c"),(119915,"d"),(119916,"e"),(119917,"f"),(119918,"g"),(119919,"h"),(119920,"i"),(119921,"j"),(119922,"k"),(119923,"l"),(119924,"m"),(119925,"n"),(119926,"o"),(119927,"p"),(119928,"q"),(119929,"r"),(119930,"s"),(119931,"t"),(119932,"u"),(119933,"v"),(119934,"w"),(119935,"x"),(119936,"y"),(119937,"z"),(119964,"a"),(119966,"c"),(119967,"d"),(119970,"g"),(119973,"j"),(119974,"k"),(119977,"n"),(119978,"o"),(119979,"p"),(119980,"q"),(119982,"s"),(119983,"t"),(119984,"u"),(119985,"v"),(119986,"w"),(119987,"x"),(119988,"y"),(119989,"z"),(120016,"a"),(120017,"b")]
noncomputable def yJu:List DictEntry:=ies 1166 yJt
noncomputable def yJv:List (Nat×String):=[(120018,"c"),(120019,"d"),(120020,"e"),(120021,"f"),(120022,"g"),(120023,"h"),(120024,"i"),(120025,"j"),(120026,"k"),(120027,"l"),(120028,"m"),(120029,"n"),(120030,"o"),(120031,"p"),(120032,"q"),(120033,"r"),(120034,"s"),(120035,"t"),(120036,"u"),(120037,"v"),(120038,"w"),(120039,"x"),(120040,"y"),(120041,"z"),(120068,"a"),(120069,"b"),(120071,"d"),(120072,"e"),(120073,"f"),(120074,"g"),(120077,"j"),(120078,"k"),(120079,"l"),(120080,"m"),(120081,"n"),(120082,"o"),(120083,"p"),(120084,"q"),(120086,"s"),(120087,"t"),(120088,"u"),(120089,"v"),(120090,"w"),(120091,"x"),(120092,"y"),(120120,"a"),(120121,"b"),(120123,"d"),(120124,"e"),(120125,"f")]
noncomputable def yJw:List DictEntry:=ies 1316 yJv
noncomputable def yJx:List (Nat×String):=[(120126,"g"),(120128,"i"),(120129,"j"),(120130,"k"),(120131,"l"),(120132,"m"),(120134,"o"),(120138,"s"),(120139,"t"),(120140,"u"),(120141,"v"),(120142,"w"),(120143,"x"),(120144,"y"),(120172,"a"),(120173,"b"),(120174,"c"),(120175,"d"),(120176,"e"),(120177,"f"),(120178,"g"),(120179,"h"),(120180,"i"),(120181,"j"),(120182,"k"),(120183,"l"),(120184,"m"),(120185,"n"),(120186,"o"),(120187,"p"),(120188,"q"),(120189,"r"),(120190,"s"),(120191,"t"),(120192,"u"),(120193,"v"),(120194,"w"),(120195,"x"),(120196,"y"),(120197,"z"),(120224,"a"),(120225,"b"),(120226,"c"),(120227,"d"),(120228,"e"),(120229,"f"),(120230,"g"),(120231,"h"),(120232,"i"),(120233,"j")]
noncomputable def yJy:List DictEntry:=ies 1466 yJx
noncomputable def yJz:List (Nat×String):=[(120234,"k"),(120235,"l"),(120236,"m"),(120237,"n"),(120238,"o"),(120239,"p"),(120240,"q"),(120241,"r"),(120242,"s"),(120243,"t"),(120244,"u"),(120245,"v"),(120246,"w"),(120247,"x"),(120248,"y"),(120249,"z"),(120276,"a"),(120277,"b"),(120278,"c"),(120279,"d"),(120280,"e"),(120281,"f"),(120282,"g"),(120283,"h"),(120284,"i"),(120285,"j"),(120286,"k"),(120287,"l"),(120288,"m"),(120289,"n"),(120290,"o"),(120291,"p"),(120292,"q"),(120293,"r"),(120294,"s"),(120295,"t"),(120296,"u"),(120297,"v"),(120298,"w"),(120299,"x"),(120300,"y"),(120301,"z"),(120328,"a"),(120329,"b"),(120330,"c"),(120331,"d"),(120332,"e"),(120333,"f"),(120334,"g"),(120335,"h")]
noncomputable def yJ0:List DictEntry:=ies 1616 yJz
noncomputable def yJ1:List (Nat×String):=[(120336,"i"),(120337,"j"),(120338,"k"),(120339,"l"),(120340,"m"),(120341,"n"),(120342,"o"),(120343,"p"),(120344,"q"),(120345,"r"),(120346,"s"),(120347,"t"),(120348,"u"),(120349,"v"),(120350,"w"),(120351,"x"),(120352,"y"),(120353,"z"),(120380,"a"),(120381,"b"),(120382,"c"),(120383,"d"),(120384,"e"),(120385,"f"),(120386,"g"),(120387,"h"),(120388,"i"),(120389,"j"),(120390,"k"),(120391,"l"),(120392,"m"),(120393,"n"),(120394,"o"),(120395,"p"),(120396,"q"),(120397,"r"),(120398,"s"),(120399,"t"),(120400,"u"),(120401,"v"),(120402,"w"),(120403,"x"),(120404,"y"),(120405,"z"),(120432,"a"),(120433,"b"),(120434,"c"),(120435,"d"),(120436,"e"),(120437,"f")]
noncomputable def yJ2:List DictEntry:=ies 1766 yJ1
noncomputable def yQm:List (Nat×String):=[(120438,"g"),(120439,"h"),(120440,"i"),(120441,"j"),(120442,"k"),(120443,"l"),(120444,"m"),(120445,"n"),(120446,"o"),(120447,"p"),(120448,"q"),(120449,"r"),(120450,"s"),(120451,"t"),(120452,"u"),(120453,"v"),(120454,"w"),(120455,"x"),(120456,"y"),(120457,"z"),(120488,"α"),(120489,"β"),(120490,"γ"),(120491,"δ"),(120492,"ε"),(120493,"ζ"),(120494,"η"),(120495,"θ"),(120496,"ι"),(120497,"κ"),(120498,"λ"),(120499,"μ"),(120500,"ν"),(120501,"ξ"),(120502,"ο"),(120503,"π"),(120504,"ρ"),(120505,"θ"),(120506,"σ"),(120507,"τ"),(120508,"υ"),(120509,"φ"),(120510,"χ"),(120511,"ψ"),(120512,"ω"),(120531,"σ"),(120546,"α"),(120547,"β"),(120548,"γ"),(120549,"δ")]
noncomputable def yQ7:List DictEntry:=ies 1916 yQm
noncomputable def yQn:List (Nat×String):=[(120550,"ε"),(120551,"ζ"),(120552,"η"),(120553,"θ"),(120554,"ι"),(120555,"κ"),(120556,"λ"),(120557,"μ"),(120558,"ν"),(120559,"ξ"),(120560,"ο"),(120561,"π"),(120562,"ρ"),(120563,"θ"),(120564,"σ"),(120565,"τ"),(120566,"υ"),(120567,"φ"),(120568,"χ"),(120569,"ψ"),(120570,"ω"),(120589,"σ"),(120604,"α"),(120605,"β"),(120606,"γ"),(120607,"δ"),(120608,"ε"),(120609,"ζ"),(120610,"η"),(120611,"θ"),(120612,"ι"),(120613,"κ"),(120614,"λ"),(120615,"μ"),(120616,"ν"),(120617,"ξ"),(120618,"ο"),(120619,"π"),(120620,"ρ"),(120621,"θ"),(120622,"σ"),(120623,"τ"),(120624,"υ"),(120625,"φ"),(120626,"χ"),(120627,"ψ"),(120628,"ω"),(120647,"σ"),(120662,"α"),(120663,"β")]
noncomputable def yQ8:List DictEntry:=ies 2066 yQn
noncomputable def zX7:List (Nat×String):=[(120664,"γ"),(120665,"δ"),(120666,"ε"),(120667,"ζ"),(120668,"η"),(120669,"θ"),(120670,"ι"),(120671,"κ"),(120672,"λ"),(120673,"μ"),(120674,"ν"),(120675,"ξ"),(120676,"ο"),(120677,"π"),(120678,"ρ"),(120679,"θ"),(120680,"σ"),(120681,"τ"),(120682,"υ"),(120683,"φ"),(120684,"χ"),(120685,"ψ"),(120686,"ω"),(120705,"σ"),(120720,"α"),(120721,"β"),(120722,"γ"),(120723,"δ"),(120724,"ε"),(120725,"ζ"),(120726,"η"),(120727,"θ"),(120728,"ι"),(120729,"κ"),(120730,"λ"),(120731,"μ"),(120732,"ν"),(120733,"ξ"),(120734,"ο"),(120735,"π"),(120736,"ρ"),(120737,"θ"),(120738,"σ"),(120739,"τ"),(120740,"υ"),(120741,"φ"),(120742,"χ")]
noncomputable def yJ3:List (Nat×String):=zX7++[(120743,"ψ"),(120744,"ω"),(120763,"σ")]
noncomputable def yQ9:List DictEntry:=ies 2216 zX7++[ie 120743 "ψ" 2356,ie 120744 "ω" 2358,ie 120763 "σ" 2360]
noncomputable def datF:List (Nat×String):=yJj++(yJl++(yJn++(yJp++(yJr++(yJt++(yJv++(yJx++(yJz++(yJ1++(yQm++(yQn++(yJ3))))))))))))
noncomputable def sK:List DictEntry:=yJk++(yJm++(yJo++(yJq++(yJs++(yJu++(yJw++(yJy++(yJ0++(yJ2++(yQ7++(yQ8++(yQ9))))))))))))
noncomputable def subF (k:Nat):Obj:=⟨.type "dict",none,.dict ((sK.drop (17 * k)).take 17).toArray 17,#[]⟩
noncomputable def oP11 (P:Params):Obj:=⟨(.type "tuple"),none,(.seq #[] 0),#[]⟩
noncomputable def oP12 (P:Params):Obj:=⟨.none,none,(.fields #[]),#[]⟩
noncomputable def oP13 (P:Params):Obj:=⟨(.type "code"),none,(.fields #[(sv "<module>" 182),(sv "<module>" 183),(sv "/claim/cut.py" 184),(.int 1 0),(.int 0 0),(.int 0 0),(.int 0 0),(.int 0 0),(.ref 11),(.bool false),(.int 181 0),(.ref 12),.none,.none,.none,.none,(.int 185 0),(.int 1 0),(sv "/claim/cut.py" 186)]),#[]⟩
noncomputable def oP14 (P:Params):Obj:=⟨(.type "frame"),none,.plain,#[(some (.ref 13)),(some (.ref 3)),(some (.ref 3)),none,(some (sv "__main__" 164)),none,(some (.ref 0))]⟩
noncomputable def tA (P:Params):BT:=(.node (PySem.W.boot_o_0 P) (.node (PySem.W.boot_o_1 P) (.node (PySem.W.boot_o_3 P) (.node (PySem.W.boot_o_7 P) .nil .nil) (.node (oP11 P) .nil .nil)) (.node (PySem.W.boot_o_5 P) (.node (PySem.W.boot_o_9 P) .nil .nil) (.node (oP13 P) .nil .nil))) (.node (PySem.W.boot_o_2 P) (.node (PySem.W.boot_o_4 P) (.node (PySem.W.boot_o_8 P) .nil .nil) (.node (oP12 P) .nil .nil)) (.node (PySem.W.boot_o_6 P) (.node (PySem.W.boot_o_10 P) .nil .nil) (.node (oP14 P) .nil .nil))))
noncomputable def oB3 (P:Params):Obj:=⟨(.type "dict"),none,(.dict #[de P "__name__" 165 (sv "cpy313.dis" 269),de P "__doc__" 166 .none,de P "__package__" 167 .none,de P "__loader__" 168 (.builtin "__main__.__loader__#opaque"),de P "__spec__" 169 .none,de P "__annotations__" 170 (.ref 6),de P "__builtins__" 171 (.ref 4),de P "__file__" 173 (sv "/claim/cut.py" 172),de P "__cached__" 174 .none,de P "_DIV_LIMIT" 190 (.int 4000 189),de P "_div2n1n" 207 (.ref 21),de P "_div3n2n" 221 (.ref 28),de P "_int2digits" 232 (.ref 35),de P "_digits2int" 243 (.ref 42),de P "_divmod_pos" 258 (.ref 49),de P "int_divmod" 268 (.ref 56)] 16),#[]⟩
noncomputable def oB12 (P:Params):Obj:=⟨.none,none,(.fields #[(.int 3 0),(.int 0 0),(.ref 20),(.int 19 0),(.int 0 0),(.ref 27),(.int 29 0),(.int 0 0),(.ref 34),(.int 45 0),(.int 0 0),(.ref 41),(.int 54 0),(.int 0 0),(.ref 48),(.int 65 0),(.int 0 0),(.ref 55)]),#[]⟩
noncomputable def oB15 (P:Params):Obj:=⟨(.type "tuple"),none,(.seq #[] 0),#[]⟩
noncomputable def oB16 (P:Params):Obj:=⟨.none,none,(.fields #[]),#[]⟩
noncomputable def oB17 (P:Params):Obj:=⟨(.type "tuple"),none,(.seq #[(sv "a" 194),(sv "b" 195),(sv "n" 196),(sv "pad" 197),(sv "half_n" 198),(sv "mask" 199),(sv "b1" 200),(sv "b2" 201),(sv "q1" 202),(sv "r" 203),(sv "q2" 204)] 0),#[]⟩
noncomputable def oB18 (P:Params):Obj:=⟨(.type "tuple"),none,(.seq #[] 0),#[]⟩
noncomputable def oB19 (P:Params):Obj:=⟨.none,none,(.func { name:="_div2n1n",qualname:="_div2n1n",params:=fdP 2,body:=.stmts (fdB 2),scope:=fdSc 2,globals:=0,closure:=[],defaults:=.none,kwdefaults:=.none,doc:=.none,pyModule:=.none,annotations:=none,code:=.none,closureTuple:=.none,builtins:=0 }),#[]⟩
noncomputable def oB20 (P:Params):Obj:=⟨(.type "code"),none,(.fields #[(sv "_div2n1n" 191),(sv "_div2n1n" 192),(sv "/claim/cut.py" 193),(.int 3 0),(.int 3 0),(.int 0 0),(.int 0 0),(.int 3 0),(.ref 15),(.bool true),(.int 181 0),(.ref 16),.none,(.ref 17),(.ref 18),(.ref 19),(.int 205 0),(.int 3 0),(sv "/claim/cut.py" 206)]),#[]⟩
noncomputable def oB21 (P:Params):Obj:=⟨(.type "function"),none,(.func { name:="_div2n1n",qualname:="_div2n1n",params:=fdP 2,body:=.stmts (fdB 2),scope:=fdSc 2,globals:=3,closure:=[],defaults:=.none,kwdefaults:=.none,doc:=.none,pyModule:=(sv "cpy313._pylong" 187),annotations:=none,code:=(.ref 20),closureTuple:=.none,builtins:=0 }),#[]⟩
noncomputable def oB22 (P:Params):Obj:=⟨(.type "tuple"),none,(.seq #[] 0),#[]⟩
noncomputable def oB23 (P:Params):Obj:=⟨.none,none,(.fields #[]),#[]⟩
noncomputable def oB24 (P:Params):Obj:=⟨(.type "tuple"),none,(.seq #[(sv "a12" 211),(sv "a3" 212),(sv "b" 213),(sv "b1" 214),(sv "b2" 215),(sv "n" 216),(sv "q" 217),(sv "r" 218)] 0),#[]⟩
noncomputable def oB25 (P:Params):Obj:=⟨(.type "tuple"),none,(.seq #[] 0),#[]⟩
noncomputable def oB26 (P:Params):Obj:=⟨.none,none,(.func { name:="_div3n2n",qualname:="_div3n2n",params:=fdP 3,body:=.stmts (fdB 3),scope:=fdSc 3,globals:=0,closure:=[],defaults:=.none,kwdefaults:=.none,doc:=.none,pyModule:=.none,annotations:=none,code:=.none,closureTuple:=.none,builtins:=0 }),#[]⟩
noncomputable def oB27 (P:Params):Obj:=⟨(.type "code"),none,(.fields #[(sv "_div3n2n" 208),(sv "_div3n2n" 209),(sv "/claim/cut.py" 210),(.int 19 0),(.int 6 0),(.int 0 0),(.int 0 0),(.int 3 0),(.ref 22),(.bool true),(.int 181 0),(.ref 23),.none,(.ref 24),(.ref 25),(.ref 26),(.int 219 0),(.int 19 0),(sv "/claim/cut.py" 220)]),#[]⟩
noncomputable def oB28 (P:Params):Obj:=⟨(.type "function"),none,(.func { name:="_div3n2n",qualname:="_div3n2n",params:=fdP 3,body:=.stmts (fdB 3),scope:=fdSc 3,globals:=3,closure:=[],defaults:=.none,kwdefaults:=.none,doc:=.none,pyModule:=(sv "cpy313._pylong" 187),annotations:=none,code:=(.ref 27),closureTuple:=.none,builtins:=0 }),#[]⟩
noncomputable def oB29 (P:Params):Obj:=⟨(.type "tuple"),none,(.seq #[] 0),#[]⟩
noncomputable def oB30 (P:Params):Obj:=⟨.none,none,(.fields #[]),#[]⟩
noncomputable def oB31 (P:Params):Obj:=⟨(.type "tuple"),none,(.seq #[(sv "a" 225),(sv "n" 226)] 0),#[]⟩
noncomputable def oB32 (P:Params):Obj:=⟨(.type "tuple"),none,(.seq #[(sv "n" 227),(sv "a_digits" 228),(sv "inner" 229)] 0),#[]⟩
noncomputable def oB33 (P:Params):Obj:=⟨.none,none,(.func { name:="_int2digits",qualname:="_int2digits",params:=fdP 4,body:=.stmts (fdB 4),scope:=fdSc 4,globals:=0,closure:=[],defaults:=.none,kwdefaults:=.none,doc:=.none,pyModule:=.none,annotations:=none,code:=.none,closureTuple:=.none,builtins:=0 }),#[]⟩
noncomputable def oB34 (P:Params):Obj:=⟨(.type "code"),none,(.fields #[(sv "_int2digits" 222),(sv "_int2digits" 223),(sv "/claim/cut.py" 224),(.int 29 0),(.int 2 0),(.int 0 0),(.int 0 0),(.int 3 0),(.ref 29),(.bool true),(.int 181 0),(.ref 30),.none,(.ref 31),(.ref 32),(.ref 33),(.int 230 0),(.int 29 0),(sv "/claim/cut.py" 231)]),#[]⟩
noncomputable def oB35 (P:Params):Obj:=⟨(.type "function"),none,(.func { name:="_int2digits",qualname:="_int2digits",params:=fdP 4,body:=.stmts (fdB 4),scope:=fdSc 4,globals:=3,closure:=[],defaults:=.none,kwdefaults:=.none,doc:=.none,pyModule:=(sv "cpy313._pylong" 187),annotations:=none,code:=(.ref 34),closureTuple:=.none,builtins:=0 }),#[]⟩
noncomputable def oB36 (P:Params):Obj:=⟨(.type "tuple"),none,(.seq #[] 0),#[]⟩
noncomputable def oB37 (P:Params):Obj:=⟨.none,none,(.fields #[]),#[]⟩
noncomputable def oB38 (P:Params):Obj:=⟨(.type "tuple"),none,(.seq #[(sv "digits" 236),(sv "n" 237)] 0),#[]⟩
noncomputable def oB39 (P:Params):Obj:=⟨(.type "tuple"),none,(.seq #[(sv "digits" 238),(sv "n" 239),(sv "inner" 240)] 0),#[]⟩
noncomputable def oB40 (P:Params):Obj:=⟨.none,none,(.func { name:="_digits2int",qualname:="_digits2int",params:=fdP 5,body:=.stmts (fdB 5),scope:=fdSc 5,globals:=0,closure:=[],defaults:=.none,kwdefaults:=.none,doc:=.none,pyModule:=.none,annotations:=none,code:=.none,closureTuple:=.none,builtins:=0 }),#[]⟩
noncomputable def oB41 (P:Params):Obj:=⟨(.type "code"),none,(.fields #[(sv "_digits2int" 233),(sv "_digits2int" 234),(sv "/claim/cut.py" 235),(.int 45 0),(.int 2 0),(.int 0 0),(.int 0 0),(.int 3 0),(.ref 36),(.bool true),(.int 181 0),(.ref 37),.none,(.ref 38),(.ref 39),(.ref 40),(.int 241 0),(.int 45 0),(sv "/claim/cut.py" 242)]),#[]⟩
noncomputable def oB42 (P:Params):Obj:=⟨(.type "function"),none,(.func { name:="_digits2int",qualname:="_digits2int",params:=fdP 5,body:=.stmts (fdB 5),scope:=fdSc 5,globals:=3,closure:=[],defaults:=.none,kwdefaults:=.none,doc:=.none,pyModule:=(sv "cpy313._pylong" 187),annotations:=none,code:=(.ref 41),closureTuple:=.none,builtins:=0 }),#[]⟩
noncomputable def oB43 (P:Params):Obj:=⟨(.type "tuple"),none,(.seq #[] 0),#[]⟩
noncomputable def oB44 (P:Params):Obj:=⟨.none,none,(.fields #[]),#[]⟩
noncomputable def oB45 (P:Params):Obj:=⟨(.type "tuple"),none,(.seq #[(sv "a" 247),(sv "b" 248),(sv "n" 249),(sv "a_digits" 250),(sv "r" 251),(sv "q_digits" 252),(sv "a_digit" 253),(sv "q_digit" 254),(sv "q" 255)] 0),#[]⟩
noncomputable def oB46 (P:Params):Obj:=⟨(.type "tuple"),none,(.seq #[] 0),#[]⟩
noncomputable def oB47 (P:Params):Obj:=⟨.none,none,(.func { name:="_divmod_pos",qualname:="_divmod_pos",params:=fdP 6,body:=.stmts (fdB 6),scope:=fdSc 6,globals:=0,closure:=[],defaults:=.none,kwdefaults:=.none,doc:=.none,pyModule:=.none,annotations:=none,code:=.none,closureTuple:=.none,builtins:=0 }),#[]⟩
noncomputable def oB48 (P:Params):Obj:=⟨(.type "code"),none,(.fields #[(sv "_divmod_pos" 244),(sv "_divmod_pos" 245),(sv "/claim/cut.py" 246),(.int 54 0),(.int 2 0),(.int 0 0),(.int 0 0),(.int 3 0),(.ref 43),(.bool true),(.int 181 0),(.ref 44),.none,(.ref 45),(.ref 46),(.ref 47),(.int 256 0),(.int 54 0),(sv "/claim/cut.py" 257)]),#[]⟩
noncomputable def oB49 (P:Params):Obj:=⟨(.type "function"),none,(.func { name:="_divmod_pos",qualname:="_divmod_pos",params:=fdP 6,body:=.stmts (fdB 6),scope:=fdSc 6,globals:=3,closure:=[],defaults:=.none,kwdefaults:=.none,doc:=.none,pyModule:=(sv "cpy313._pylong" 187),annotations:=none,code:=(.ref 48),closureTuple:=.none,builtins:=0 }),#[]⟩
noncomputable def oB50 (P:Params):Obj:=⟨(.type "tuple"),none,(.seq #[] 0),#[]⟩
noncomputable def oB51 (P:Params):Obj:=⟨.none,none,(.fields #[]),#[]⟩
noncomputable def oB52 (P:Params):Obj:=⟨(.type "tuple"),none,(.seq #[(sv "a" 262),(sv "b" 263),(sv "q" 264),(sv "r" 265)] 0),#[]⟩
noncomputable def oB53 (P:Params):Obj:=⟨(.type "tuple"),none,(.seq #[] 0),#[]⟩
noncomputable def oB54 (P:Params):Obj:=⟨.none,none,(.func { name:="int_divmod",qualname:="int_divmod",params:=fdP 7,body:=.stmts (fdB 7),scope:=fdSc 7,globals:=0,closure:=[],defaults:=.none,kwdefaults:=.none,doc:=.none,pyModule:=.none,annotations:=none,code:=.none,closureTuple:=.none,builtins:=0 }),#[]⟩
noncomputable def oB55 (P:Params):Obj:=⟨(.type "code"),none,(.fields #[(sv "int_divmod" 259),(sv "int_divmod" 260),(sv "/claim/cut.py" 261),(.int 65 0),(.int 2 0),(.int 0 0),(.int 0 0),(.int 3 0),(.ref 50),(.bool true),(.int 181 0),(.ref 51),.none,(.ref 52),(.ref 53),(.ref 54),(.int 266 0),(.int 65 0),(sv "/claim/cut.py" 267)]),#[]⟩
noncomputable def oB56 (P:Params):Obj:=⟨(.type "function"),none,(.func { name:="int_divmod",qualname:="int_divmod",params:=fdP 7,body:=.stmts (fdB 7),scope:=fdSc 7,globals:=3,closure:=[],defaults:=.none,kwdefaults:=.none,doc:=.none,pyModule:=(sv "cpy313._pylong" 187),annotations:=none,code:=(.ref 55),closureTuple:=.none,builtins:=0 }),#[]⟩
noncomputable def tB (P:Params):BT:=(.node (PySem.W.boot_o_0 P) (.node (PySem.W.boot_o_1 P) (.node (oB3 P) (.node (PySem.W.boot_o_7 P) (.node (oB15 P) (.node (oB31 P) .nil .nil) (.node (oB47 P) .nil .nil)) (.node (oB23 P) (.node (oB39 P) .nil .nil) (.node (oB55 P) .nil .nil))) (.node (oP11 P) (.node (oB19 P) (.node (oB35 P) .nil .nil) (.node (oB51 P) .nil .nil)) (.node (oB27 P) (.node (oB43 P) .nil .nil) .nil))) (.node (PySem.W.boot_o_5 P) (.node (PySem.W.boot_o_9 P) (.node (oB17 P) (.node (oB33 P) .nil .nil) (.node (oB49 P) .nil .nil)) (.node (oB25 P) (.node (oB41 P) .nil .nil) .nil)) (.node (oP13 P) (.node (oB21 P) (.node (oB37 P) .nil .nil) (.node (oB53 P) .nil .nil)) (.node (oB29 P) (.node (oB45 P) .nil .nil) .nil)))) (.node (PySem.W.boot_o_2 P) (.node (PySem.W.boot_o_4 P) (.node (PySem.W.boot_o_8 P) (.node (oB16 P) (.node (oB32 P) .nil .nil) (.node (oB48 P) .nil .nil)) (.node (oB24 P) (.node (oB40 P) .nil .nil) (.node (oB56 P) .nil .nil))) (.node (oB12 P) (.node (oB20 P) (.node (oB36 P) .nil .nil) (.node (oB52 P) .nil .nil)) (.node (oB28 P) (.node (oB44 P) .nil .nil) .nil))) (.node (PySem.W.boot_o_6 P) (.node (PySem.W.boot_o_10 P) (.node (oB18 P) (.node (oB34 P) .nil .nil) (.node (oB50 P) .nil .nil)) (.node (oB26 P) (.node (oB42 P) .nil .nil) .nil)) (.node (oP14 P) (.node (oB22 P) (.node (oB38 P) .nil .nil) (.node (oB54 P) .nil .nil)) (.node (oB30 P) (.node (oB46 P) .nil .nil) .nil)))))
noncomputable def oC3 (P:Params):Obj:=⟨(.type "dict"),none,(.dict #[de P "__name__" 165 (sv "cpy313.stringprep" 347),de P "__doc__" 166 .none,de P "__package__" 167 .none,de P "__loader__" 168 (.builtin "__main__.__loader__#opaque"),de P "__spec__" 169 .none,de P "__annotations__" 170 (.ref 6),de P "__builtins__" 171 (.ref 4),de P "__file__" 173 (sv "/claim/cut.py" 172),de P "__cached__" 174 .none,de P "_DIV_LIMIT" 190 (.int 4000 189),de P "_div2n1n" 207 (.ref 21),de P "_div3n2n" 221 (.ref 28),de P "_int2digits" 232 (.ref 35),de P "_digits2int" 243 (.ref 42),de P "_divmod_pos" 258 (.ref 49),de P "int_divmod" 268 (.ref 56),de P "COMPILER_FLAG_NAMES" 301 (.ref 57),de P "pretty_flags" 311 (.ref 64),de P "_parse_varint" 320 (.ref 71),de P "ELLIPSIS_MARKER" 324 (sv "..." 323),de P "_ellipsis_match" 336 (.ref 78),de P "_strip_exception_details" 346 (.ref 85)] 22),#[]⟩
noncomputable def oC12 (P:Params):Obj:=⟨.none,none,(.fields #[(.int 3 0),(.int 0 0),(.ref 20),(.int 19 0),(.int 0 0),(.ref 27),(.int 29 0),(.int 0 0),(.ref 34),(.int 45 0),(.int 0 0),(.ref 41),(.int 54 0),(.int 0 0),(.ref 48),(.int 65 0),(.int 0 0),(.ref 55),(.int 78 0),(.int 0 0),(.ref 63),(.int 90 0),(.int 0 0),(.ref 70),(.int 100 0),(.int 0 0),(.ref 77),(.int 128 0),(.int 0 0),(.ref 84)]),#[]⟩
noncomputable def oC57 (P:Params):Obj:=⟨(.type "dict"),none,(.dict #[⟨1,(.int 1 271),(sv "OPTIMIZED" 272)⟩,⟨2,(.int 2 273),(sv "NEWLOCALS" 274)⟩,⟨4,(.int 4 275),(sv "VARARGS" 276)⟩,⟨8,(.int 8 277),(sv "VARKEYWORDS" 278)⟩,⟨16,(.int 16 279),(sv "NESTED" 280)⟩,⟨32,(.int 32 281),(sv "GENERATOR" 282)⟩,⟨64,(.int 64 283),(sv "NOFREE" 284)⟩,⟨128,(.int 128 285),(sv "COROUTINE" 286)⟩,⟨256,(.int 256 287),(sv "ITERABLE_COROUTINE" 288)⟩,⟨512,(.int 512 289),(sv "ASYNC_GENERATOR" 290)⟩] 10),#[]⟩
noncomputable def oC58 (P:Params):Obj:=⟨(.type "tuple"),none,(.seq #[] 0),#[]⟩
noncomputable def oC59 (P:Params):Obj:=⟨.none,none,(.fields #[]),#[]⟩
noncomputable def oC60 (P:Params):Obj:=⟨(.type "tuple"),none,(.seq #[(sv "flags" 305),(sv "names" 306),(sv "i" 307),(sv "flag" 308)] 0),#[]⟩
noncomputable def oC61 (P:Params):Obj:=⟨(.type "tuple"),none,(.seq #[] 0),#[]⟩
noncomputable def oC62 (P:Params):Obj:=⟨.none,none,(.func { name:="pretty_flags",qualname:="pretty_flags",params:=fdP 10,body:=.stmts (fdB 10),scope:=fdSc 10,globals:=0,closure:=[],defaults:=.none,kwdefaults:=.none,doc:=.none,pyModule:=.none,annotations:=none,code:=.none,closureTuple:=.none,builtins:=0 }),#[]⟩
noncomputable def oC63 (P:Params):Obj:=⟨(.type "code"),none,(.fields #[(sv "pretty_flags" 302),(sv "pretty_flags" 303),(sv "/claim/cut.py" 304),(.int 78 0),(.int 1 0),(.int 0 0),(.int 0 0),(.int 3 0),(.ref 58),(.bool true),(.int 181 0),(.ref 59),.none,(.ref 60),(.ref 61),(.ref 62),(.int 309 0),(.int 78 0),(sv "/claim/cut.py" 310)]),#[]⟩
noncomputable def oC64 (P:Params):Obj:=⟨(.type "function"),none,(.func { name:="pretty_flags",qualname:="pretty_flags",params:=fdP 10,body:=.stmts (fdB 10),scope:=fdSc 10,globals:=3,closure:=[],defaults:=.none,kwdefaults:=.none,doc:=.none,pyModule:=(sv "cpy313.dis" 269),annotations:=none,code:=(.ref 63),closureTuple:=.none,builtins:=0 }),#[]⟩
noncomputable def oC65 (P:Params):Obj:=⟨(.type "tuple"),none,(.seq #[] 0),#[]⟩
noncomputable def oC66 (P:Params):Obj:=⟨.none,none,(.fields #[]),#[]⟩
noncomputable def oC67 (P:Params):Obj:=⟨(.type "tuple"),none,(.seq #[(sv "iterator" 315),(sv "b" 316),(sv "val" 317)] 0),#[]⟩
noncomputable def oC68 (P:Params):Obj:=⟨(.type "tuple"),none,(.seq #[] 0),#[]⟩
noncomputable def oC69 (P:Params):Obj:=⟨.none,none,(.func { name:="_parse_varint",qualname:="_parse_varint",params:=fdP 11,body:=.stmts (fdB 11),scope:=fdSc 11,globals:=0,closure:=[],defaults:=.none,kwdefaults:=.none,doc:=.none,pyModule:=.none,annotations:=none,code:=.none,closureTuple:=.none,builtins:=0 }),#[]⟩
noncomputable def oC70 (P:Params):Obj:=⟨(.type "code"),none,(.fields #[(sv "_parse_varint" 312),(sv "_parse_varint" 313),(sv "/claim/cut.py" 314),(.int 90 0),(.int 1 0),(.int 0 0),(.int 0 0),(.int 3 0),(.ref 65),(.bool true),(.int 181 0),(.ref 66),.none,(.ref 67),(.ref 68),(.ref 69),(.int 318 0),(.int 90 0),(sv "/claim/cut.py" 319)]),#[]⟩
noncomputable def oC71 (P:Params):Obj:=⟨(.type "function"),none,(.func { name:="_parse_varint",qualname:="_parse_varint",params:=fdP 11,body:=.stmts (fdB 11),scope:=fdSc 11,globals:=3,closure:=[],defaults:=.none,kwdefaults:=.none,doc:=.none,pyModule:=(sv "cpy313.dis" 269),annotations:=none,code:=(.ref 70),closureTuple:=.none,builtins:=0 }),#[]⟩
noncomputable def oC72 (P:Params):Obj:=⟨(.type "tuple"),none,(.seq #[] 0),#[]⟩
noncomputable def oC73 (P:Params):Obj:=⟨.none,none,(.fields #[]),#[]⟩
noncomputable def oC74 (P:Params):Obj:=⟨(.type "tuple"),none,(.seq #[(sv "want" 328),(sv "got" 329),(sv "ws" 330),(sv "startpos" 331),(sv "endpos" 332),(sv "w" 333)] 0),#[]⟩
noncomputable def oC75 (P:Params):Obj:=⟨(.type "tuple"),none,(.seq #[] 0),#[]⟩
noncomputable def oC76 (P:Params):Obj:=⟨.none,none,(.func { name:="_ellipsis_match",qualname:="_ellipsis_match",params:=fdP 14,body:=.stmts (fdB 14),scope:=fdSc 14,globals:=0,closure:=[],defaults:=.none,kwdefaults:=.none,doc:=.none,pyModule:=.none,annotations:=none,code:=.none,closureTuple:=.none,builtins:=0 }),#[]⟩
noncomputable def oC77 (P:Params):Obj:=⟨(.type "code"),none,(.fields #[(sv "_ellipsis_match" 325),(sv "_ellipsis_match" 326),(sv "/claim/cut.py" 327),(.int 100 0),(.int 2 0),(.int 0 0),(.int 0 0),(.int 3 0),(.ref 72),(.bool true),(.int 181 0),(.ref 73),.none,(.ref 74),(.ref 75),(.ref 76),(.int 334 0),(.int 100 0),(sv "/claim/cut.py" 335)]),#[]⟩
noncomputable def oC78 (P:Params):Obj:=⟨(.type "function"),none,(.func { name:="_ellipsis_match",qualname:="_ellipsis_match",params:=fdP 14,body:=.stmts (fdB 14),scope:=fdSc 14,globals:=3,closure:=[],defaults:=.none,kwdefaults:=.none,doc:=.none,pyModule:=(sv "cpy313.doctest" 321),annotations:=none,code:=(.ref 77),closureTuple:=.none,builtins:=0 }),#[]⟩
noncomputable def oC79 (P:Params):Obj:=⟨(.type "tuple"),none,(.seq #[] 0),#[]⟩
noncomputable def oC80 (P:Params):Obj:=⟨.none,none,(.fields #[]),#[]⟩
noncomputable def oC81 (P:Params):Obj:=⟨(.type "tuple"),none,(.seq #[(sv "msg" 340),(sv "start" 341),(sv "end" 342),(sv "i" 343)] 0),#[]⟩
noncomputable def oC82 (P:Params):Obj:=⟨(.type "tuple"),none,(.seq #[] 0),#[]⟩
noncomputable def oC83 (P:Params):Obj:=⟨.none,none,(.func { name:="_strip_exception_details",qualname:="_strip_exception_details",params:=fdP 15,body:=.stmts (fdB 15),scope:=fdSc 15,globals:=0,closure:=[],defaults:=.none,kwdefaults:=.none,doc:=.none,pyModule:=.none,annotations:=none,code:=.none,closureTuple:=.none,builtins:=0 }),#[]⟩
noncomputable def oC84 (P:Params):Obj:=⟨(.type "code"),none,(.fields #[(sv "_strip_exception_details" 337),(sv "_strip_exception_details" 338),(sv "/claim/cut.py" 339),(.int 128 0),(.int 1 0),(.int 0 0),(.int 0 0),(.int 3 0),(.ref 79),(.bool true),(.int 181 0),(.ref 80),.none,(.ref 81),(.ref 82),(.ref 83),(.int 344 0),(.int 128 0),(sv "/claim/cut.py" 345)]),#[]⟩
noncomputable def oC85 (P:Params):Obj:=⟨(.type "function"),none,(.func { name:="_strip_exception_details",qualname:="_strip_exception_details",params:=fdP 15,body:=.stmts (fdB 15),scope:=fdSc 15,globals:=3,closure:=[],defaults:=.none,kwdefaults:=.none,doc:=.none,pyModule:=(sv "cpy313.doctest" 321),annotations:=none,code:=(.ref 84),closureTuple:=.none,builtins:=0 }),#[]⟩
noncomputable def tC (P:Params):BT:=(.node (PySem.W.boot_o_0 P) (.node (PySem.W.boot_o_1 P) (.node (oC3 P) (.node (PySem.W.boot_o_7 P) (.node (oB15 P) (.node (oB31 P) (.node (oC63 P) .nil .nil) .nil) (.node (oB47 P) (.node (oC79 P) .nil .nil) .nil)) (.node (oB23 P) (.node (oB39 P) (.node (oC71 P) .nil .nil) .nil) (.node (oB55 P) .nil .nil))) (.node (oP11 P) (.node (oB19 P) (.node (oB35 P) (.node (oC67 P) .nil .nil) .nil) (.node (oB51 P) (.node (oC83 P) .nil .nil) .nil)) (.node (oB27 P) (.node (oB43 P) (.node (oC75 P) .nil .nil) .nil) (.node (oC59 P) .nil .nil)))) (.node (PySem.W.boot_o_5 P) (.node (PySem.W.boot_o_9 P) (.node (oB17 P) (.node (oB33 P) (.node (oC65 P) .nil .nil) .nil) (.node (oB49 P) (.node (oC81 P) .nil .nil) .nil)) (.node (oB25 P) (.node (oB41 P) (.node (oC73 P) .nil .nil) .nil) (.node (oC57 P) .nil .nil))) (.node (oP13 P) (.node (oB21 P) (.node (oB37 P) (.node (oC69 P) .nil .nil) .nil) (.node (oB53 P) (.node (oC85 P) .nil .nil) .nil)) (.node (oB29 P) (.node (oB45 P) (.node (oC77 P) .nil .nil) .nil) (.node (oC61 P) .nil .nil))))) (.node (PySem.W.boot_o_2 P) (.node (PySem.W.boot_o_4 P) (.node (PySem.W.boot_o_8 P) (.node (oB16 P) (.node (oB32 P) (.node (oC64 P) .nil .nil) .nil) (.node (oB48 P) (.node (oC80 P) .nil .nil) .nil)) (.node (oB24 P) (.node (oB40 P) (.node (oC72 P) .nil .nil) .nil) (.node (oB56 P) .nil .nil))) (.node (oC12 P) (.node (oB20 P) (.node (oB36 P) (.node (oC68 P) .nil .nil) .nil) (.node (oB52 P) (.node (oC84 P) .nil .nil) .nil)) (.node (oB28 P) (.node (oB44 P) (.node (oC76 P) .nil .nil) .nil) (.node (oC60 P) .nil .nil)))) (.node (PySem.W.boot_o_6 P) (.node (PySem.W.boot_o_10 P) (.node (oB18 P) (.node (oB34 P) (.node (oC66 P) .nil .nil) .nil) (.node (oB50 P) (.node (oC82 P) .nil .nil) .nil)) (.node (oB26 P) (.node (oB42 P) (.node (oC74 P) .nil .nil) .nil) (.node (oC58 P) .nil .nil))) (.node (oP14 P) (.node (oB22 P) (.node (oB38 P) (.node (oC70 P) .nil .nil) .nil) (.node (oB54 P) .nil .nil)) (.node (oB30 P) (.node (oB46 P) (.node (oC78 P) .nil .nil) .nil) (.node (oC62 P) .nil .nil))))))
noncomputable def oD3 (P:Params):Obj:=⟨(.type "dict"),none,(.dict #[de P "__name__" 165 (sv "cpy313.stringprep" 347),de P "__doc__" 166 .none,de P "__package__" 167 .none,de P "__loader__" 168 (.builtin "__main__.__loader__#opaque"),de P "__spec__" 169 .none,de P "__annotations__" 170 (.ref 6),de P "__builtins__" 171 (.ref 4),de P "__file__" 173 (sv "/claim/cut.py" 172),de P "__cached__" 174 .none,de P "_DIV_LIMIT" 190 (.int 4000 189),de P "_div2n1n" 207 (.ref 21),de P "_div3n2n" 221 (.ref 28),de P "_int2digits" 232 (.ref 35),de P "_digits2int" 243 (.ref 42),de P "_divmod_pos" 258 (.ref 49),de P "int_divmod" 268 (.ref 56),de P "COMPILER_FLAG_NAMES" 301 (.ref 57),de P "pretty_flags" 311 (.ref 64),de P "_parse_varint" 320 (.ref 71),de P "ELLIPSIS_MARKER" 324 (sv "..." 323),de P "_ellipsis_match" 336 (.ref 78),de P "_strip_exception_details" 346 (.ref 85),de P "b1_set" 408 (.ref 93)] 23),#[]⟩
noncomputable def oD86 (P:Params):Obj:=⟨(.type "list"),none,(.seq #[(.int 173 349),(.int 847 350),(.int 6150 351),(.int 6155 352),(.int 6156 353),(.int 6157 354),(.int 8203 355),(.int 8204 356),(.int 8205 357),(.int 8288 358),(.int 65279 359)] 0),#[]⟩
noncomputable def oD87 (P:Params):Obj:=⟨(.type "range"),none,(.fields #[(.int 65024 360),(.int 65040 361),(.int 1 362)]),#[]⟩
noncomputable def oD88 (P:Params):Obj:=⟨(.type "list"),none,(.seq #[(.int 65024 365),(.int 65025 366),(.int 65026 367),(.int 65027 368),(.int 65028 369),(.int 65029 370),(.int 65030 371),(.int 65031 372),(.int 65032 373),(.int 65033 374),(.int 65034 375),(.int 65035 376),(.int 65036 377),(.int 65037 378),(.int 65038 379),(.int 65039 380)] 18),#[]⟩
noncomputable def oD89 (P:Params):Obj:=⟨(.type "range_iterator"),none,(.fields #[(.int 65040 0),(.int 0 0),(.int 1 0)]),#[]⟩
noncomputable def oD90 (P:Params):Obj:=⟨(.type "tuple"),none,(.seq #[] 0),#[]⟩
noncomputable def oD91 (P:Params):Obj:=⟨(.type "StopIteration"),none,(.fields #[(.ref 90),.none,.none,.none,(.bool false),.none]),#[]⟩
noncomputable def oD92 (P:Params):Obj:=⟨(.type "list"),none,(.seq #[(.int 173 349),(.int 847 350),(.int 6150 351),(.int 6155 352),(.int 6156 353),(.int 6157 354),(.int 8203 355),(.int 8204 356),(.int 8205 357),(.int 8288 358),(.int 65279 359),(.int 65024 365),(.int 65025 366),(.int 65026 367),(.int 65027 368),(.int 65028 369),(.int 65029 370),(.int 65030 371),(.int 65031 372),(.int 65032 373),(.int 65033 374),(.int 65034 375),(.int 65035 376),(.int 65036 377),(.int 65037 378),(.int 65038 379),(.int 65039 380)] 0),#[]⟩
noncomputable def oD93 (P:Params):Obj:=⟨(.type "set"),none,(.set #[(65024,(.int 65024 365)),(65025,(.int 65025 366)),(65026,(.int 65026 367)),(65027,(.int 65027 368)),(65028,(.int 65028 369)),(65029,(.int 65029 370)),(6150,(.int 6150 351)),(65030,(.int 65030 371)),(65031,(.int 65031 372)),(65032,(.int 65032 373)),(65033,(.int 65033 374)),(6155,(.int 6155 352)),(6156,(.int 6156 353)),(6157,(.int 6157 354)),(8203,(.int 8203 355)),(8204,(.int 8204 356)),(8205,(.int 8205 357)),(65034,(.int 65034 375)),(65035,(.int 65035 376)),(65036,(.int 65036 377)),(65037,(.int 65037 378)),(65038,(.int 65038 379)),(65039,(.int 65039 380)),(173,(.int 173 349)),(847,(.int 847 350)),(8288,(.int 8288 358)),(65279,(.int 65279 359))] 29 { mask:=127,place:=#[0,1,2,3,4,5,6,7,8,9,10,11,12,13,14,15,16,17,18,19,20,21,22,45,79,96,127],dummies:=#[],finger:=0,led:=yY9 P,moves:=2,plain:=true }),#[]⟩
noncomputable def oD94 (P:Params):Obj:=⟨(.type "list_iterator"),none,(.fields #[.none,(.int 27 0)]),#[]⟩
noncomputable def oD95 (P:Params):Obj:=⟨(.type "tuple"),none,(.seq #[] 0),#[]⟩
noncomputable def oD96 (P:Params):Obj:=⟨(.type "StopIteration"),none,(.fields #[(.ref 95),.none,.none,.none,(.bool false),.none]),#[]⟩
noncomputable def tD (P:Params):BT:=(.node (PySem.W.boot_o_0 P) (.node (PySem.W.boot_o_1 P) (.node (oD3 P) (.node (PySem.W.boot_o_7 P) (.node (oB15 P) (.node (oB31 P) (.node (oC63 P) .nil .nil) (.node (oD95 P) .nil .nil)) (.node (oB47 P) (.node (oC79 P) .nil .nil) .nil)) (.node (oB23 P) (.node (oB39 P) (.node (oC71 P) .nil .nil) .nil) (.node (oB55 P) (.node (oD87 P) .nil .nil) .nil))) (.node (oP11 P) (.node (oB19 P) (.node (oB35 P) (.node (oC67 P) .nil .nil) .nil) (.node (oB51 P) (.node (oC83 P) .nil .nil) .nil)) (.node (oB27 P) (.node (oB43 P) (.node (oC75 P) .nil .nil) .nil) (.node (oC59 P) (.node (oD91 P) .nil .nil) .nil)))) (.node (PySem.W.boot_o_5 P) (.node (PySem.W.boot_o_9 P) (.node (oB17 P) (.node (oB33 P) (.node (oC65 P) .nil .nil) .nil) (.node (oB49 P) (.node (oC81 P) .nil .nil) .nil)) (.node (oB25 P) (.node (oB41 P) (.node (oC73 P) .nil .nil) .nil) (.node (oC57 P) (.node (oD89 P) .nil .nil) .nil))) (.node (oP13 P) (.node (oB21 P) (.node (oB37 P) (.node (oC69 P) .nil .nil) .nil) (.node (oB53 P) (.node (oC85 P) .nil .nil) .nil)) (.node (oB29 P) (.node (oB45 P) (.node (oC77 P) .nil .nil) .nil) (.node (oC61 P) (.node (oD93 P) .nil .nil) .nil))))) (.node (PySem.W.boot_o_2 P) (.node (PySem.W.boot_o_4 P) (.node (PySem.W.boot_o_8 P) (.node (oB16 P) (.node (oB32 P) (.node (oC64 P) .nil .nil) (.node (oD96 P) .nil .nil)) (.node (oB48 P) (.node (oC80 P) .nil .nil) .nil)) (.node (oB24 P) (.node (oB40 P) (.node (oC72 P) .nil .nil) .nil) (.node (oB56 P) (.node (oD88 P) .nil .nil) .nil))) (.node (oC12 P) (.node (oB20 P) (.node (oB36 P) (.node (oC68 P) .nil .nil) .nil) (.node (oB52 P) (.node (oC84 P) .nil .nil) .nil)) (.node (oB28 P) (.node (oB44 P) (.node (oC76 P) .nil .nil) .nil) (.node (oC60 P) (.node (oD92 P) .nil .nil) .nil)))) (.node (PySem.W.boot_o_6 P) (.node (PySem.W.boot_o_10 P) (.node (oB18 P) (.node (oB34 P) (.node (oC66 P) .nil .nil) .nil) (.node (oB50 P) (.node (oC82 P) .nil .nil) .nil)) (.node (oB26 P) (.node (oB42 P) (.node (oC74 P) .nil .nil) .nil) (.node (oC58 P) (.node (oD90 P) .nil .nil) .nil))) (.node (oP14 P) (.node (oB22 P) (.node (oB38 P) (.node (oC70 P) .nil .nil) .nil) (.node (oB54 P) (.node (oD86 P) .nil .nil) .nil)) (.node (oB30 P) (.node (oB46 P) (.node (oC78 P) .nil .nil) .nil) (.node (oC62 P) (.node (oD94 P) .nil .nil) .nil))))))
noncomputable def oE3 (P:Params):Obj:=⟨(.type "dict"),none,(.dict #[de P "__name__" 165 (sv "cpy313.stringprep" 347),de P "__doc__" 166 .none,de P "__package__" 167 .none,de P "__loader__" 168 (.builtin "__main__.__loader__#opaque"),de P "__spec__" 169 .none,de P "__annotations__" 170 (.ref 6),de P "__builtins__" 171 (.ref 4),de P "__file__" 173 (sv "/claim/cut.py" 172),de P "__cached__" 174 .none,de P "_DIV_LIMIT" 190 (.int 4000 189),de P "_div2n1n" 207 (.ref 21),de P "_div3n2n" 221 (.ref 28),de P "_int2digits" 232 (.ref 35),de P "_digits2int" 243 (.ref 42),de P "_divmod_pos" 258 (.ref 49),de P "int_divmod" 268 (.ref 56),de P "COMPILER_FLAG_NAMES" 301 (.ref 57),de P "pretty_flags" 311 (.ref 64),de P "_parse_varint" 320 (.ref 71),de P "ELLIPSIS_MARKER" 324 (sv "..." 323),de P "_ellipsis_match" 336 (.ref 78),de P "_strip_exception_details" 346 (.ref 85),de P "b1_set" 408 (.ref 93),de P "in_table_b1" 415 (.ref 103)] 24),#[]⟩
noncomputable def oE12 (P:Params):Obj:=⟨.none,none,(.fields #[(.int 3 0),(.int 0 0),(.ref 20),(.int 19 0),(.int 0 0),(.ref 27),(.int 29 0),(.int 0 0),(.ref 34),(.int 45 0),(.int 0 0),(.ref 41),(.int 54 0),(.int 0 0),(.ref 48),(.int 65 0),(.int 0 0),(.ref 55),(.int 78 0),(.int 0 0),(.ref 63),(.int 90 0),(.int 0 0),(.ref 70),(.int 100 0),(.int 0 0),(.ref 77),(.int 128 0),(.int 0 0),(.ref 84),(.int 142 0),(.int 0 0),(.ref 102)]),#[]⟩
noncomputable def oE97 (P:Params):Obj:=⟨(.type "tuple"),none,(.seq #[] 0),#[]⟩
noncomputable def oE98 (P:Params):Obj:=⟨.none,none,(.fields #[]),#[]⟩
noncomputable def oE99 (P:Params):Obj:=⟨(.type "tuple"),none,(.seq #[(sv "code" 412)] 0),#[]⟩
noncomputable def zWf (P:Params):Obj:=⟨(.type "tuple"),none,(.seq #[] 0),#[]⟩
noncomputable def zWg (P:Params):Obj:=⟨.none,none,(.func { name:="in_table_b1",qualname:="in_table_b1",params:=fdP 18,body:=.stmts (fdB 18),scope:=fdSc 18,globals:=0,closure:=[],defaults:=.none,kwdefaults:=.none,doc:=.none,pyModule:=.none,annotations:=none,code:=.none,closureTuple:=.none,builtins:=0 }),#[]⟩
noncomputable def zWh (P:Params):Obj:=⟨(.type "code"),none,(.fields #[(sv "in_table_b1" 409),(sv "in_table_b1" 410),(sv "/claim/cut.py" 411),(.int 142 0),(.int 1 0),(.int 0 0),(.int 0 0),(.int 3 0),(.ref 97),(.bool true),(.int 181 0),(.ref 98),.none,(.ref 99),(.ref 100),(.ref 101),(.int 413 0),(.int 142 0),(sv "/claim/cut.py" 414)]),#[]⟩
noncomputable def zX8 (P:Params):Obj:=⟨(.type "function"),none,(.func { name:="in_table_b1",qualname:="in_table_b1",params:=fdP 18,body:=.stmts (fdB 18),scope:=fdSc 18,globals:=3,closure:=[],defaults:=.none,kwdefaults:=.none,doc:=.none,pyModule:=(sv "cpy313.stringprep" 347),annotations:=none,code:=(.ref 102),closureTuple:=.none,builtins:=0 }),#[]⟩
noncomputable def tE (P:Params):BT:=(.node (PySem.W.boot_o_0 P) (.node (PySem.W.boot_o_1 P) (.node (oE3 P) (.node (PySem.W.boot_o_7 P) (.node (oB15 P) (.node (oB31 P) (.node (oC63 P) .nil .nil) (.node (oD95 P) .nil .nil)) (.node (oB47 P) (.node (oC79 P) .nil .nil) .nil)) (.node (oB23 P) (.node (oB39 P) (.node (oC71 P) .nil .nil) (.node (zX8 P) .nil .nil)) (.node (oB55 P) (.node (oD87 P) .nil .nil) .nil))) (.node (oP11 P) (.node (oB19 P) (.node (oB35 P) (.node (oC67 P) .nil .nil) (.node (oE99 P) .nil .nil)) (.node (oB51 P) (.node (oC83 P) .nil .nil) .nil)) (.node (oB27 P) (.node (oB43 P) (.node (oC75 P) .nil .nil) .nil) (.node (oC59 P) (.node (oD91 P) .nil .nil) .nil)))) (.node (PySem.W.boot_o_5 P) (.node (PySem.W.boot_o_9 P) (.node (oB17 P) (.node (oB33 P) (.node (oC65 P) .nil .nil) (.node (oE97 P) .nil .nil)) (.node (oB49 P) (.node (oC81 P) .nil .nil) .nil)) (.node (oB25 P) (.node (oB41 P) (.node (oC73 P) .nil .nil) .nil) (.node (oC57 P) (.node (oD89 P) .nil .nil) .nil))) (.node (oP13 P) (.node (oB21 P) (.node (oB37 P) (.node (oC69 P) .nil .nil) (.node (zWg P) .nil .nil)) (.node (oB53 P) (.node (oC85 P) .nil .nil) .nil)) (.node (oB29 P) (.node (oB45 P) (.node (oC77 P) .nil .nil) .nil) (.node (oC61 P) (.node (oD93 P) .nil .nil) .nil))))) (.node (PySem.W.boot_o_2 P) (.node (PySem.W.boot_o_4 P) (.node (PySem.W.boot_o_8 P) (.node (oB16 P) (.node (oB32 P) (.node (oC64 P) .nil .nil) (.node (oD96 P) .nil .nil)) (.node (oB48 P) (.node (oC80 P) .nil .nil) .nil)) (.node (oB24 P) (.node (oB40 P) (.node (oC72 P) .nil .nil) .nil) (.node (oB56 P) (.node (oD88 P) .nil .nil) .nil))) (.node (oE12 P) (.node (oB20 P) (.node (oB36 P) (.node (oC68 P) .nil .nil) (.node (zWf P) .nil .nil)) (.node (oB52 P) (.node (oC84 P) .nil .nil) .nil)) (.node (oB28 P) (.node (oB44 P) (.node (oC76 P) .nil .nil) .nil) (.node (oC60 P) (.node (oD92 P) .nil .nil) .nil)))) (.node (PySem.W.boot_o_6 P) (.node (PySem.W.boot_o_10 P) (.node (oB18 P) (.node (oB34 P) (.node (oC66 P) .nil .nil) (.node (oE98 P) .nil .nil)) (.node (oB50 P) (.node (oC82 P) .nil .nil) .nil)) (.node (oB26 P) (.node (oB42 P) (.node (oC74 P) .nil .nil) .nil) (.node (oC58 P) (.node (oD90 P) .nil .nil) .nil))) (.node (oP14 P) (.node (oB22 P) (.node (oB38 P) (.node (oC70 P) .nil .nil) (.node (zWh P) .nil .nil)) (.node (oB54 P) (.node (oD86 P) .nil .nil) .nil)) (.node (oB30 P) (.node (oB46 P) (.node (oC78 P) .nil .nil) .nil) (.node (oC62 P) (.node (oD94 P) .nil .nil) .nil))))))
noncomputable def lE (P:Params):List Obj:=[PySem.W.boot_o_0 P,PySem.W.boot_o_1 P,PySem.W.boot_o_2 P,oE3 P,PySem.W.boot_o_4 P,PySem.W.boot_o_5 P,PySem.W.boot_o_6 P,PySem.W.boot_o_7 P,PySem.W.boot_o_8 P,PySem.W.boot_o_9 P,PySem.W.boot_o_10 P,oP11 P,oE12 P,oP13 P,oP14 P,oB15 P,oB16 P,oB17 P,oB18 P,oB19 P,oB20 P,oB21 P,oB22 P,oB23 P,oB24 P,oB25 P,oB26 P,oB27 P,oB28 P,oB29 P,oB30 P,oB31 P,oB32 P,oB33 P,oB34 P,oB35 P,oB36 P,oB37 P,oB38 P,oB39 P,oB40 P,oB41 P,oB42 P,oB43 P,oB44 P,oB45 P,oB46 P,oB47 P,oB48 P,oB49 P,oB50 P,oB51 P,oB52 P,oB53 P,oB54 P,oB55 P,oB56 P,oC57 P,oC58 P,oC59 P,oC60 P,oC61 P,oC62 P,oC63 P,oC64 P,oC65 P,oC66 P,oC67 P,oC68 P,oC69 P,oC70 P,oC71 P,oC72 P,oC73 P,oC74 P,oC75 P,oC76 P,oC77 P,oC78 P,oC79 P,oC80 P,oC81 P,oC82 P,oC83 P,oC84 P,oC85 P,oD86 P,oD87 P,oD88 P,oD89 P,oD90 P,oD91 P,oD92 P,oD93 P,oD94 P,oD95 P,oD96 P,oE97 P,oE98 P,oE99 P,zWf P,zWg P,zWh P,zX8 P]
noncomputable def oF3 (P:Params):Obj:=⟨(.type "dict"),none,(.dict #[de P "__name__" 165 (sv "cpy313.stringprep" 347),de P "__doc__" 166 .none,de P "__package__" 167 .none,de P "__loader__" 168 (.builtin "__main__.__loader__#opaque"),de P "__spec__" 169 .none,de P "__annotations__" 170 (.ref 6),de P "__builtins__" 171 (.ref 4),de P "__file__" 173 (sv "/claim/cut.py" 172),de P "__cached__" 174 .none,de P "_DIV_LIMIT" 190 (.int 4000 189),de P "_div2n1n" 207 (.ref 21),de P "_div3n2n" 221 (.ref 28),de P "_int2digits" 232 (.ref 35),de P "_digits2int" 243 (.ref 42),de P "_divmod_pos" 258 (.ref 49),de P "int_divmod" 268 (.ref 56),de P "COMPILER_FLAG_NAMES" 301 (.ref 57),de P "pretty_flags" 311 (.ref 64),de P "_parse_varint" 320 (.ref 71),de P "ELLIPSIS_MARKER" 324 (sv "..." 323),de P "_ellipsis_match" 336 (.ref 78),de P "_strip_exception_details" 346 (.ref 85),de P "b1_set" 408 (.ref 93),de P "in_table_b1" 415 (.ref 103),de P "b3_exceptions" 2366 (.ref 104)] 25),#[]⟩
noncomputable def yZa (P:Params):Obj:=⟨.type "dict",none,.dict sK.toArray 650,#[]⟩
noncomputable def yJ4 (P:Params):Obj:=subF 1
noncomputable def yJ5 (P:Params):Obj:=subF 2
noncomputable def yJ6 (P:Params):Obj:=subF 3
noncomputable def yJ7 (P:Params):Obj:=subF 4
noncomputable def yJ8 (P:Params):Obj:=subF 5
noncomputable def yJ9 (P:Params):Obj:=subF 6
noncomputable def yKa (P:Params):Obj:=subF 7
noncomputable def yKb (P:Params):Obj:=subF 8
noncomputable def yKc (P:Params):Obj:=subF 9
noncomputable def yKd (P:Params):Obj:=subF 10
noncomputable def yKe (P:Params):Obj:=subF 11
noncomputable def yKf (P:Params):Obj:=subF 12
noncomputable def yKg (P:Params):Obj:=subF 13
noncomputable def yKh (P:Params):Obj:=subF 14
noncomputable def yKi (P:Params):Obj:=subF 15
noncomputable def yKj (P:Params):Obj:=subF 16
noncomputable def yKk (P:Params):Obj:=subF 17
noncomputable def yKl (P:Params):Obj:=subF 18
noncomputable def yKm (P:Params):Obj:=subF 19
noncomputable def yKn (P:Params):Obj:=subF 20
noncomputable def yKo (P:Params):Obj:=subF 21
noncomputable def yKp (P:Params):Obj:=subF 22
noncomputable def yKq (P:Params):Obj:=subF 23
noncomputable def yKr (P:Params):Obj:=subF 24
noncomputable def yKs (P:Params):Obj:=subF 25
noncomputable def yKt (P:Params):Obj:=subF 26
noncomputable def yKu (P:Params):Obj:=subF 27
noncomputable def yKv (P:Params):Obj:=subF 28
noncomputable def yKw (P:Params):Obj:=subF 29
noncomputable def yKx (P:Params):Obj:=subF 30
noncomputable def yKy (P:Params):Obj:=subF 31
noncomputable def yKz (P:Params):Obj:=subF 32
noncomputable def yK0 (P:Params):Obj:=subF 33
noncomputable def yK1 (P:Params):Obj:=subF 34
noncomputable def yK2 (P:Params):Obj:=subF 35
noncomputable def yK3 (P:Params):Obj:=subF 36
noncomputable def yK4 (P:Params):Obj:=subF 37
noncomputable def yK5 (P:Params):Obj:=⟨.type "dict",none,.dict (sK.drop 646).toArray 4,#[]⟩
noncomputable def tF (P:Params):BT:=(.node (PySem.W.boot_o_0 P) (.node (PySem.W.boot_o_1 P) (.node (oF3 P) (.node (PySem.W.boot_o_7 P) (.node (oB15 P) (.node (oB31 P) (.node (oC63 P) (.node (yKq P) .nil .nil) .nil) (.node (oD95 P) .nil .nil)) (.node (oB47 P) (.node (oC79 P) .nil .nil) (.node (yKa P) .nil .nil))) (.node (oB23 P) (.node (oB39 P) (.node (oC71 P) (.node (yKy P) .nil .nil) .nil) (.node (zX8 P) .nil .nil)) (.node (oB55 P) (.node (oD87 P) .nil .nil) (.node (yKi P) .nil .nil)))) (.node (oP11 P) (.node (oB19 P) (.node (oB35 P) (.node (oC67 P) (.node (yKu P) .nil .nil) .nil) (.node (oE99 P) .nil .nil)) (.node (oB51 P) (.node (oC83 P) .nil .nil) (.node (yKe P) .nil .nil))) (.node (oB27 P) (.node (oB43 P) (.node (oC75 P) (.node (yK2 P) .nil .nil) .nil) (.node (yJ6 P) .nil .nil)) (.node (oC59 P) (.node (oD91 P) .nil .nil) (.node (yKm P) .nil .nil))))) (.node (PySem.W.boot_o_5 P) (.node (PySem.W.boot_o_9 P) (.node (oB17 P) (.node (oB33 P) (.node (oC65 P) (.node (yKs P) .nil .nil) .nil) (.node (oE97 P) .nil .nil)) (.node (oB49 P) (.node (oC81 P) .nil .nil) (.node (yKc P) .nil .nil))) (.node (oB25 P) (.node (oB41 P) (.node (oC73 P) (.node (yK0 P) .nil .nil) .nil) (.node (yJ4 P) .nil .nil)) (.node (oC57 P) (.node (oD89 P) .nil .nil) (.node (yKk P) .nil .nil)))) (.node (oP13 P) (.node (oB21 P) (.node (oB37 P) (.node (oC69 P) (.node (yKw P) .nil .nil) .nil) (.node (zWg P) .nil .nil)) (.node (oB53 P) (.node (oC85 P) .nil .nil) (.node (yKg P) .nil .nil))) (.node (oB29 P) (.node (oB45 P) (.node (oC77 P) (.node (yK4 P) .nil .nil) .nil) (.node (yJ8 P) .nil .nil)) (.node (oC61 P) (.node (oD93 P) .nil .nil) (.node (yKo P) .nil .nil)))))) (.node (PySem.W.boot_o_2 P) (.node (PySem.W.boot_o_4 P) (.node (PySem.W.boot_o_8 P) (.node (oB16 P) (.node (oB32 P) (.node (oC64 P) (.node (yKr P) .nil .nil) .nil) (.node (oD96 P) .nil .nil)) (.node (oB48 P) (.node (oC80 P) .nil .nil) (.node (yKb P) .nil .nil))) (.node (oB24 P) (.node (oB40 P) (.node (oC72 P) (.node (yKz P) .nil .nil) .nil) (.node (yZa P) .nil .nil)) (.node (oB56 P) (.node (oD88 P) .nil .nil) (.node (yKj P) .nil .nil)))) (.node (oE12 P) (.node (oB20 P) (.node (oB36 P) (.node (oC68 P) (.node (yKv P) .nil .nil) .nil) (.node (zWf P) .nil .nil)) (.node (oB52 P) (.node (oC84 P) .nil .nil) (.node (yKf P) .nil .nil))) (.node (oB28 P) (.node (oB44 P) (.node (oC76 P) (.node (yK3 P) .nil .nil) .nil) (.node (yJ7 P) .nil .nil)) (.node (oC60 P) (.node (oD92 P) .nil .nil) (.node (yKn P) .nil .nil))))) (.node (PySem.W.boot_o_6 P) (.node (PySem.W.boot_o_10 P) (.node (oB18 P) (.node (oB34 P) (.node (oC66 P) (.node (yKt P) .nil .nil) .nil) (.node (oE98 P) .nil .nil)) (.node (oB50 P) (.node (oC82 P) .nil .nil) (.node (yKd P) .nil .nil))) (.node (oB26 P) (.node (oB42 P) (.node (oC74 P) (.node (yK1 P) .nil .nil) .nil) (.node (yJ5 P) .nil .nil)) (.node (oC58 P) (.node (oD90 P) .nil .nil) (.node (yKl P) .nil .nil)))) (.node (oP14 P) (.node (oB22 P) (.node (oB38 P) (.node (oC70 P) (.node (yKx P) .nil .nil) .nil) (.node (zWh P) .nil .nil)) (.node (oB54 P) (.node (oD86 P) .nil .nil) (.node (yKh P) .nil .nil))) (.node (oB30 P) (.node (oB46 P) (.node (oC78 P) (.node (yK5 P) .nil .nil) .nil) (.node (yJ9 P) .nil .nil)) (.node (oC62 P) (.node (oD94 P) .nil .nil) (.node (yKp P) .nil .nil)))))))
noncomputable def oG3 (P:Params):Obj:=⟨(.type "dict"),none,(.dict #[de P "__name__" 165 (sv "law_ta0114_01" 2375),de P "__doc__" 166 .none,de P "__package__" 167 .none,de P "__loader__" 168 (.builtin "__main__.__loader__#opaque"),de P "__spec__" 169 .none,de P "__annotations__" 170 (.ref 6),de P "__builtins__" 171 (.ref 4),de P "__file__" 173 (sv "/claim/cut.py" 172),de P "__cached__" 174 .none,de P "_DIV_LIMIT" 190 (.int 4000 189),de P "_div2n1n" 207 (.ref 21),de P "_div3n2n" 221 (.ref 28),de P "_int2digits" 232 (.ref 35),de P "_digits2int" 243 (.ref 42),de P "_divmod_pos" 258 (.ref 49),de P "int_divmod" 268 (.ref 56),de P "COMPILER_FLAG_NAMES" 301 (.ref 57),de P "pretty_flags" 311 (.ref 64),de P "_parse_varint" 320 (.ref 71),de P "ELLIPSIS_MARKER" 324 (sv "..." 323),de P "_ellipsis_match" 336 (.ref 78),de P "_strip_exception_details" 346 (.ref 85),de P "b1_set" 408 (.ref 93),de P "in_table_b1" 415 (.ref 103),de P "b3_exceptions" 2366 (.ref 104),de P "map_table_b3" 2374 (.ref 149),de P "_law_unseen" 2382 (.ref 156),de P "_law_name" 2396 (.ref 163),de P "_law_octets" 2402 (.ref 168),de P "_law_read" 2412 (.ref 175),de P "_law_plain" 2418 (.ref 180),de P "_law_factors" 2424 (.ref 185),de P "law" 2430 (.ref 190)] 33),#[]⟩
noncomputable def oG12 (P:Params):Obj:=⟨.none,none,(.fields #[(.int 3 0),(.int 0 0),(.ref 20),(.int 19 0),(.int 0 0),(.ref 27),(.int 29 0),(.int 0 0),(.ref 34),(.int 45 0),(.int 0 0),(.ref 41),(.int 54 0),(.int 0 0),(.ref 48),(.int 65 0),(.int 0 0),(.ref 55),(.int 78 0),(.int 0 0),(.ref 63),(.int 90 0),(.int 0 0),(.ref 70),(.int 100 0),(.int 0 0),(.ref 77),(.int 128 0),(.int 0 0),(.ref 84),(.int 142 0),(.int 0 0),(.ref 102),(.int 145 0),(.int 0 0),(.ref 148),(.int 151 0),(.int 0 0),(.ref 155),(.int 153 0),(.int 0 0),(.ref 162),(.int 162 0),(.int 0 0),(.ref 167),(.int 169 0),(.int 0 0),(.ref 174),(.int 176 0),(.int 0 0),(.ref 179),(.int 181 0),(.int 0 0),(.ref 184),(.int 188 0),(.int 0 0),(.ref 189)]),#[]⟩
noncomputable def xQa (P:Params):Obj:=⟨(.type "tuple"),none,(.seq #[] 0),#[]⟩
noncomputable def xQb (P:Params):Obj:=⟨.none,none,(.fields #[]),#[]⟩
noncomputable def xQc (P:Params):Obj:=⟨(.type "tuple"),none,(.seq #[(sv "code" 2370),(sv "r" 2371)] 0),#[]⟩
noncomputable def xQd (P:Params):Obj:=⟨(.type "tuple"),none,(.seq #[] 0),#[]⟩
noncomputable def xQe (P:Params):Obj:=⟨.none,none,(.func { name:="map_table_b3",qualname:="map_table_b3",params:=fdP 20,body:=.stmts (fdB 20),scope:=fdSc 20,globals:=0,closure:=[],defaults:=.none,kwdefaults:=.none,doc:=.none,pyModule:=.none,annotations:=none,code:=.none,closureTuple:=.none,builtins:=0 }),#[]⟩
noncomputable def xQf (P:Params):Obj:=⟨(.type "code"),none,(.fields #[(sv "map_table_b3" 2367),(sv "map_table_b3" 2368),(sv "/claim/cut.py" 2369),(.int 145 0),(.int 1 0),(.int 0 0),(.int 0 0),(.int 3 0),(.ref 143),(.bool true),(.int 181 0),(.ref 144),.none,(.ref 145),(.ref 146),(.ref 147),(.int 2372 0),(.int 145 0),(sv "/claim/cut.py" 2373)]),#[]⟩
noncomputable def yK6 (P:Params):Obj:=⟨(.type "function"),none,(.func { name:="map_table_b3",qualname:="map_table_b3",params:=fdP 20,body:=.stmts (fdB 20),scope:=fdSc 20,globals:=3,closure:=[],defaults:=.none,kwdefaults:=.none,doc:=.none,pyModule:=(sv "cpy313.stringprep" 347),annotations:=none,code:=(.ref 148),closureTuple:=.none,builtins:=0 }),#[]⟩
noncomputable def xQg (P:Params):Obj:=⟨(.type "tuple"),none,(.seq #[] 0),#[]⟩
noncomputable def xQh (P:Params):Obj:=⟨.none,none,(.fields #[]),#[]⟩
noncomputable def xQi (P:Params):Obj:=⟨(.type "tuple"),none,(.seq #[] 0),#[]⟩
noncomputable def xQj (P:Params):Obj:=⟨(.type "tuple"),none,(.seq #[] 0),#[]⟩
noncomputable def xQk (P:Params):Obj:=⟨.none,none,(.func { name:="_law_unseen",qualname:="_law_unseen",params:=fdP 22,body:=.stmts (fdB 22),scope:=fdSc 22,globals:=0,closure:=[],defaults:=.none,kwdefaults:=.none,doc:=.none,pyModule:=.none,annotations:=none,code:=.none,closureTuple:=.none,builtins:=0 }),#[]⟩
noncomputable def xQl (P:Params):Obj:=⟨(.type "code"),none,(.fields #[(sv "_law_unseen" 2377),(sv "_law_unseen" 2378),(sv "/claim/cut.py" 2379),(.int 151 0),(.int 0 0),(.int 0 0),(.int 0 0),(.int 3 0),(.ref 150),(.bool true),(.int 181 0),(.ref 151),.none,(.ref 152),(.ref 153),(.ref 154),(.int 2380 0),(.int 151 0),(sv "/claim/cut.py" 2381)]),#[]⟩
noncomputable def yK7 (P:Params):Obj:=⟨(.type "function"),none,(.func { name:="_law_unseen",qualname:="_law_unseen",params:=fdP 22,body:=.stmts (fdB 22),scope:=fdSc 22,globals:=3,closure:=[],defaults:=.none,kwdefaults:=.none,doc:=.none,pyModule:=(sv "law_ta0114_01" 2375),annotations:=none,code:=(.ref 155),closureTuple:=.none,builtins:=0 }),#[]⟩
noncomputable def xQm (P:Params):Obj:=⟨(.type "tuple"),none,(.seq #[] 0),#[]⟩
noncomputable def xQn (P:Params):Obj:=⟨.none,none,(.fields #[]),#[]⟩
noncomputable def xQo (P:Params):Obj:=⟨(.type "tuple"),none,(.seq #[(sv "letters" 2386),(sv "pick" 2387),(sv "noise" 2388),(sv "great" 2389),(sv "name" 2390),(sv "k" 2391),(sv "form" 2392),(sv "own" 2393)] 0),#[]⟩
noncomputable def xQp (P:Params):Obj:=⟨(.type "tuple"),none,(.seq #[] 0),#[]⟩
noncomputable def xQq (P:Params):Obj:=⟨.none,none,(.func { name:="_law_name",qualname:="_law_name",params:=fdP 23,body:=.stmts (fdB 23),scope:=fdSc 23,globals:=0,closure:=[],defaults:=.none,kwdefaults:=.none,doc:=.none,pyModule:=.none,annotations:=none,code:=.none,closureTuple:=.none,builtins:=0 }),#[]⟩
noncomputable def xQr (P:Params):Obj:=⟨(.type "code"),none,(.fields #[(sv "_law_name" 2383),(sv "_law_name" 2384),(sv "/claim/cut.py" 2385),(.int 153 0),(.int 3 0),(.int 0 0),(.int 0 0),(.int 3 0),(.ref 157),(.bool true),(.int 181 0),(.ref 158),.none,(.ref 159),(.ref 160),(.ref 161),(.int 2394 0),(.int 153 0),(sv "/claim/cut.py" 2395)]),#[]⟩
noncomputable def yK8 (P:Params):Obj:=⟨(.type "function"),none,(.func { name:="_law_name",qualname:="_law_name",params:=fdP 23,body:=.stmts (fdB 23),scope:=fdSc 23,globals:=3,closure:=[],defaults:=.none,kwdefaults:=.none,doc:=.none,pyModule:=(sv "law_ta0114_01" 2375),annotations:=none,code:=(.ref 162),closureTuple:=.none,builtins:=0 }),#[]⟩
noncomputable def xQs (P:Params):Obj:=⟨(.type "tuple"),none,(.seq #[] 0),#[]⟩
noncomputable def xQt (P:Params):Obj:=⟨.none,none,(.fields #[]),#[]⟩
noncomputable def xQu (P:Params):Obj:=⟨.none,none,(.func { name:="_law_octets",qualname:="_law_octets",params:=fdP 24,body:=.stmts (fdB 24),scope:=fdSc 24,globals:=0,closure:=[],defaults:=.none,kwdefaults:=.none,doc:=.none,pyModule:=.none,annotations:=none,code:=.none,closureTuple:=.none,builtins:=0 }),#[]⟩
noncomputable def xQv (P:Params):Obj:=⟨(.type "code"),none,(.fields #[(sv "_law_octets" 2397),(sv "_law_octets" 2398),(sv "/claim/cut.py" 2399),(.int 162 0),(.int 1 0),(.int 0 0),(.int 0 0),(.int 3 0),(.ref 164),(.bool true),(.int 181 0),(.ref 165),.none,.none,.none,(.ref 166),(.int 2400 0),(.int 162 0),(sv "/claim/cut.py" 2401)]),#[]⟩
noncomputable def yK9 (P:Params):Obj:=⟨(.type "function"),none,(.func { name:="_law_octets",qualname:="_law_octets",params:=fdP 24,body:=.stmts (fdB 24),scope:=fdSc 24,globals:=3,closure:=[],defaults:=.none,kwdefaults:=.none,doc:=.none,pyModule:=(sv "law_ta0114_01" 2375),annotations:=none,code:=(.ref 167),closureTuple:=.none,builtins:=0 }),#[]⟩
noncomputable def xQw (P:Params):Obj:=⟨(.type "tuple"),none,(.seq #[] 0),#[]⟩
noncomputable def xQx (P:Params):Obj:=⟨.none,none,(.fields #[]),#[]⟩
noncomputable def xQy (P:Params):Obj:=⟨(.type "tuple"),none,(.seq #[(sv "octets" 2406),(sv "tape" 2407),(sv "numbers" 2408),(sv "turn" 2409)] 0),#[]⟩
noncomputable def xQz (P:Params):Obj:=⟨(.type "tuple"),none,(.seq #[] 0),#[]⟩
noncomputable def xQ0 (P:Params):Obj:=⟨.none,none,(.func { name:="_law_read",qualname:="_law_read",params:=fdP 25,body:=.stmts (fdB 25),scope:=fdSc 25,globals:=0,closure:=[],defaults:=.none,kwdefaults:=.none,doc:=.none,pyModule:=.none,annotations:=none,code:=.none,closureTuple:=.none,builtins:=0 }),#[]⟩
noncomputable def xQ1 (P:Params):Obj:=⟨(.type "code"),none,(.fields #[(sv "_law_read" 2403),(sv "_law_read" 2404),(sv "/claim/cut.py" 2405),(.int 169 0),(.int 1 0),(.int 0 0),(.int 0 0),(.int 3 0),(.ref 169),(.bool true),(.int 181 0),(.ref 170),.none,(.ref 171),(.ref 172),(.ref 173),(.int 2410 0),(.int 169 0),(sv "/claim/cut.py" 2411)]),#[]⟩
noncomputable def yVa (P:Params):Obj:=⟨(.type "function"),none,(.func { name:="_law_read",qualname:="_law_read",params:=fdP 25,body:=.stmts (fdB 25),scope:=fdSc 25,globals:=3,closure:=[],defaults:=.none,kwdefaults:=.none,doc:=.none,pyModule:=(sv "law_ta0114_01" 2375),annotations:=none,code:=(.ref 174),closureTuple:=.none,builtins:=0 }),#[]⟩
noncomputable def xQ2 (P:Params):Obj:=⟨(.type "tuple"),none,(.seq #[] 0),#[]⟩
noncomputable def xQ3 (P:Params):Obj:=⟨.none,none,(.fields #[]),#[]⟩
noncomputable def xQ4 (P:Params):Obj:=⟨.none,none,(.func { name:="_law_plain",qualname:="_law_plain",params:=fdP 26,body:=.stmts (fdB 26),scope:=fdSc 26,globals:=0,closure:=[],defaults:=.none,kwdefaults:=.none,doc:=.none,pyModule:=.none,annotations:=none,code:=.none,closureTuple:=.none,builtins:=0 }),#[]⟩
noncomputable def xQ5 (P:Params):Obj:=⟨(.type "code"),none,(.fields #[(sv "_law_plain" 2413),(sv "_law_plain" 2414),(sv "/claim/cut.py" 2415),(.int 176 0),(.int 2 0),(.int 0 0),(.int 0 0),(.int 3 0),(.ref 176),(.bool true),(.int 181 0),(.ref 177),.none,.none,.none,(.ref 178),(.int 2416 0),(.int 176 0),(sv "/claim/cut.py" 2417)]),#[]⟩
noncomputable def yVb (P:Params):Obj:=⟨(.type "function"),none,(.func { name:="_law_plain",qualname:="_law_plain",params:=fdP 26,body:=.stmts (fdB 26),scope:=fdSc 26,globals:=3,closure:=[],defaults:=.none,kwdefaults:=.none,doc:=.none,pyModule:=(sv "law_ta0114_01" 2375),annotations:=none,code:=(.ref 179),closureTuple:=.none,builtins:=0 }),#[]⟩
noncomputable def xQ6 (P:Params):Obj:=⟨(.type "tuple"),none,(.seq #[] 0),#[]⟩
noncomputable def xQ7 (P:Params):Obj:=⟨.none,none,(.fields #[]),#[]⟩
noncomputable def xQ8 (P:Params):Obj:=⟨.none,none,(.func { name:="_law_factors",qualname:="_law_factors",params:=fdP 27,body:=.stmts (fdB 27),scope:=fdSc 27,globals:=0,closure:=[],defaults:=.none,kwdefaults:=.none,doc:=.none,pyModule:=.none,annotations:=none,code:=.none,closureTuple:=.none,builtins:=0 }),#[]⟩
noncomputable def xQ9 (P:Params):Obj:=⟨(.type "code"),none,(.fields #[(sv "_law_factors" 2419),(sv "_law_factors" 2420),(sv "/claim/cut.py" 2421),(.int 181 0),(.int 1 0),(.int 0 0),(.int 0 0),(.int 3 0),(.ref 181),(.bool true),(.int 181 0),(.ref 182),.none,.none,.none,(.ref 183),(.int 2422 0),(.int 181 0),(sv "/claim/cut.py" 2423)]),#[]⟩
noncomputable def yVc (P:Params):Obj:=⟨(.type "function"),none,(.func { name:="_law_factors",qualname:="_law_factors",params:=fdP 27,body:=.stmts (fdB 27),scope:=fdSc 27,globals:=3,closure:=[],defaults:=.none,kwdefaults:=.none,doc:=.none,pyModule:=(sv "law_ta0114_01" 2375),annotations:=none,code:=(.ref 184),closureTuple:=.none,builtins:=0 }),#[]⟩
noncomputable def xZa (P:Params):Obj:=⟨(.type "tuple"),none,(.seq #[] 0),#[]⟩
noncomputable def xZb (P:Params):Obj:=⟨.none,none,(.fields #[]),#[]⟩
noncomputable def xZc (P:Params):Obj:=⟨.none,none,(.func { name:="law",qualname:="law",params:=fdP 28,body:=.stmts (fdB 28),scope:=fdSc 28,globals:=0,closure:=[],defaults:=.none,kwdefaults:=.none,doc:=.none,pyModule:=.none,annotations:=none,code:=.none,closureTuple:=.none,builtins:=0 }),#[]⟩
noncomputable def xZd (P:Params):Obj:=⟨(.type "code"),none,(.fields #[(sv "law" 2425),(sv "law" 2426),(sv "/claim/cut.py" 2427),(.int 188 0),(.int 1 0),(.int 0 0),(.int 0 0),(.int 3 0),(.ref 186),(.bool true),(.int 181 0),(.ref 187),.none,.none,.none,(.ref 188),(.int 2428 0),(.int 188 0),(sv "/claim/cut.py" 2429)]),#[]⟩
noncomputable def yVd (P:Params):Obj:=⟨(.type "function"),none,(.func { name:="law",qualname:="law",params:=fdP 28,body:=.stmts (fdB 28),scope:=fdSc 28,globals:=3,closure:=[],defaults:=.none,kwdefaults:=.none,doc:=.none,pyModule:=(sv "law_ta0114_01" 2375),annotations:=none,code:=(.ref 189),closureTuple:=.none,builtins:=0 }),#[]⟩
noncomputable def tG (P:Params):BT:=(.node (PySem.W.boot_o_0 P) (.node (PySem.W.boot_o_1 P) (.node (oG3 P) (.node (PySem.W.boot_o_7 P) (.node (oB15 P) (.node (oB31 P) (.node (oC63 P) (.node (yKq P) .nil .nil) .nil) (.node (oD95 P) (.node (xQo P) .nil .nil) .nil)) (.node (oB47 P) (.node (oC79 P) (.node (xQa P) .nil .nil) .nil) (.node (yKa P) (.node (yVa P) .nil .nil) .nil))) (.node (oB23 P) (.node (oB39 P) (.node (oC71 P) (.node (yKy P) .nil .nil) .nil) (.node (zX8 P) (.node (xQv P) .nil .nil) .nil)) (.node (oB55 P) (.node (oD87 P) (.node (xQh P) .nil .nil) .nil) (.node (yKi P) (.node (xQ8 P) .nil .nil) .nil)))) (.node (oP11 P) (.node (oB19 P) (.node (oB35 P) (.node (oC67 P) (.node (yKu P) .nil .nil) .nil) (.node (oE99 P) (.node (yK8 P) .nil .nil) .nil)) (.node (oB51 P) (.node (oC83 P) (.node (xQe P) .nil .nil) .nil) (.node (yKe P) (.node (xQ5 P) .nil .nil) .nil))) (.node (oB27 P) (.node (oB43 P) (.node (oC75 P) (.node (yK2 P) .nil .nil) .nil) (.node (yJ6 P) (.node (xQy P) .nil .nil) .nil)) (.node (oC59 P) (.node (oD91 P) (.node (xQl P) .nil .nil) .nil) (.node (yKm P) (.node (xZb P) .nil .nil) .nil))))) (.node (PySem.W.boot_o_5 P) (.node (PySem.W.boot_o_9 P) (.node (oB17 P) (.node (oB33 P) (.node (oC65 P) (.node (yKs P) .nil .nil) .nil) (.node (oE97 P) (.node (xQq P) .nil .nil) .nil)) (.node (oB49 P) (.node (oC81 P) (.node (xQc P) .nil .nil) .nil) (.node (yKc P) (.node (xQ3 P) .nil .nil) .nil))) (.node (oB25 P) (.node (oB41 P) (.node (oC73 P) (.node (yK0 P) .nil .nil) .nil) (.node (yJ4 P) (.node (xQw P) .nil .nil) .nil)) (.node (oC57 P) (.node (oD89 P) (.node (xQj P) .nil .nil) .nil) (.node (yKk P) (.node (yVc P) .nil .nil) .nil)))) (.node (oP13 P) (.node (oB21 P) (.node (oB37 P) (.node (oC69 P) (.node (yKw P) .nil .nil) .nil) (.node (zWg P) (.node (xQt P) .nil .nil) .nil)) (.node (oB53 P) (.node (oC85 P) (.node (yK6 P) .nil .nil) .nil) (.node (yKg P) (.node (xQ6 P) .nil .nil) .nil))) (.node (oB29 P) (.node (oB45 P) (.node (oC77 P) (.node (yK4 P) .nil .nil) .nil) (.node (yJ8 P) (.node (xQ0 P) .nil .nil) .nil)) (.node (oC61 P) (.node (oD93 P) (.node (xQm P) .nil .nil) .nil) (.node (yKo P) (.node (xZd P) .nil .nil) .nil)))))) (.node (PySem.W.boot_o_2 P) (.node (PySem.W.boot_o_4 P) (.node (PySem.W.boot_o_8 P) (.node (oB16 P) (.node (oB32 P) (.node (oC64 P) (.node (yKr P) .nil .nil) .nil) (.node (oD96 P) (.node (xQp P) .nil .nil) .nil)) (.node (oB48 P) (.node (oC80 P) (.node (xQb P) .nil .nil) .nil) (.node (yKb P) (.node (xQ2 P) .nil .nil) .nil))) (.node (oB24 P) (.node (oB40 P) (.node (oC72 P) (.node (yKz P) .nil .nil) .nil) (.node (yZa P) (.node (yK9 P) .nil .nil) .nil)) (.node (oB56 P) (.node (oD88 P) (.node (xQi P) .nil .nil) .nil) (.node (yKj P) (.node (xQ9 P) .nil .nil) .nil)))) (.node (oG12 P) (.node (oB20 P) (.node (oB36 P) (.node (oC68 P) (.node (yKv P) .nil .nil) .nil) (.node (zWf P) (.node (xQs P) .nil .nil) .nil)) (.node (oB52 P) (.node (oC84 P) (.node (xQf P) .nil .nil) .nil) (.node (yKf P) (.node (yVb P) .nil .nil) .nil))) (.node (oB28 P) (.node (oB44 P) (.node (oC76 P) (.node (yK3 P) .nil .nil) .nil) (.node (yJ7 P) (.node (xQz P) .nil .nil) .nil)) (.node (oC60 P) (.node (oD92 P) (.node (yK7 P) .nil .nil) .nil) (.node (yKn P) (.node (xZc P) .nil .nil) .nil))))) (.node (PySem.W.boot_o_6 P) (.node (PySem.W.boot_o_10 P) (.node (oB18 P) (.node (oB34 P) (.node (oC66 P) (.node (yKt P) .nil .nil) .nil) (.node (oE98 P) (.node (xQr P) .nil .nil) .nil)) (.node (oB50 P) (.node (oC82 P) (.node (xQd P) .nil .nil) .nil) (.node (yKd P) (.node (xQ4 P) .nil .nil) .nil))) (.node (oB26 P) (.node (oB42 P) (.node (oC74 P) (.node (yK1 P) .nil .nil) .nil) (.node (yJ5 P) (.node (xQx P) .nil .nil) .nil)) (.node (oC58 P) (.node (oD90 P) (.node (xQk P) .nil .nil) .nil) (.node (yKl P) (.node (xZa P) .nil .nil) .nil)))) (.node (oP14 P) (.node (oB22 P) (.node (oB38 P) (.node (oC70 P) (.node (yKx P) .nil .nil) .nil) (.node (zWh P) (.node (xQu P) .nil .nil) .nil)) (.node (oB54 P) (.node (oD86 P) (.node (xQg P) .nil .nil) .nil) (.node (yKh P) (.node (xQ7 P) .nil .nil) .nil))) (.node (oB30 P) (.node (oB46 P) (.node (oC78 P) (.node (yK5 P) .nil .nil) .nil) (.node (yJ9 P) (.node (xQ1 P) .nil .nil) .nil)) (.node (oC62 P) (.node (oD94 P) (.node (xQn P) .nil .nil) .nil) (.node (yKp P) (.node (yVd P) .nil .nil) .nil)))))))
end
inductive V where
 | none
 | bool (b:Bool)
 | int (i:Int)
 | str (x:Str)
 | tup (l:List V)
 | lst (l:List V)
 | ref (a:Addr)
 | bi (id:String)
 deriving Inhabited
mutual
noncomputable def Rd (h:Heap) (off:Addr→Prop):V→Value→Prop
 | .none,v=>v=.none
 | .bool b,v=>v=.bool b
 | .int i,v=>∃ t,v=.int i t
 | .str x,v=>∃ t,v=.str x t
 | .tup l,v=>∃ a vs,v=.ref a∧¬ off a∧h.IsTuple a vs∧RdL h off l vs.toList
 | .lst l,v=>∃ a vs,v=.ref a∧¬ off a∧h.PlainList a vs∧RdL h off l vs.toList
 | .ref a,v=>v=.ref a
 | .bi id,v=>v=.builtin id
noncomputable def RdL (h:Heap) (off:Addr→Prop):List V→List Value→Prop
 | [],l=>l=[]
 | x :: xs,l=>∃ v vs,l=v :: vs∧Rd h off x v∧RdL h off xs vs
end
noncomputable def Hid (b:Addr):Bool:=b == 30 || b == 37
noncomputable def zWi (o:Obj):Bool:=match o.cls,o.data with
 | .none,.fields _=>true
 | _,_=>false
noncomputable def Firm (b:Addr) (o:Obj):Prop:=Hid b=false∨zWi o=false
theorem Firm.nf {b:Addr} {o:Obj} (h:∀ vs,o.data≠.fields vs):Firm b o:=.inr (by
 unfold zWi
 split
 ·rename_i e;exact absurd e (h _)
 ·rfl)
theorem Firm.ty {b:Addr} {o:Obj} {n:String} (h:o.cls=.type n):Firm b o:=.inr (by unfold zWi;rw [h])
noncomputable abbrev tabO (ps:Array Value):Obj:={ cls:=.none,data:=.fields ps }
noncomputable def Inv1 (P:Addr) (ln cl:Nat) (q:Str) (h:Heap):Prop:=∃ ps,h.get? P=some (tabO ps)∧(ps=#[]∨∃ c,ps=#[rawInt ln,rawInt cl,.ref c]∧Hid c=false∧h.CodeRec (.ref c) q)
noncomputable def zW (h:Heap):Prop:=Inv1 30 32 4 "_int2digits.<locals>.inner" h∧Inv1 37 47 4 "_digits2int.<locals>.inner" h
noncomputable def Soft (o:Obj):Prop:=(∀ vs,o.data≠.fields vs)∨∃ n vs,o.cls=.type n∧o.data=.fields vs∧∀ q t,vs[1]?≠some (Value.str q t)
theorem Inv1.gen {P:Addr} {ln cl:Nat} {q:Str} {h h':Heap} (x:Inv1 P ln cl q h) (kP:∀ ps,h.get? P=some (tabO ps)→h'.get? P=some (tabO ps))
  (kc:∀ b o vs t,h.get? b=some o→o.data=.fields vs→vs[1]?=some (.str q t)→h'.get? b=some o):Inv1 P ln cl q h':=by
 apply bc;intro hQ;rcases x with ⟨ps,h1,h2⟩;refine hQ ?_;clear hQ
 refine ⟨ps,kP _ h1,h2.imp_right fun h2=>?_⟩
 apply bc;intro hQ;rcases h2 with ⟨c,e1,e2,c',o,vs,t,e3,e4,e5,e6⟩;refine hQ ?_;clear hQ
 exact ⟨c,e1,e2,c',o,vs,t,e3,kc _ _ _ _ e4 e5 e6,e5,e6⟩
theorem Inv1.soft {P:Addr} {ln cl:Nat} {q:Str} {h h':Heap} (x:Inv1 P ln cl q h) (k:∀ b o,¬ Soft o→h.get? b=some o→h'.get? b=some o):Inv1 P ln cl q h' :=
 x.gen (fun ps e=>k _ _ (fun s=>by
  rcases s with s | ⟨n,vs,s,_⟩
  ·exact s ps rfl
  ·contradiction) e) fun b o vs t e e5 e6=>k _ _ (fun s=>by
  rcases s with s | ⟨n,vs',s1,s2,s3⟩
  ·exact s vs e5
  ·rw [e5] at s2;(injection s2 with s2;subst s2)
   exact s3 _ _ e6) e
theorem Inv1.but {P:Addr} {ln cl:Nat} {q:Str} {h h':Heap} {B:Addr} (x:Inv1 P ln cl q h) (hB:∀ o,h.get? B=some o→Soft o) (k:∀ b o,b≠B→h.get? b=some o→h'.get? b=some o):Inv1 P ln cl q h' :=
 x.soft fun b o ns e=>k b o (fun hb=>ns (hB o (hb ▸ e))) e
theorem zW.but {h h':Heap} {B:Addr} (x:zW h) (hB:∀ o,h.get? B=some o→Soft o) (k:∀ b o,b≠B→h.get? b=some o→h'.get? b=some o):zW h':=⟨x.1.but hB k,x.2.but hB k⟩
theorem zW.all {h h':Heap} (x:zW h) (k:∀ b o,h.get? b=some o→h'.get? b=some o):zW h' :=
 ⟨x.1.soft fun b o _ e=>k b o e,x.2.soft fun b o _ e=>k b o e⟩
structure KX (X:Addr→Prop) (h h':Heap):Prop where
 obj:∀ b o,¬ X b→h.get? b=some o→Firm b o→h'.get? b=some o
 live:∀ b o,¬ X b→h.get? b=some o→∃ o',h'.get? b=some o'
 inv:zW h→zW h'
structure Keep (h h':Heap):Prop where
 obj:∀ b o,h.get? b=some o→Firm b o→h'.get? b=some o
 live:∀ b o,h.get? b=some o→∃ o',h'.get? b=some o'
 inv:zW h→zW h'
theorem Keep.of {h h':Heap} (k:∀ b o,h.get? b=some o→h'.get? b=some o):Keep h h':=⟨fun b o e _=>k b o e,fun b o e=>⟨o,k b o e⟩,fun x=>x.all k⟩
theorem Keep.refl (h:Heap):Keep h h:=.of fun _ _ e=>e
theorem Keep.trans {a b c:Heap} (x:Keep a b) (y:Keep b c):Keep a c:=⟨fun i o e f=>y.obj i o (x.obj i o e f) f,fun i o e=>let ⟨o',e'⟩:=x.live i o e;y.live i o' e',fun t=>y.inv (x.inv t)⟩
theorem Keep.push (h:Heap) (o:Obj):Keep h (h.push o):=.of fun _ _ e=>Heap.get?_push_of_some o e
theorem Keep.none {h h':Heap} (k:Keep h h') {a:Addr} (e:h'.get? a=none):h.get? a=none:=by
 cases q:h.get? a with
 | none=>rfl
 | some o=>obtain ⟨o',e'⟩:=k.live a o q;rw [e] at e';contradiction
theorem KX.of {X:Addr→Prop} {h h':Heap} (k:Keep h h'):KX X h h':=⟨fun b o _ e f=>k.obj b o e f,fun b o _ e=>k.live b o e,k.inv⟩
theorem KX.trans {X:Addr→Prop} {a b c:Heap} (x:KX X a b) (y:KX X b c):KX X a c:=⟨fun i o n e f=>y.obj i o n (x.obj i o n e f) f,fun i o n e=>let ⟨o',e'⟩:=x.live i o n e;y.live i o' n e',fun t=>y.inv (x.inv t)⟩
theorem KX.le {X Y:Addr→Prop} {a b:Heap} (x:KX X a b) (l:∀ i,X i→Y i):KX Y a b:=⟨fun i o n e f=>x.obj i o (fun q=>n (l i q)) e f,fun i o n e=>x.live i o (fun q=>n (l i q)) e,x.inv⟩
theorem xk {h:Heap} {a:Addr} {m:Str→Option Value} {o:Obj} (hn:h.Ns a m) (e:h.get? a=some o):∃ es ep,o.data=.dict es ep:=by
 apply bc;intro hQ;rcases hn with ⟨o',es,ep,q1,q2,_⟩;refine hQ ?_;clear hQ
 rw [e] at q1;(injection q1 with q1;subst q1)
 exact ⟨es,ep,q2⟩
theorem iK {h:Heap} {a b:Addr} {m:Str→Option Value} {o:Obj} (hn:h.Ns a m) (e:h.get? b=some o) (nd:∀ es ep,o.data≠.dict es ep):b≠a:=by
 rintro rfl
 obtain ⟨es,ep,q⟩:=xk hn e
 exact nd es ep q
theorem lW {α:Type} {P:α→Prop} {a b c:α} (h1:P a) (h2:P b) (h3:P c):∀ x∈[a,b,c],P x:=List.forall_mem_cons.mpr ⟨h1,List.forall_mem_cons.mpr ⟨h2,List.forall_mem_cons.mpr ⟨h3,fun _ h=>nomatch h⟩⟩⟩
theorem sV {α:Type} {l r:List α} {i:Nat} {x:α} (h:l.drop i=x :: r):l[i]?=some x:=by
 have:=congrArg List.head? h
 rw [List.head?_drop] at this;exact this
theorem vZ {α:Type} {l r:List α} {i:Nat} {x:α} (h:l.drop i=x :: r):l.drop (i + 1)=r:=by
 have:=congrArg List.tail h
 rw [List.tail_drop] at this;exact this
theorem lY {α:Type} {l r:List α} {i:Nat} {x:α} (h:l.drop i=x :: r):i < l.length:=(List.getElem?_eq_some_iff.mp (sV h)).1
theorem gY {α:Type} {l:List α} {i:Nat} (h:l.drop i=[]) (hi:i≤l.length):i=l.length:=Nat.le_antisymm hi (List.drop_eq_nil_iff.mp h)
theorem lq {α:Type} {l:List (Str×α)} {x y:Str} {a:α} (h:l.lookup x=none) (e:l.lookup y=some a):y≠x:=fun q=>by rw [q,h] at e;contradiction
theorem KX.but {X:Addr→Prop} {h h':Heap} {B:Addr} (hX:X B) (hB:∀ o,h.get? B=some o→Soft o) (k:∀ b o,b≠B→h.get? b=some o→h'.get? b=some o):KX X h h' :=
 have ne:∀ b,¬ X b→b≠B:=fun b n e=>n (e ▸ hX)
 ⟨fun b o n e _=>k b o (ne b n) e,fun b o n e=>⟨o,k b o (ne b n) e⟩,fun x=>x.but hB k⟩
theorem Soft.ns {h:Heap} {a:Addr} {m:Str→Option Value} (x:h.Ns a m):∀ o,h.get? a=some o→Soft o:=fun o e=>.inl fun vs d=>by
 obtain ⟨o',es,ep,h1,h2,_⟩:=x
 rw [e] at h1;(injection h1 with h1;subst h1);rw [h2] at d;contradiction
theorem Soft.cell {h:Heap} {a:Addr} {v:Option Value} (x:h.IsCell a v):∀ o,h.get? a=some o→Soft o:=fun o e=>.inl fun vs d=>by
 obtain ⟨o',h1,h2⟩:=x
 rw [e] at h1;(injection h1 with h1;subst h1);rw [h2] at d;contradiction
theorem Soft.plain {h:Heap} {a:Addr} {its:Array Value} (x:h.PlainList a its):∀ o,h.get? a=some o→Soft o:=fun o e=>.inl fun vs d=>by
 obtain ⟨n,h1⟩:=x
 rw [e] at h1;(injection h1 with h1;subst h1);contradiction
theorem Ns.keep {h h':Heap} {a:Addr} {m:Str→Option Value} (x:h.Ns a m) (k:Keep h h'):h'.Ns a m:=x.at' fun o e=>k.obj a o e (by
 apply bc;intro hQ;rcases x with ⟨o',es,ep,h1,h2,_⟩;refine hQ ?_;clear hQ
 rw [e] at h1;(injection h1 with h1;subst h1)
 exact .nf fun vs d=>by rw [h2] at d;contradiction)
theorem IsCell.keep {h h':Heap} {a:Addr} {v:Option Value} (x:h.IsCell a v) (k:Keep h h'):h'.IsCell a v:=by
 obtain ⟨o,h1,h2⟩:=x
 exact ⟨o,k.obj a o h1 (.nf fun vs d=>by rw [h2] at d;contradiction),h2⟩
theorem PlainList.keep {h h':Heap} {a:Addr} {vs:Array Value} (x:h.PlainList a vs) (k:Keep h h'):h'.PlainList a vs:=by
 obtain ⟨n,e⟩:=x
 exact ⟨n,k.obj a _ e (.ty rfl)⟩
noncomputable def Seqs (off:Addr→Prop) (h h':Heap):Prop:=∀ a o,h.get? a=some o→(∃ vs n,o.data=.seq vs n)→¬ off a→h'.get? a=some o
theorem Keep.seqs {off:Addr→Prop} {h h':Heap} (k:Keep h h'):Seqs off h h':=fun a o e ⟨vs,n,d⟩ _=>k.obj a o e (.nf fun vs' d'=>by rw [d] at d';contradiction)
mutual
theorem Rd.move' {h h':Heap} {off off':Addr→Prop} (k:Seqs off h h') (ho:∀ a,off' a→off a∨h.get? a=none):∀ (V:V) (v:Value),Rd h off V v→Rd h' off' V v
 | .none,_,e=>e
 | .bool _,_,e=>e
 | .int _,_,e=>e
 | .str _,_,e=>e
 | .ref _,_,e=>e
 | .bi _,_,e=>e
 | .tup l,v,e=>by
  apply bc;intro hQ;rcases e with ⟨a,vs,e1,e2,⟨o,e3,e4,n,e5⟩,e6⟩;refine hQ ?_;clear hQ
  exact Exists.intro a (Exists.intro vs ⟨e1,fun q=>(ho a q).elim e2 (fun x=>by rw [e3] at x;contradiction),⟨o,k a o e3 ⟨_,n,e5⟩ e2,e4,n,e5⟩,RdL.move' k ho l _ e6⟩)
 | .lst l,v,e=>by
  apply bc;intro hQ;rcases e with ⟨a,vs,e1,e2,⟨n,e3⟩,e6⟩;refine hQ ?_;clear hQ
  exact Exists.intro a (Exists.intro vs ⟨e1,fun q=>(ho a q).elim e2 (fun x=>by rw [e3] at x;contradiction),⟨n,k a _ e3 ⟨_,n,rfl⟩ e2⟩,RdL.move' k ho l _ e6⟩)
theorem RdL.move' {h h':Heap} {off off':Addr→Prop} (k:Seqs off h h') (ho:∀ a,off' a→off a∨h.get? a=none):∀ (l:List V) (vs:List Value),RdL h off l vs→RdL h' off' l vs
 | [],_,e=>e
 | V :: l,vs,e=>by
  apply bc;intro hQ;rcases e with ⟨v,r,e1,e2,e3⟩;refine hQ ?_;clear hQ
  exact Exists.intro v (Exists.intro r ⟨e1,Rd.move' k ho V v e2,RdL.move' k ho l r e3⟩)
end
theorem Rd.move {h h':Heap} {off off':Addr→Prop} (k:Seqs off h h') (ho:∀ a,off' a→off a) (X:V) (v:Value) (r:Rd h off X v):Rd h' off' X v:=Rd.move' k (fun a q=>.inl (ho a q)) X v r
theorem RdL.move {h h':Heap} {off off':Addr→Prop} (k:Seqs off h h') (ho:∀ a,off' a→off a) (l:List V) (vs:List Value) (r:RdL h off l vs):RdL h' off' l vs:=RdL.move' k (fun a q=>.inl (ho a q)) l vs r
theorem Rd.keep {h h':Heap} {off:Addr→Prop} {V:V} {v:Value} (k:Keep h h') (r:Rd h off V v):Rd h' off V v:=r.move (k.seqs) (fun _ x=>x)
theorem RdL.keep {h h':Heap} {off:Addr→Prop} {l:List V} {vs:List Value} (k:Keep h h') (r:RdL h off l vs):RdL h' off l vs:=r.move (k.seqs) (fun _ x=>x)
theorem RdL.length {h:Heap} {off:Addr→Prop}:∀ {l:List V} {vs:List Value},RdL h off l vs→vs.length=l.length
 | [],_,e=>by obtain rfl:=e;rfl
 | _ :: l,_,e=>by apply bc;intro hQ;rcases e with ⟨v,r,rfl,_,e3⟩;refine hQ ?_;clear hQ;simp [RdL.length e3]
theorem RdL.get {h:Heap} {off:Addr→Prop}:∀ {l:List V} {vs:List Value} {i:Nat} {X:V},RdL h off l vs→l[i]?=some X→∃ v,vs[i]?=some v∧Rd h off X v
 | [],_,_,_,_,q=>by simp at q
 | Y :: l,_,i,X,e,q=>by
  apply bc;intro hQ;rcases e with ⟨v,r,rfl,e2,e3⟩;refine hQ ?_;clear hQ
  cases i with
  | zero=>simp at q;subst q;exact ⟨v,rfl,e2⟩
  | succ i=>simp at q ⊢;exact RdL.get e3 q
theorem RdL.append {h:Heap} {off:Addr→Prop}:∀ {l l':List V} {vs vs':List Value},RdL h off l vs→RdL h off l' vs'→RdL h off (l++l') (vs++vs')
 | [],_,_,_,e,e'=>by obtain rfl:=e;exact e'
 | Y :: l,l',_,_,e,e'=>by
  apply bc;intro hQ;rcases e with ⟨v,r,rfl,e2,e3⟩;refine hQ ?_;clear hQ
  exact Exists.intro v (Exists.intro _ ⟨rfl,e2,RdL.append e3 e'⟩)
theorem RdL.nil {h:Heap} {off:Addr→Prop}:RdL h off [] []:=rfl
theorem RdL.cons {h:Heap} {off:Addr→Prop} {X:V} {l:List V} {v:Value} {vs:List Value} (e:Rd h off X v) (e':RdL h off l vs):RdL h off (X :: l) (v :: vs):=Exists.intro v (Exists.intro vs ⟨rfl,e,e'⟩)
theorem RdL.one {h:Heap} {off:Addr→Prop} {X:V} {v:Value} (e:Rd h off X v):RdL h off [X] [v]:=.cons e .nil
theorem Rd.int {h:Heap} {off:Addr→Prop} (i:Int) (t:Tok):Rd h off (.int i) (.int i t):=Exists.intro t rfl
theorem Rd.str {h:Heap} {off:Addr→Prop} (i:Str) (t:Tok):Rd h off (.str i) (.str i t):=Exists.intro t rfl
theorem Rd.lstI {h:Heap} {off:Addr→Prop} {l:List V} {a:Addr} {vs:Array Value} (h1:¬ off a) (h2:h.PlainList a vs) (h3:RdL h off l vs.toList):Rd h off (.lst l) (.ref a):=Exists.intro a (Exists.intro vs ⟨rfl,h1,h2,h3⟩)
theorem Rd.tupI {h:Heap} {off:Addr→Prop} {l:List V} {a:Addr} {vs:Array Value} (h1:¬ off a) (h2:h.IsTuple a vs) (h3:RdL h off l vs.toList):Rd h off (.tup l) (.ref a):=Exists.intro a (Exists.intro vs ⟨rfl,h1,h2,h3⟩)
theorem Rd.bool {h:Heap} {off:Addr→Prop} (i:Bool):Rd h off (.bool i) (.bool i):=rfl
theorem Rd.none {h:Heap} {off:Addr→Prop}:Rd h off .none .none:=rfl
theorem Rd.bi {h:Heap} {off:Addr→Prop} (id:String):Rd h off (.bi id) (.builtin id):=rfl
theorem Rd.ref {h:Heap} {off:Addr→Prop} (a:Addr):Rd h off (.ref a) (.ref a):=rfl
theorem Rd.int_inv {h:Heap} {off:Addr→Prop} {i:Int} {v:Value} (r:Rd h off (.int i) v):∃ t,v=.int i t:=r
theorem Rd.str_inv {h:Heap} {off:Addr→Prop} {i:Str} {v:Value} (r:Rd h off (.str i) v):∃ t,v=.str i t:=r
theorem Rd.lst_inv {h:Heap} {off:Addr→Prop} {l:List V} {v:Value} (r:Rd h off (.lst l) v):∃ a vs,v=.ref a∧¬ off a∧h.IsList a vs∧RdL h off l vs.toList:=by
 apply bc;intro hQ;rcases r with ⟨a,vs,h1,h2,h3,h4⟩;refine hQ ?_;clear hQ;exact ⟨a,vs,h1,h2,h3.isList,h4⟩
theorem Rd.lst_nd {h:Heap} {off:Addr→Prop} {l:List V} {v:Value} (r:Rd h off (.lst l) v):h.NoDictAt v:=by
 apply bc;intro hQ;rcases r with ⟨a,vs,rfl,h2,⟨n,h3⟩,h4⟩;refine hQ ?_;clear hQ;exact ⟨_,h3,rfl⟩
theorem Rd.lst_plain {h:Heap} {off:Addr→Prop} {l:List V} {v:Value} (r:Rd h off (.lst l) v):∃ a vs,v=.ref a∧¬ off a∧h.PlainList a vs∧RdL h off l vs.toList:=r
theorem Rd.tup_inv {h:Heap} {off:Addr→Prop} {l:List V} {v:Value} (r:Rd h off (.tup l) v):∃ a vs,v=.ref a∧¬ off a∧h.IsTuple a vs∧RdL h off l vs.toList:=r
noncomputable def Old (off:Addr→Prop) (h:Heap):Prop:=∀ a,off a→∃ o,h.get? a=some o
theorem Old.keep {off:Addr→Prop} {h h':Heap} (x:Old off h) (k:Keep h h'):Old off h':=fun a q=>let ⟨o,e⟩:=x a q;k.live a o e
theorem iq {h:Heap} {a:Addr} (l:h.objs.size≤a):h.get? a=none:=by
 cases e:h.get? a with
 | none=>rfl
 | some o=>exact absurd (Heap.lt_size e) (Nat.not_lt.mpr l)
theorem xj (h:Heap):h.get? h.objs.size=none:=iq (Nat.le_refl _)
theorem Old.new {off:Addr→Prop} {h:Heap} (x:Old off h) {a:Addr} (hn:h.get? a=none):¬ off a:=fun q=>by
 obtain ⟨o,e⟩:=x a q
 rw [hn] at e;contradiction
theorem Old.size {off:Addr→Prop} {h:Heap} (x:Old off h):¬ off h.objs.size:=x.new (xj h)
theorem Rd.newList {h:Heap} {off:Addr→Prop} (ol:Old off h) {l:List V} {vs:List Value} (r:RdL h off l vs) :
  Rd (h.push { cls:=.type "list",data:=.seq vs.toArray }) off (.lst l) (.ref h.objs.size):=by
 exact Rd.lstI (vs:=vs.toArray) ol.size ⟨0,Heap.get?_push_size _ rfl⟩ (r.keep (Keep.push _ _))
theorem Rd.newTuple {h:Heap} {off:Addr→Prop} (ol:Old off h) {l:List V} {vs:List Value} (r:RdL h off l vs) :
  Rd (h.push { cls:=.type "tuple",data:=.seq vs.toArray }) off (.tup l) (.ref h.objs.size):=by
 exact Rd.tupI (vs:=vs.toArray) ol.size ⟨_,Heap.get?_push_size _ rfl,rfl,0,rfl⟩ (r.keep (Keep.push _ _))
structure Glb (w:World) (h:Heap):Prop where
 at_:∀ a o,(tG w.params).get a=some o→Firm a o→h.get? a=some o
 tab:zW h
theorem Glb.keep {w:World} {h h':Heap} (g:Glb w h) (k:Keep h h'):Glb w h':=⟨fun a o e f=>k.obj a o (g.at_ a o e f) f,k.inv g.tab⟩
noncomputable def mgv (P:Params):Str→Option Value:=nsFind (match (oG3 P).data with | .dict es _=>es | _=>#[])
noncomputable def mbv (P:Params):Str→Option Value:=nsFind (match (boot_o_0 P).data with | .dict es _=>es | _=>#[])
theorem iz {es:Array DictEntry} (h:es.toList.all (fun e=>match e.key with | .str ..=>true | _=>false)=true):StrKeys es:=by
 intro e he
 have:=List.all_eq_true.mp h e (Array.mem_toList_iff.mpr he)
 cases hk:e.key with
 | str x t=>exact ⟨x,t,rfl⟩
 | _=>rw [hk] at this;contradiction
theorem Glb.g {w:World} {h:Heap} (g:Glb w h):h.Ns mainGlobals (mgv w.params) :=
 ⟨oG3 w.params,_,_,g.at_ 3 _ (by rfl) (.inl rfl),rfl,iz (by rfl),fun _=>rfl⟩
noncomputable def esOf (o:Obj):Array DictEntry:=match o.data with
 | .dict es _=>es
 | _=>#[]
theorem Glb.b {w:World} {h:Heap} (g:Glb w h):h.Ns builtinsNs (mbv w.params) :=
 ⟨boot_o_0 w.params,esOf (boot_o_0 w.params),_,g.at_ 0 _ (by rfl) (.inl rfl),rfl,iz (by rfl),fun _=>rfl⟩
theorem Glb.nolimit {w:World} {h:Heap} (g:Glb w h):h.NoLimit :=
 ⟨fun _=>none,⟨boot_o_2 w.params,#[],0,g.at_ 2 _ (by rfl) (.inl rfl),by rfl,fun e he=>by simp at he,fun _=>rfl⟩,rfl⟩
noncomputable abbrev Kp:=V→Prop
noncomputable abbrev Res (off:Addr→Prop) (s:Shared) (K:Kp) (Q:Value→Shared→Prop):Prop :=
 ∀ (X:V) (v:Value) (h':Heap) (tk':Nat),K X→Keep s.heap h'→Rd h' off X v→Q v { s with heap:=h',toks:=tk' }
noncomputable def yVe:V→V→Kp→Prop
 | .int a,.int b,K=>K (.int (a + b))
 | .str x,.str y,K=>x.length + y.length≤sizeLine∧K (.str (x++y))
 | .lst a,.lst b,K=>a.length + b.length≤sizeLine∧K (.lst (a++b))
 | .tup a,.tup b,K=>a.length + b.length≤sizeLine∧K (.tup (a++b))
 | _,_,_=>False
noncomputable def yVf:V→V→Kp→Prop
 | .int a,.int b,K=>IntMulOk a b∧K (.int (a * b))
 | .str x,.int n,K=>MulOk x n∧K (.str (Txt.mul x n))
 | .lst a,.int n,K=>-(2 ^ 63:Int)≤n∧n < 2 ^ 63∧a.length * n.toNat≤2 ^ 24∧K (.lst (List.replicate n.toNat a).flatten)
 | _,_,_=>False
noncomputable def yVg (op:Operator) (a b:Int) (K:Kp):Prop:=match op with
 | .Sub=>K (.int (a - b))
 | .Mod=>b≠0∧K (.int (a.fmod b))
 | .FloorDiv=>b≠0∧Builtin.divisionGoesByPylong a b=false∧K (.int (a.fdiv b))
 | .Pow=>0≤b∧b≤1000000∧a.natAbs < 2 ^ 64∧K (.int (a ^ b.toNat))
 | .LShift=>0≤b∧(Builtin.Int.intBits a:Int) + b≤2 ^ 27∧K (.int (a * 2 ^ b.toNat))
 | .RShift=>0≤b∧K (.int (a.fdiv (2 ^ b.toNat)))
 | .BitOr=>K (.int (Builtin.bitOr a b))
 | .BitXor=>K (.int (Builtin.bitXor a b))
 | .BitAnd=>K (.int (Builtin.bitAnd a b))
 | _=>False
noncomputable def yQo (op:Operator):V→V→Kp→Prop
 | .int a,.int b,K=>yVg op a b K
 | _,_,_=>False
noncomputable def zWj (op:Operator) (x y:V) (K:Kp):Prop:=match op with
 | .Add=>yVe x y K
 | .Mult=>yVf x y K
 | op=>yQo op x y K
section
variable {w:World} {A:Around} {E:Value→Shared→Prop} {off:Addr→Prop} {s:Shared} {K:Kp} {Q:Value→Shared→Prop}
theorem Res.int (q:Res off s K Q) {i:Int} (k:K (.int i)) (t tk:Nat):Q (.int i t) { s with toks:=tk }:=q _ _ s.heap tk k (Keep.refl _) (Rd.int _ _)
theorem Res.str (q:Res off s K Q) {i:Str} (k:K (.str i)) (t tk:Nat):Q (.str i t) { s with toks:=tk }:=q _ _ s.heap tk k (Keep.refl _) (Rd.str _ _)
theorem Res.bool (q:Res off s K Q) {b:Bool} (k:K (.bool b)):Q (.bool b) s:=q _ _ s.heap s.toks k (Keep.refl _) (Rd.bool _)
theorem Res.boolT (q:Res off s K Q) {b:Bool} (k:K (.bool b)) (tk:Nat):Q (.bool b) { s with toks:=tk }:=q _ _ s.heap tk k (Keep.refl _) (Rd.bool _)
theorem zX9 {a n:Int} {t u:Tok} (hh:A.handled=none) (h0:0≤n) (hb:(Builtin.Int.intBits a:Int) + n≤2 ^ 27) (h:Q (.int (a * 2 ^ n.toNat) s.toks) { s with toks:=s.toks + 1 }) :
  wpAny (model pw w) A (binaryOp .LShift (.int a t) (.int n u)) Q E s :=
 lshift_int_or hh (fun hn=>absurd h0 (by lia)) (fun _=>hb) fun _=>h
theorem zWk {op:Operator} {a b:Int} {t u:Tok} (hh:A.handled=none) (hA:op≠.Add) (hM:op≠.Mult) (k:yVg op a b K) (q:Res off s K Q):wpAny (model pw w) A (binaryOp op (.int a t) (.int b u)) Q E s:=by
 cases op with
 | Sub=>exact sub_int (q.int k _ _)
 | Mod=>exact mod_int' k.1 (q.int k.2 _ _)
 | FloorDiv=>exact floordiv_int k.1 (q.int k.2.2 _ _) (.inl k.2.1)
 | Pow=>exact pow_int_small k.1 k.2.1 k.2.2.1 (q.int k.2.2.2 _ _)
 | LShift=>exact zX9 hh k.1 k.2.1 (q.int k.2.2 _ _)
 | RShift=>exact rshift_int k.1 (q.int k.2 _ _)
 | BitOr=>exact or_int (q.int k _ _)
 | BitXor=>exact xor_int (q.int k _ _)
 | BitAnd=>exact and_int (q.int k _ _)
 | Add=>exact absurd rfl hA
 | Mult=>exact absurd rfl hM
 | MatMult=>exact k.elim
 | Div=>exact k.elim
theorem aV {l b:Addr} {as bs:Array Value} (hl:s.heap.IsList l as) (hb:s.heap.IsList b bs) (hsz:as.size + bs.size≤sizeLine)
  (h:Q (.ref s.heap.objs.size) { s with heap:=s.heap.push { cls:=.type "list",data:=.seq (as.toList++bs.toList).toArray } }) :
  wpAny (model pw w) A (binaryOp .Add (.ref l) (.ref b)) Q E s:=by
 apply bc;intro hQ;rcases id hl with ⟨⟨cls,dd,data,sl⟩,ho,hc,n,hd⟩;rcases id hb with ⟨⟨cls2,dd2,data2,sl2⟩,ho2,hc2,n2,hd2⟩;refine hQ ?_;clear hQ
 simp only at hc hd hc2 hd2
 subst hc hd hc2 hd2
 refine concat_meets ⟨_,ho,rfl⟩ ⟨_,ho2,rfl⟩ noFill_list_add seq_list_add PySem.F.slot_list_add PySem.F.entry_list_add (PySem.F.args_list_add_2 _ _) (list_addW l b as bs n n2 dd dd2 sl sl2 hsz) ⟨ho,ho2,?_⟩
 have e:as++bs=(as.toList++bs.toList).toArray:=by simp
 rw [e];exact h
theorem zZ7 {t b:Addr} {as bs:Array Value} (ht:s.heap.IsTuple t as) (hb:s.heap.IsTuple b bs) (hsz:as.size + bs.size≤sizeLine)
  (h0:as=#[]→Q (.ref b) s) (h1:bs=#[]→Q (.ref t) s)
  (h:Q (.ref s.heap.objs.size) { s with heap:=s.heap.push { cls:=.type "tuple",data:=.seq (as.toList++bs.toList).toArray } }) :
  wpAny (model pw w) A (binaryOp .Add (.ref t) (.ref b)) Q E s:=by
 apply bc;intro hQ;rcases id ht with ⟨⟨cls,dd,data,sl⟩,ho,hc,n,hd⟩;rcases id hb with ⟨⟨cls2,dd2,data2,sl2⟩,ho2,hc2,n2,hd2⟩;refine hQ ?_;clear hQ
 simp only at hc hd hc2 hd2
 subst hc hd hc2 hd2
 have e:as++bs=(as.toList++bs.toList).toArray:=by simp
 by_cases hv:as=#[]
 ·exact concat_meets ⟨_,ho,rfl⟩ ⟨_,ho2,rfl⟩ noFill_tuple_add seq_tuple_add PySem.F.slot_tuple_add PySem.F.entry_tuple_add (PySem.F.args_tuple_add_2 _ _)
   (tuple_addW0 t b as bs n n2 dd dd2 sl sl2 (by simp [hv])) ⟨ho,ho2,h0 hv⟩
 ·by_cases hw:bs=#[]
  ·exact concat_meets ⟨_,ho,rfl⟩ ⟨_,ho2,rfl⟩ noFill_tuple_add seq_tuple_add PySem.F.slot_tuple_add PySem.F.entry_tuple_add (PySem.F.args_tuple_add_2 _ _)
    (tuple_addW1 t b as bs n n2 dd dd2 sl sl2 (by simpa using hv) (by simp [hw])) ⟨ho,ho2,h1 hw⟩
  ·refine concat_meets ⟨_,ho,rfl⟩ ⟨_,ho2,rfl⟩ noFill_tuple_add seq_tuple_add PySem.F.slot_tuple_add PySem.F.entry_tuple_add (PySem.F.args_tuple_add_2 _ _)
    (tuple_addW2 t b as bs n n2 dd dd2 sl sl2 (by simpa using hv) (by simpa using hw) hsz) ⟨ho,ho2,?_⟩
   rw [e]
   exact h
theorem aW {l:Addr} {vs:Array Value} {x:Int} {u:Tok} (hl:s.heap.IsList l vs) (hlo:-(2 ^ 63:Int)≤x) (hhi:x < 2 ^ 63) (hsz:vs.size * x.toNat≤2 ^ 24)
  (h:Q (.ref s.heap.objs.size) { s with heap:=s.heap.push { cls:=.type "list",data:=.seq (List.replicate x.toNat vs.toList).flatten.toArray } }) :
  wpAny (model pw w) A (binaryOp .Mult (.ref l) (.int x u)) Q E s:=by
 apply bc;intro hQ;rcases id hl with ⟨⟨cls,d,data,sl⟩,ho,hcl,k,hd⟩;refine hQ ?_;clear hQ
 simp only at hcl hd
 subst hcl hd
 refine wpAny_binaryOp_repeat_ref (T:="list") (U:="int") (by decide) ⟨_,ho,rfl⟩ (fun s'=>typeIs_int s' x u) noFill_list_mul F.fills_int_mul F.slot_int_rmul repeat_list F.slot_int_index.lookup
  (call_meets F.slot_int_rmul (typeIs_int s x u) F.entry_int_rmul (F.args_int_rmul_2 _ _) (lm_int_rmul_list_any x u l vs k d sl)
   ⟨ho,rfl,⟨_,ho,rfl⟩,call_meets F.slot_list_mul ⟨_,ho,rfl⟩ F.entry_list_mul (F.args_list_mul_2 _ _)
    (lm_list_mul_any l vs k d sl x u (by simp [Builtin.List.listFitsIndex];lia) (by lia) (by simp [Builtin.List.listTooLong,sizeLine];lia))
    ⟨ho,?_⟩⟩)
 rw [listMul_foldl_if]
 exact h
set_option tactic.hygienic true in
theorem zQ6 {op:Operator} {x y:V} {a b:Value} (hh:A.handled=none) (ol:Old off s.heap) (hx:Rd s.heap off x a) (hy:Rd s.heap off y b) (k:zWj op x y K) (q:Res off s K Q) :
  wpAny (model pw w) A (binaryOp op a b) Q E s:=by
 have other:∀ (hA:op≠.Add) (hM:op≠.Mult),yQo op x y K→wpAny (model pw w) A (binaryOp op a b) Q E s:=by
  intro hA hM k
  cases x <;> (try exact k.elim) <;> cases y <;> try exact k.elim
  apply bc;intro hQ;rcases hx.int_inv with ⟨t,rfl⟩;rcases hy.int_inv with ⟨u,rfl⟩;refine hQ ?_;clear hQ
  exact zWk hh hA hM k q
 cases op with
 | Add =>
  clear other
  change yVe x y K at k
  cases x <;> (try exact k.elim) <;> cases y <;> try exact k.elim
  ·apply bc;intro hQ;rcases hx.int_inv with ⟨t,rfl⟩;rcases hy.int_inv with ⟨u,rfl⟩;refine hQ ?_;clear hQ
   exact add_int (q.int k _ _)
  ·apply bc;intro hQ;rcases hx.str_inv with ⟨t,rfl⟩;rcases hy.str_inv with ⟨u,rfl⟩;refine hQ ?_;clear hQ
   exact add_str (fun t' tk=>q.str k.2 t' tk) k.1
  ·apply bc;intro hQ;rcases hx.tup_inv with ⟨t,as,rfl,ht,h1,h2⟩;rcases hy.tup_inv with ⟨u,bs,rfl,hu,h3,h4⟩;refine hQ ?_;clear hQ
   have l1:=h2.length
   have l2:=h4.length
   rw [Array.length_toList] at l1 l2
   refine zZ7 h1 h3 (by rw [l1,l2];exact k.1) (fun e=>?_) (fun e=>?_) ?_
   ·refine q _ _ s.heap s.toks k.2 (Keep.refl _) ?_
    subst e
    rename_i l _
    have:l=[]:=by cases l with | nil=>rfl | cons=>simp at l1
    subst this
    exact hy
   ·refine q _ _ s.heap s.toks k.2 (Keep.refl _) ?_
    subst e
    rename_i _ l
    have:l=[]:=by cases l with | nil=>rfl | cons=>simp at l2
    subst this
    rw [List.append_nil]
    exact hx
   ·exact q _ _ _ s.toks k.2 (Keep.push _ _) (Rd.newTuple ol (h2.append h4))
  ·apply bc;intro hQ;rcases hx.lst_inv with ⟨t,as,rfl,ht,h1,h2⟩;rcases hy.lst_inv with ⟨u,bs,rfl,hu,h3,h4⟩;refine hQ ?_;clear hQ
   have l1:=h2.length
   have l2:=h4.length
   rw [Array.length_toList] at l1 l2
   exact aV h1 h3 (by rw [l1,l2];exact k.1) (q _ _ _ s.toks k.2 (Keep.push _ _) (Rd.newList ol (h2.append h4)))
 | Mult =>
  clear other
  change yVf x y K at k
  cases x <;> (try exact k.elim) <;> cases y <;> try exact k.elim
  ·apply bc;intro hQ;rcases hx.int_inv with ⟨t,rfl⟩;rcases hy.int_inv with ⟨u,rfl⟩;refine hQ ?_;clear hQ
   exact mul_int (q.int k.2 _ _) k.1
  ·apply bc;intro hQ;rcases hx.str_inv with ⟨t,rfl⟩;rcases hy.int_inv with ⟨u,rfl⟩;refine hQ ?_;clear hQ
   exact SB.mul k.1 fun t' tk=>q.str k.2 t' tk
  ·apply bc;intro hQ;rcases hx.lst_inv with ⟨t,as,rfl,ht,h1,h2⟩;rcases hy.int_inv with ⟨u,rfl⟩;refine hQ ?_;clear hQ
   have l1:=h2.length
   rw [Array.length_toList] at l1
   refine aW h1 k.1 k.2.1 (by rw [l1];exact k.2.2.1) (q _ _ _ s.toks k.2.2.2 (Keep.push _ _) (Rd.newList ol ?_))
   rename_i n
   generalize n.toNat=m
   induction m with
   | zero=>exact RdL.nil
   | succ m ih=>rw [List.replicate_succ,List.flatten_cons,List.replicate_succ,List.flatten_cons];exact h2.append ih
 | _=>exact other (by decide) (by decide) k
end
mutual
noncomputable def toP:V→PyData
 | .none=>.none
 | .bool b=>.bool b
 | .int i=>.int i
 | .str x=>.str x
 | .tup l=>.tuple (toPL l)
 | .lst l=>.list (toPL l)
 | .ref _=>.none
 | .bi _=>.none
noncomputable def toPL:List V→List PyData
 | []=>[]
 | x :: l=>toP x :: toPL l
end
mutual
noncomputable def okV:V→Bool
 | .tup l=>okL l
 | .lst l=>okL l
 | .ref _=>false
 | .bi _=>false
 | _=>true
noncomputable def okL:List V→Bool
 | []=>true
 | x :: l=>okV x && okL l
end
mutual
theorem Rd.reads {h:Heap} {off:Addr→Prop}:∀ {X:V} {v:Value},Rd h off X v→okV X=true→∃ as,Reads h v (toP X) as
 | .none,v,r,_=>by obtain rfl:=r;exact ⟨_,.none⟩
 | .bool b,v,r,_=>by obtain rfl:=r;exact ⟨_,.bool b⟩
 | .int i,v,r,_=>by apply bc;intro hQ;rcases r.int_inv with ⟨t,rfl⟩;refine hQ ?_;clear hQ;exact ⟨_,.int i t⟩
 | .str i,v,r,_=>by apply bc;intro hQ;rcases r.str_inv with ⟨t,rfl⟩;refine hQ ?_;clear hQ;exact ⟨_,.str i t⟩
 | .tup l,v,r,ok=>by
  apply bc;intro hQ;rcases r.tup_inv with ⟨a,vs,rfl,_,⟨o,e1,e2,n,e3⟩,e4⟩;rcases RdL.reads e4 (by unfold okV at ok;exact ok) with ⟨as,ra⟩;refine hQ ?_;clear hQ
  unfold toP
  exact ⟨_,.tuple e1 e2 e3 ra⟩
 | .lst l,v,r,ok=>by
  apply bc;intro hQ;rcases r.lst_inv with ⟨a,vs,rfl,_,⟨o,e1,e2,n,e3⟩,e4⟩;rcases RdL.reads e4 (by unfold okV at ok;exact ok) with ⟨as,ra⟩;refine hQ ?_;clear hQ
  unfold toP
  exact ⟨_,.list e1 e2 e3 ra⟩
 | .ref _,_,_,ok=>by unfold okV at ok;contradiction
 | .bi _,_,_,ok=>by unfold okV at ok;contradiction
theorem RdL.reads {h:Heap} {off:Addr→Prop}:∀ {l:List V} {vs:List Value},RdL h off l vs→okL l=true→∃ as,ReadsAll h vs (toPL l) as
 | [],vs,r,_=>by obtain rfl:=r;unfold toPL;exact ⟨_,.nil⟩
 | x :: l,vs,r,ok=>by
  apply bc;intro hQ;rcases r with ⟨v,r',rfl,e1,e2⟩;refine hQ ?_;clear hQ
  unfold okL at ok
  rw [Bool.and_eq_true] at ok
  apply bc;intro hQ;rcases e1.reads ok.1 with ⟨as,ra⟩;rcases RdL.reads e2 ok.2 with ⟨bs,rb⟩;refine hQ ?_;clear hQ
  unfold toPL
  exact ⟨_,.cons ra rb⟩
end
noncomputable def zx (x:V):Bool:=okV x && SeqAt.shaped (toP x)
noncomputable def ej:V→Bool
 | .none=>true
 | .bool _=>true
 | _=>false
noncomputable def zWl:V→V→Bool
 | .none,.none=>true
 | .bool a,.bool b=>a == b
 | _,_=>false
noncomputable def inOp (x c:V) (neg:Bool) (K:Kp):Prop:=match c with
 | .str z=>(match x with
  | .str y=>K (.bool (neg != Txt.contains z y))
  | _=>False)
 | .lst l=>zx x=true∧zx (.lst l)=true∧K (.bool (neg != (toPL l).any fun y=>y.eqv (toP x)))
 | .tup l=>zx x=true∧zx (.tup l)=true∧K (.bool (neg != (toPL l).any fun y=>y.eqv (toP x)))
 | _=>False
noncomputable def yZb (x y:V):Option Bool:=match x with
 | .int a=>(match y with
  | .int b=>some (a == b)
  | _=>none)
 | .str a=>(match y with
  | .str b=>some (a == b)
  | _=>none)
 | _=>none
theorem zJa {x y:V} {r:Bool} (h:yZb x y=some r):(∃ a b,x=.int a∧y=.int b∧r=(a == b))∨∃ a b,x=.str a∧y=.str b∧r=(a == b):=by
 cases x with
 | int a=>cases y with
  | int b=>exact .inl ⟨a,b,rfl,rfl,(Option.some.inj h).symm⟩
  | _=>exact nn h
 | str a=>cases y with
  | str b=>exact .inr ⟨a,b,rfl,rfl,(Option.some.inj h).symm⟩
  | _=>exact nn h
 | _=>exact nn h
noncomputable def eqOp (x y:V) (neg:Bool) (K:Kp):Prop:=match yZb x y with
 | some r=>K (.bool (neg != r))
 | none=>zx x=true∧zx y=true∧K (.bool (neg != (toP x).eqv (toP y)))
noncomputable def yVh (op:CmpOp) (a b:Int) (K:Kp):Prop:=match op with
 | .Lt=>K (.bool (decide (a < b)))
 | .LtE=>K (.bool (decide (a≤b)))
 | .Gt=>K (.bool (decide (b < a)))
 | .GtE=>K (.bool (decide (b≤a)))
 | _=>False
noncomputable def zZ8 (op:CmpOp) (x y:V) (K:Kp):Prop:=match op with
 | .Eq=>eqOp x y false K
 | .NotEq=>eqOp x y true K
 | .In=>inOp x y false K
 | .NotIn=>inOp x y true K
 | .Is=>ej x=true∧ej y=true∧K (.bool (zWl x y))
 | .IsNot=>(match x with | .str _=>y=.none∧K (.bool true) | x=>ej x=true∧ej y=true∧K (.bool (!zWl x y)))
 | op=>match x,y with
  | .int a,.int b=>yVh op a b K
  | _,_=>False
structure Room (k:Nat) (A:Around):Prop where
 hd:A.handled=none
 dp:A.depth + k < recursionLimit
 un:A.units + 10 * k + 200 < cLine
theorem Room.le {k j:Nat} {A:Around} (r:Room k A) (h:j≤k):Room j A:=⟨r.hd,by have:=r.dp;lia,by have:=r.un;lia⟩
theorem Room.deeper {k:Nat} {A:Around} {env:Env} (r:Room (k + 1) A):Room k (A.deeper env) :=
 ⟨r.hd,by have:=r.dp;show A.depth + 1 + k < _;lia,by have:=r.un;show A.units + 3 + 10 * k + 200 < _;lia⟩
section
variable {w:World} {A:Around} {E:Value→Shared→Prop} {off:Addr→Prop} {s:Shared} {K:Kp} {Q:Value→Shared→Prop} {k:Nat}
theorem yVi {x y:V} {a b:Value} (r:Room k A) (hx:Rd s.heap off x a) (hy:Rd s.heap off y b) (neg:Bool)
  (kk:zx x=true∧zx y=true∧K (.bool (neg != (toP x).eqv (toP y)))) (q:Res off s K Q) :
  wpAny (model pw w) A (compareOp (if neg then .NotEq else .Eq) a b) Q E s:=by
 apply bc;intro hQ;rcases kk with ⟨k1,k2,k3⟩;refine hQ ?_;clear hQ
 unfold zx at k1 k2
 rw [Bool.and_eq_true] at k1 k2
 apply bc;intro hQ;rcases hx.reads k1.1 with ⟨as,ra⟩;rcases hy.reads k2.1 with ⟨bs,rb⟩;refine hQ ?_;clear hQ
 have hu:A.units + 64 < cLine:=by have:=r.un;lia
 cases neg with
 | false=>exact eq_dataH ra rb k1.2 k2.2 hu (q.bool (by simpa using k3))
 | true=>exact ne_dataH ra rb k1.2 k2.2 hu (q.bool (by simpa using k3))
theorem zJb {x y:V} {a b:Value} (r:Room k A) (hx:Rd s.heap off x a) (hy:Rd s.heap off y b) (neg:Bool) (kk:eqOp x y neg K) (q:Res off s K Q) :
  wpAny (model pw w) A (compareOp (if neg then .NotEq else .Eq) a b) Q E s:=by
 unfold eqOp at kk
 cases e:yZb x y with
 | none=>rw [e] at kk;exact yVi r hx hy neg kk q
 | some v =>
  rw [e] at kk
  rcases zJa e with ⟨i,j,rfl,rfl,rfl⟩ | ⟨i,j,rfl,rfl,rfl⟩
  ·apply bc;intro hQ;rcases hx.int_inv with ⟨t,rfl⟩;rcases hy.int_inv with ⟨u,rfl⟩;refine hQ ?_;clear hQ
   cases neg with
   | false=>exact eq_int (q.bool (by dsimp only at kk;rwa [Bool.false_bne] at kk))
   | true=>exact ne_int (q.bool (by dsimp only at kk;rwa [Bool.true_bne] at kk))
  ·apply bc;intro hQ;rcases hx.str_inv with ⟨t,rfl⟩;rcases hy.str_inv with ⟨u,rfl⟩;refine hQ ?_;clear hQ
   cases neg with
   | false=>exact eq_str (q.bool (by dsimp only at kk;rwa [Bool.false_bne] at kk))
   | true=>exact ne_str (q.bool (by dsimp only at kk;rwa [Bool.true_bne] at kk))
theorem yQp {x:V} {l:List V} {a:Value} {c:Value} (r:Room k A) (hx:Rd s.heap off x a) (hc:Rd s.heap off (.lst l) c∨Rd s.heap off (.tup l) c) (neg:Bool)
  (k1:zx x=true) (k2:okL l=true) (k4:SeqAt.shaped (.list (toPL l))=true∨SeqAt.shaped (.tuple (toPL l))=true) (k3:K (.bool (neg != (toPL l).any fun y=>y.eqv (toP x)))) (q:Res off s K Q) :
  wpAny (model pw w) A (compareOp (if neg then .NotIn else .In) a c) Q E s:=by
 unfold zx at k1
 rw [Bool.and_eq_true] at k1
 apply bc;intro hQ;rcases hx.reads k1.1 with ⟨as,ra⟩;rcases k1 with ⟨k1a,k1b⟩;refine hQ ?_;clear hQ
 have e1:(toP x).canLay0=true∧(toP x).depth≤64:=by
  unfold SeqAt.shaped at k1b;rw [Bool.and_eq_true,decide_eq_true_eq] at k1b;exact ⟨k1b.1,k1b.2⟩
 have e2:PyData.canLayAll0 (toPL l)=true:=by
  rcases k4 with k4 | k4 <;> (unfold SeqAt.shaped at k4;rw [Bool.and_eq_true] at k4;have:=k4.1;unfold PyData.canLay0 at this;exact this)
 have hu:A.units + 1 + min (PyData.depthAll (toPL l)) (toP x).depth < cLine:=by
  have:=r.un;have:=Nat.min_le_right (PyData.depthAll (toPL l)) (toP x).depth;lia
 rcases hc with hc | hc
 ·obtain ⟨bs,rb⟩:=hc.reads (by unfold okV;exact k2)
  unfold toP at rb
  cases neg with
  | false=>exact SeqAt.in_list_reads rb ra e2 e1.1 hu (q.bool (by simpa using k3))
  | true=>exact SeqAt.notIn_list_reads rb ra e2 e1.1 hu (q.bool (by simpa using k3))
 ·obtain ⟨bs,rb⟩:=hc.reads (by unfold okV;exact k2)
  unfold toP at rb
  cases neg with
  | false=>exact SeqAt.in_tuple_reads rb ra e2 e1.1 hu (q.bool (by simpa using k3))
  | true=>exact SeqAt.notIn_tuple_reads rb ra e2 e1.1 hu (q.bool (by simpa using k3))
theorem zJc {x c:V} {a b:Value} (r:Room k A) (hx:Rd s.heap off x a) (hy:Rd s.heap off c b) (neg:Bool) (kk:inOp x c neg K) (q:Res off s K Q) :
  wpAny (model pw w) A (compareOp (if neg then .NotIn else .In) a b) Q E s:=by
 cases c with
 | str z=>cases x with
  | str y =>
   apply bc;intro hQ;rcases hx.str_inv with ⟨t,rfl⟩;rcases hy.str_inv with ⟨u,rfl⟩;refine hQ ?_;clear hQ
   have kk:K (.bool (neg != Txt.contains z y)):=kk
   cases neg with
   | false=>exact SB.contains (q.bool (by rwa [Bool.false_bne] at kk))
   | true=>exact SB.notContains (q.bool (by rwa [Bool.true_bne] at kk))
  | _=>exact kk.elim
 | lst l =>
  apply bc;intro hQ;rcases kk with ⟨k1,k2,k3⟩;refine hQ ?_;clear hQ
  unfold zx at k2;rw [Bool.and_eq_true] at k2;unfold okV toP at k2
  exact yQp r hx (.inl hy) neg k1 k2.1 (.inl k2.2) k3 q
 | tup l =>
  apply bc;intro hQ;rcases kk with ⟨k1,k2,k3⟩;refine hQ ?_;clear hQ
  unfold zx at k2;rw [Bool.and_eq_true] at k2;unfold okV toP at k2
  exact yQp r hx (.inr hy) neg k1 k2.1 (.inr k2.2) k3 q
 | _=>exact kk.elim
end
noncomputable def zZ9:V→(Bool→Prop)→Prop
 | .bool b,K=>K b
 | .int i,K=>K (i != 0)
 | .str x,K=>(x.length:Int) < 9223372036854775808∧K ((x.length:Int) != 0)
 | .lst l,K=>(l.length:Int) < 2 ^ 63∧K (!l.isEmpty)
 | .none,K=>K false
 | _,_=>False
noncomputable def unop (op:UnaryOp):V→Kp→Prop
 | .int i,K=>(match op with | .USub=>K (.int (-i)) | .Invert=>K (.int (Builtin.bitNot i)) | _=>False)
 | _,_=>False
section
variable {w:World} {A:Around} {E:Value→Shared→Prop} {off:Addr→Prop} {s:Shared} {K:Kp} {Q:Value→Shared→Prop} {k:Nat}
theorem mz {op:CmpOp} (hop:op=.Lt∨op=.LtE∨op=.Gt∨op=.GtE) {x y:V} {K:Kp} (kk:zZ8 op x y K):∃ a b,x=.int a∧y=.int b∧yVh op a b K:=by
 rcases hop with rfl | rfl | rfl | rfl <;> (cases x <;> first | exact kk.elim | (cases y <;> first | exact kk.elim | exact ⟨_,_,rfl,rfl,kk⟩))
theorem ev {x:V} (h:ej x=true):x=.none∨∃ b,x=.bool b:=by
 cases x <;> first | exact .inl rfl | exact .inr ⟨_,rfl⟩ | contradiction
theorem ij (i j:Bool):zWl (.bool i) (.bool j)=(Value.bool i == Value.bool j):=by cases i <;> cases j <;> rfl
set_option tactic.hygienic true in
theorem zQ7 {op:CmpOp} {x y:V} {a b:Value} (r:Room k A) (hx:Rd s.heap off x a) (hy:Rd s.heap off y b) (kk:zZ8 op x y K) (q:Res off s K Q) :
  wpAny (model pw w) A (compareOp op a b) Q E s:=by
 cases op with
 | Eq=>exact zJb r hx hy false kk q
 | NotEq=>exact zJb r hx hy true kk q
 | In=>exact zJc r hx hy false kk q
 | NotIn=>exact zJc r hx hy true kk q
 | Lt =>
  apply bc;intro hQ;rcases mz (by simp) kk with ⟨i,j,rfl,rfl,kk⟩;rcases hx.int_inv with ⟨t,rfl⟩;rcases hy.int_inv with ⟨u,rfl⟩;refine hQ ?_;clear hQ
  exact lt_int (q.bool kk)
 | LtE =>
  apply bc;intro hQ;rcases mz (by simp) kk with ⟨i,j,rfl,rfl,kk⟩;rcases hx.int_inv with ⟨t,rfl⟩;rcases hy.int_inv with ⟨u,rfl⟩;refine hQ ?_;clear hQ
  exact le_int (q.bool kk)
 | Gt =>
  apply bc;intro hQ;rcases mz (by simp) kk with ⟨i,j,rfl,rfl,kk⟩;rcases hx.int_inv with ⟨t,rfl⟩;rcases hy.int_inv with ⟨u,rfl⟩;refine hQ ?_;clear hQ
  exact gt_int (q.bool kk)
 | GtE =>
  apply bc;intro hQ;rcases mz (by simp) kk with ⟨i,j,rfl,rfl,kk⟩;rcases hx.int_inv with ⟨t,rfl⟩;rcases hy.int_inv with ⟨u,rfl⟩;refine hQ ?_;clear hQ
  exact ge_int (q.bool kk)
 | Is =>
  obtain ⟨k1,k2,k3⟩:=kk
  rcases ev k1 with rfl | ⟨i,rfl⟩ <;> rcases ev k2 with rfl | ⟨j,rfl⟩
  ·obtain rfl:=hx;obtain rfl:=hy;exact wpAny_is_plain (by rfl) (q.bool k3)
  ·obtain rfl:=hx;obtain rfl:=hy;exact wpAny_is_plain (by rfl) (q.bool k3)
  ·obtain rfl:=hx;obtain rfl:=hy;exact wpAny_is_plain (by rfl) (q.bool k3)
  ·obtain rfl:=hx;obtain rfl:=hy
   rw [ij] at k3
   exact wpAny_is_plain (by rfl) (q.bool k3)
 | IsNot =>
  cases x with
  | str z =>
   apply bc;intro hQ;rcases (kk:y=.none∧_) with ⟨rfl,k3⟩;rcases hx.str_inv with ⟨t,rfl⟩;refine hQ ?_;clear hQ
   obtain rfl:=hy
   first
    | exact wpAny_isNot_plain (by rfl) (q.bool k3)
    | exact wpAny_isNot_other (by rfl) (by intro x;cases x) (q.bool k3)
  | none =>
   apply bc;intro hQ;rcases (kk:_∧_∧_) with ⟨k1,k2,k3⟩;refine hQ ?_;clear hQ
   cases y <;> first | (cases k2;done) | skip
   ·obtain rfl:=hx;obtain rfl:=hy;exact wpAny_isNot_plain (by rfl) (q.bool k3)
   ·obtain rfl:=hx;obtain rfl:=hy;exact wpAny_isNot_plain (by rfl) (q.bool k3)
  | bool i =>
   obtain ⟨k1,k2,k3⟩:=(kk:_∧_∧_)
   cases y <;> first | (cases k2;done) | skip
   ·obtain rfl:=hx;obtain rfl:=hy;exact wpAny_isNot_plain (by rfl) (q.bool k3)
   ·rename_i j
    obtain rfl:=hx;obtain rfl:=hy
    rw [ij] at k3
    exact wpAny_isNot_plain (by rfl) (q.bool k3)
  | _=>exact absurd kk.1 (fun e=>Bool.noConfusion e)
theorem zQ8 {x:V} {a:Value} {KB:Bool→Prop} {QB:Bool→Shared→Prop} (hx:Rd s.heap off x a) (kk:zZ9 x KB) (q:∀ b tk',KB b→QB b { s with toks:=tk' }) :
  wpAny (model pw w) A (truthy a) QB E s:=by
 cases x with
 | none=>obtain rfl:=hx;exact PyProof.Rows.truthy_none (q _ s.toks kk)
 | bool b=>obtain rfl:=hx;exact wpAny_truthy_bool (q _ s.toks kk)
 | int i=>apply bc;intro hQ;rcases hx.int_inv with ⟨t,rfl⟩;refine hQ ?_;clear hQ;exact truthy_int (q _ s.toks kk)
 | str z=>obtain ⟨t,rfl⟩:=hx.str_inv;exact SBL.truthy kk.1 (q _ _ kk.2)
 | lst l =>
  apply bc;intro hQ;rcases hx.lst_inv with ⟨t,as,rfl,ht,h1,h2⟩;refine hQ ?_;clear hQ
  have l1:=h2.length
  rw [Array.length_toList] at l1
  refine wpAny_truthy_list h1 (by rw [l1];exact kk.1) ?_
  have e:as.isEmpty=l.isEmpty:=by
   cases l with
   | nil=>simp at l1;simp [l1]
   | cons y r =>
    simp at l1
    cases hq:as.isEmpty with
    | false=>rfl
    | true=>rw [Array.isEmpty_iff_size_eq_zero] at hq;lia
  rw [e]
  exact q _ _ kk.2
 | _=>exact kk.elim
theorem yZc {op:UnaryOp} {x:V} {a:Value} (hx:Rd s.heap off x a) (kk:unop op x K) (q:Res off s K Q):wpAny (model pw w) A (unaryOp op a) Q E s:=by
 cases x <;> try exact kk.elim
 obtain ⟨t,rfl⟩:=hx.int_inv
 cases op with
 | USub=>exact neg_int (q.int kk _ _)
 | Invert=>exact invert_int (q.int kk _ _)
 | _=>exact kk.elim
end
end Mine
end
section
open PySem PySem.W PySem.Calls PyProof.Rows PySem.Builtin PySem.Builtin.Str
namespace Mine
noncomputable def aY:Expr→Bool
 | .Slice ..=>true
 | _=>false
inductive SubOk (l:List V) (k:Int) (K:Kp):Prop where
 | mk (h1:-(2 ^ 63)≤k) (h2:k < 2 ^ 63) (j:Nat) (X:V) (h3:seqIndex? k l.length=some j) (h4:l[j]?=some X) (kk:K X)
noncomputable def yVj:V→V→Kp→Prop
 | .str x,.int k,K=>fitsSsize k=true∧-(x.length:Int)≤k∧k < x.length∧K (.str (Txt.item x k))
 | .lst l,.int k,K=>SubOk l k K
 | .tup l,.int k,K=>SubOk l k K
 | _,_,_=>False
theorem nlo (m:Nat):-(2 ^ 63)≤(m:Int):=Int.le_trans (by decide) (Int.natCast_nonneg m)
theorem nhi {m:Nat} (h:m < 2 ^ 63):(m:Int) < 2 ^ 63:=Int.ofNat_lt.mpr h
noncomputable def lz (l:List V) (lo hi st:Option Int):List V :=
 (sliceRange (sliceBounds lo hi st l.length).1 (sliceBounds lo hi st l.length).2.1 (sliceBounds lo hi st l.length).2.2).filterMap (l[·]?)
noncomputable def zJd:V→Option Int→Option Int→Option Int→Kp→Prop
 | .lst l,lo,hi,st,K=>st≠some 0∧l.length≤sizeLine∧K (.lst (lz l lo hi st))
 | .str x,lo,hi,none,K=>x.length≤sizeLine∧K (.str (Txt.slice x lo hi))
 | _,_,_,_,_=>False
theorem aq {slice:Expr} (h:aY slice=false) (o i:Value):subscripted slice false o i=operate [o,i] (getItem o i):=by
 cases slice <;> first | rfl | contradiction
theorem yZd {slice:Expr} (o i:Value):∃ ops,subscripted slice false o i=operate ops (getItem o i):=by
 cases slice with
 | Slice lo hi st q=>cases st <;> exact ⟨_,rfl⟩
 | _=>exact ⟨_,rfl⟩
theorem RdL.pick {h:Heap} {off:Addr→Prop} {l:List V} {vs:List Value} (r:RdL h off l vs):∀ (ix:List Nat),RdL h off (ix.filterMap (l[·]?)) (ix.filterMap (vs[·]?))
 | []=>RdL.nil
 | i :: ix=>by
  cases hi:l[i]? with
  | none =>
   have:vs[i]?=none:=by rw [List.getElem?_eq_none_iff] at hi ⊢;rw [r.length];exact hi
   rw [List.filterMap_cons,List.filterMap_cons,hi,this]
   exact r.pick ix
  | some X =>
   apply bc;intro hQ;rcases r.get hi with ⟨v,e1,e2⟩;refine hQ ?_;clear hQ
   rw [List.filterMap_cons,List.filterMap_cons,hi,e1]
   exact .cons e2 (r.pick ix)
section
variable {w:World} {A:Around} {E:Value→Shared→Prop} {off:Addr→Prop} {s:Shared} {K:Kp} {Q:Value→Shared→Prop} {k:Nat}
theorem zXa {l:Addr} {vs:Array Value} {i:Int} {t:Tok} {j:Nat} {x:Value} (hl:s.heap.IsList l vs) (hlo:-(2 ^ 63)≤i) (hhi:i < 2 ^ 63) (hj:seqIndex? i vs.size=some j) (hx:vs[j]?=some x)
  (h:Q x s):wpAny (model pw w) A (getItem (.ref l) (.int i t)) Q E s:=by
 unfold seqIndex? at hj
 by_cases hn:i < 0
 ·simp only [hn,if_true] at hj
  by_cases h0:(decide (0≤i + (vs.size:Int)) && decide (i + (vs.size:Int) < vs.size))=true
  ·rw [if_pos h0] at hj
   (injection hj with hj;subst hj)
   rw [Bool.and_eq_true,decide_eq_true_eq,decide_eq_true_eq] at h0
   exact wpAny_getItem_list_neg hl hn (by lia) hlo hx h
  ·rw [if_neg h0] at hj;contradiction
 ·simp only [hn,if_false] at hj
  by_cases h0:(decide (0≤i) && decide (i < vs.size))=true
  ·rw [if_pos h0] at hj
   (injection hj with hj;subst hj)
   rw [Bool.and_eq_true,decide_eq_true_eq,decide_eq_true_eq] at h0
   exact wpAny_getItem_list hl h0.1 hhi hx h
  ·rw [if_neg h0] at hj;contradiction
theorem yVk {value slice:Expr} {x y:V} {o i:Value} (hsl:aY slice=false) (hx:Rd s.heap off x o) (hy:Rd s.heap off y i) (kk:yVj x y K) (q:Res off s K Q) :
  wpAny (model pw w) A (subscriptTail value slice o i) Q E s:=by
 cases x <;> (try exact kk.elim) <;> cases y <;> try exact kk.elim
 ·obtain ⟨t,rfl⟩:=hx.str_inv;obtain ⟨u,rfl⟩:=hy.int_inv
  exact item_str kk.1 kk.2.1 kk.2.2.1 (fun _=>q.str kk.2.2.2 _ _) (aq hsl _ _) (fun r=>by cases value <;> rfl)
 ·apply bc;intro hQ;rcases hx.tup_inv with ⟨t,as,rfl,ht,h1,h2⟩;rcases hy.int_inv with ⟨u,rfl⟩;rcases kk with ⟨k1,k2,j,X,k3,k4,k5⟩;rcases h2.get k4 with ⟨v,e1,e2⟩;refine hQ ?_;clear hQ
  have l1:=h2.length
  rw [Array.length_toList] at l1
  exact tail_any ⟨_,h1.choose_spec.1,h1.choose_spec.2.1⟩ slot_tuple_getitem.lookup (getItem_tuple h1 k1 k2 (by rw [l1];exact k3) (by simpa using e1) (q X v s.heap s.toks k5 (Keep.refl _) e2)) (aq hsl _ _)
 ·apply bc;intro hQ;rcases hx.lst_inv with ⟨t,as,rfl,ht,h1,h2⟩;rcases hy.int_inv with ⟨u,rfl⟩;rcases kk with ⟨k1,k2,j,X,k3,k4,k5⟩;rcases h2.get k4 with ⟨v,e1,e2⟩;refine hQ ?_;clear hQ
  have l1:=h2.length
  rw [Array.length_toList] at l1
  exact tail_any h1.typeIs slot_list_getitem.lookup (zXa h1 k1 k2 (by rw [l1];exact k3) (by simpa using e1) (q X v s.heap s.toks k5 (Keep.refl _) e2)) (aq hsl _ _)
noncomputable def nk (h:Heap) (off:Addr→Prop):Option Int→Value→Prop
 | none,v=>v=.none
 | some i,v=>∃ t,v=.int i t
theorem zWm {value slice:Expr} {x:V} {lo hi st:Option Int} {o vl vu vs:Value} (ol:Old off s.heap) (hx:Rd s.heap off x o) (pl:nk s.heap off lo vl) (pu:nk s.heap off hi vu) (ps:nk s.heap off st vs)
  (kk:zJd x lo hi st K) (q:Res off s K Q) :
  wpAny (model pw w) A (subscriptTail value slice o (.ref s.heap.objs.size)) Q E { s with heap:=s.heap.push { cls:=.type "slice",data:=.fields #[vl,vu,vs] } }:=by
 have kp:=Keep.push s.heap { cls:=.type "slice",data:=.fields #[vl,vu,vs] }
 have part:∀ {p:Option Int} {v:Value},nk s.heap off p v→IsPart v p:=by
  intro p v h
  cases p with
  | none=>cases h;exact .none
  | some i=>obtain ⟨t,rfl⟩:=h;exact .int i t
 have q':Res off { s with heap:=s.heap.push { cls:=.type "slice",data:=.fields #[vl,vu,vs] } } K Q:=fun X v h' tk' a b c=>q X v h' tk' a (kp.trans b) c
 obtain ⟨ops,hs⟩:=yZd (slice:=slice) o (.ref s.heap.objs.size)
 cases x with
 | lst l =>
  apply bc;intro hQ;rcases kk with ⟨k1,k2,k3⟩;rcases (hx.keep kp).lst_inv with ⟨t,as,rfl,ht,h1,h2⟩;refine hQ ?_;clear hQ
  have l1:=h2.length
  rw [Array.length_toList] at l1
  refine tail_any h1.typeIs slot_list_getitem.lookup (wpAny_getItem_list_slice h1 (Heap.IsSliceOf.new _ _ _ _) (part pl) (part pu) (part ps) k1 ?_ (by rw [l1];exact k2)) hs
  have e:slicePick as lo hi st=(((sliceRange (sliceBounds lo hi st l.length).1 (sliceBounds lo hi st l.length).2.1 (sliceBounds lo hi st l.length).2.2).filterMap (as.toList[·]?))).toArray:=by
   unfold slicePick
   rw [l1]
   congr 1
   congr 1
   funext i
   simp
  rw [e]
  exact q' _ _ _ s.toks k3 (Keep.push _ _) (Rd.newList (ol.keep kp) (h2.pick _))
 | str x =>
  cases st with
  | some i=>exact kk.elim
  | none =>
   obtain ⟨k1,k2⟩:=kk;obtain ⟨t,rfl⟩:=(hx.keep kp).str_inv
   have tok:∀ {p:Option Int} {v:Value},nk s.heap off p v→∃ p':Option (Int×Tok),v=partValue p'∧p'.map (·.1)=p:=by
    intro p v h
    cases p with
    | none=>cases h;exact ⟨none,rfl,rfl⟩
    | some i=>obtain ⟨t,rfl⟩:=h;exact ⟨some (i,t),rfl,rfl⟩
   apply bc;intro hQ;rcases tok pl with ⟨pl',el,el'⟩;rcases tok pu with ⟨pu',eu,eu'⟩;refine hQ ?_;clear hQ
   cases (ps:vs=.none)
   refine tail_any (typeIs_str _ _ _) slot_str_getitem.lookup (wpAny_getItem_str_slice (l:=pl') (u:=pu') (st:=none) ⟨_,Heap.get?_push_size _ rfl,rfl,by rw [el,eu];rfl⟩ (by rfl) ?_) hs
   have e1:slicePicked x pl' pu' none=strSliceIndices lo hi 1 x.length:=by unfold slicePicked;rw [el',eu'];rfl
   unfold sliceMade
   rw [e1]
   show (if ((1:Int) == 1 && (strSliceIndices lo hi 1 x.length).length == x.length)=true then _ else _:Made).post Q _
   by_cases hc:((1:Int) == 1 && (strSliceIndices lo hi 1 x.length).length == x.length)=true
   ·have e2:Txt.slice x lo hi=x:=by unfold Txt.slice;rw [if_pos hc]
    rw [e2] at k2
    rw [if_pos hc]
    exact q'.str k2 _ _
   ·have e2:Txt.slice x lo hi=⟨((strSliceIndices lo hi 1 x.length).filterMap (x.cps[·]?)).toArray⟩:=by unfold Txt.slice;rw [if_neg hc]
    have hlen:=Txt.slice_le x lo hi
    rw [e2] at k2 hlen
    rw [if_neg hc]
    exact ⟨Nat.le_trans hlen k1,q'.str k2 _ _⟩
 | _=>cases st <;> exact kk.elim
end
theorem RdL.ints {h:Heap} {off:Addr→Prop}:∀ {ns:List Int} {vs:List Value},RdL h off (ns.map V.int) vs→∃ ps:List (Int×Tok),vs=ps.map (fun p=>.int p.1 p.2)∧ps.map (·.1)=ns
 | [],vs,r=>by obtain rfl:=r;exact ⟨[],rfl,rfl⟩
 | n :: ns,vs,r=>by
  rw [List.map_cons] at r
  apply bc;intro hQ;rcases r with ⟨v,r',rfl,e1,e2⟩;rcases e1.int_inv with ⟨t,rfl⟩;rcases RdL.ints e2 with ⟨ps,rfl,rfl⟩;refine hQ ?_;clear hQ
  exact ⟨(n,t) :: ps,rfl,rfl⟩
theorem RdL.strs {h:Heap} {off:Addr→Prop}:∀ {ns:List Str} {vs:List Value},RdL h off (ns.map V.str) vs→∃ ps:List (Str×Tok),vs=strValues ps∧ps.map (·.1)=ns
 | [],vs,r=>by obtain rfl:=r;exact ⟨[],rfl,rfl⟩
 | n :: ns,vs,r=>by
  rw [List.map_cons] at r
  apply bc;intro hQ;rcases r with ⟨v,r',rfl,e1,e2⟩;rcases e1.str_inv with ⟨t,rfl⟩;rcases RdL.strs e2 with ⟨ps,rfl,rfl⟩;refine hQ ?_;clear hQ
  exact ⟨(n,t) :: ps,rfl,rfl⟩
theorem RdL.of_strs {h:Heap} {off:Addr→Prop}:∀ {ns:List Str} {ps:List (Str×Tok)},ps.map (·.1)=ns→RdL h off (ns.map V.str) (strValues ps)
 | _,[],e=>by subst e;exact RdL.nil
 | _,p :: ps,e=>by subst e;exact .cons (Rd.str _ _) (RdL.of_strs rfl)
noncomputable def vV (x y:Str) (i j:Int):Int:=match occurrences x y (fromIndex x.length i) (min (fromIndex x.length j) x.length) 1 with | k :: _=>(k:Int) | []=>-1
noncomputable def qV (x y:Str) (i j:Int):Int:=match lastOccurrence x y (fromIndex x.length i) (min (fromIndex x.length j) x.length) with | some k=>(k:Int) | none=>-1
theorem az (x y:Str) (i j:Int) (t u v v':Tok):Gives («str.find» ⟨[.str x t,.str y u,.int i v,.int j v'],[]⟩) (.int (vV x y i j)):=by
 show Gives (match occurrences x y (fromIndex x.length i) (min (fromIndex x.length j) x.length) 1 with | k :: _=>retInt k | []=>(do rule "str.find.not-found";retInt (-1))) _
 unfold vV
 cases occurrences x y (fromIndex x.length i) (min (fromIndex x.length j) x.length) 1 with
 | nil=>exact .rule (.of_eq rfl)
 | cons k _=>exact .of_eq rfl
theorem dQ (x y:Str) (i j:Int) (t u v v':Tok):Gives («str.rfind» ⟨[.str x t,.str y u,.int i v,.int j v'],[]⟩) (.int (qV x y i j)):=by
 show Gives (match lastOccurrence x y (fromIndex x.length i) (min (fromIndex x.length j) x.length) with | some k=>retInt k | none=>(do rule "str.rfind.not-found";retInt (-1))) _
 unfold qV
 cases lastOccurrence x y (fromIndex x.length i) (min (fromIndex x.length j) x.length) with
 | none=>exact .rule (.of_eq rfl)
 | some k=>exact .of_eq rfl
noncomputable def ltAt (ys:List Str) (i j:Nat):Bool:=decide ((ys.getD i default).cps.toList < (ys.getD j default).cps.toList)
noncomputable def minS (ys:List Str):Str:=ys.getD (argBest (ltAt ys) (ys.length - 1)) default
inductive Fn where
 | len | ord | chr | hex | divmod | sum | min | startswith | endswith | find | rfind | lower | join | split | bitLength | count | index
noncomputable def Fn.id:Fn→String
 | .len=>"len" | .ord=>"ord" | .chr=>"chr" | .hex=>"hex" | .divmod=>"divmod" | .sum=>"sum" | .min=>"min"
 | .startswith=>"str.startswith" | .endswith=>"str.endswith" | .find=>"str.find" | .rfind=>"str.rfind" | .lower=>"str.lower" | .join=>"str.join" | .split=>"str.split"
 | .bitLength=>"int.bit_length" | .count=>"list.count" | .index=>"list.index"
noncomputable def sA (f:Str→List V→Prop):List V→Prop
 | .str x :: r=>f x r
 | _=>False
noncomputable def iA (f:Int→List V→Prop):List V→Prop
 | .int x :: r=>f x r
 | _=>False
noncomputable def gA (f:List V→List V→Prop):List V→Prop
 | .lst x :: r=>f x r
 | _=>False
noncomputable def vA (f:V→List V→Prop):List V→Prop
 | []=>False
 | x :: r=>f x r
noncomputable def oA (a b:Prop):List V→Prop
 | []=>a
 | _ :: _=>b
noncomputable abbrev nA (p:Prop) (l:List V):Prop:=oA p False l
noncomputable def str1 (f:Str→Kp→Prop) (l:List V) (K:Kp):Prop:=sA (fun x r=>nA (f x K) r) l
noncomputable def int1 (f:Int→Kp→Prop) (l:List V) (K:Kp):Prop:=iA (fun x r=>nA (f x K) r) l
noncomputable def lst1 (f:List V→Kp→Prop) (l:List V) (K:Kp):Prop:=gA (fun x r=>nA (f x K) r) l
noncomputable def str2 (f:Str→Str→Kp→Prop) (l:List V) (K:Kp):Prop:=sA (fun x r=>sA (fun y r=>nA (f x y K) r) r) l
noncomputable def lenC:List V→Kp→Prop
 | .lst l :: r,K=>nA ((l.length:Int) < 2 ^ 63∧K (.int l.length)) r
 | l,K=>str1 (fun x K=>(x.length:Int) < 2 ^ 63∧K (.int x.length)) l K
noncomputable def zJe (l:List V) (K:Kp):Prop:=iA (fun a r=>iA (fun b r=>nA (b≠0∧divisionGoesByPylong a b=false∧K (.tup [.int (a.fdiv b),.int (a.fmod b)])) r) r) l
noncomputable def int2 (f:Int→Int→Prop) (l:List V):Prop:=iA (fun i r=>iA (fun j r=>nA (f i j) r) r) l
noncomputable def yVl (l:List V) (K:Kp):Prop:=sA (fun x r=>sA (fun y r=>oA (K (.int (Txt.find x y))) (int2 (fun i j=>K (.int (vV x y i j))) r) r) r) l
noncomputable def yQq (l:List V) (K:Kp):Prop:=sA (fun x r=>sA (fun y r=>int2 (fun i j=>K (.int (qV x y i j))) r) r) l
noncomputable def yVm (l:List V) (K:Kp):Prop:=sA (fun x r=>gA (fun l r=>nA (∃ ys:List Str,l=ys.map V.str∧JoinOk x ys=true∧K (.str (Txt.join x ys))) r) r) l
noncomputable def lv2 (f:List V→V→Prop) (l:List V):Prop:=gA (fun l r=>vA (fun x r=>nA (f l x) r) r) l
noncomputable def yQr (l:List V) (K:Kp):Prop:=lv2 (fun l x=>zx x=true∧zx (.lst l)=true∧K (.int ((toPL l).countP fun y=>y.eqv (toP x):Nat))) l
noncomputable def yQs (l:List V) (K:Kp):Prop:=lv2 (fun l x=>zx x=true∧zx (.lst l)=true∧∃ j,(toPL l).findIdx? (fun y=>y.eqv (toP x))=some j∧(j:Int) < 2 ^ 63 - 1∧K (.int j)) l
noncomputable def zXb (f:Fn) (l:List V) (K:Kp):Prop:=match f with
 | .len=>lenC l K
 | .ord=>str1 (fun x K=>x.length=1∧K (.int (x.cps.getD 0 0))) l K
 | .chr=>int1 (fun i K=>0≤i∧i≤1114111∧K (.str ⟨#[i.toNat]⟩)) l K
 | .hex=>int1 (fun i K=>(baseText "0x" 16 i).length≤sizeLine∧K (.str (baseText "0x" 16 i))) l K
 | .divmod=>zJe l K
 | .sum=>lst1 (fun l K=>∃ ns:List Int,l=ns.map V.int∧(∀ j,j < ns.length→InLong (ns.getD j 0)∧InLong (ns.take (j + 1)).sum)∧K (.int ns.sum)) l K
 | .min=>lst1 (fun l K=>∃ ys:List Str,l=ys.map V.str∧ys≠[]∧K (.str (minS ys))) l K
 | .startswith=>str2 (fun x y K=>K (.bool (Txt.startswith x y))) l K
 | .endswith=>str2 (fun x y K=>K (.bool (Txt.endswith x y))) l K
 | .find=>yVl l K
 | .rfind=>yQq l K
 | .lower=>str1 (fun x K=>tooLong (Txt.lower x).length=false∧K (.str (Txt.lower x))) l K
 | .join=>yVm l K
 | .split=>str2 (fun x y K=>(y.length == 0)=false∧x.length≤sizeLine∧(Txt.split x y).length≤sizeLine∧K (.lst ((Txt.split x y).map V.str))) l K
 | .bitLength=>int1 (fun i K=>K (.int (Builtin.Int.intBits i))) l K
 | .count=>yQr l K
 | .index=>yQs l K
section
variable {w:World} {A:Around} {E:Value→Shared→Prop} {off:Addr→Prop} {s:Shared} {K:Kp} {Q:Value→Shared→Prop} {k:Nat}
inductive SA (h:Heap) (off:Addr→Prop) (f:Str→List V→Prop):List Value→Prop
 | mk (x:Str) (t:Tok) (r:List V) (ws:List Value):RdL h off r ws→f x r→SA h off f (.str x t :: ws)
inductive IA (h:Heap) (off:Addr→Prop) (f:Int→List V→Prop):List Value→Prop
 | mk (x:Int) (t:Tok) (r:List V) (ws:List Value):RdL h off r ws→f x r→IA h off f (.int x t :: ws)
inductive LA (h:Heap) (off:Addr→Prop) (f:List V→List V→Prop):List Value→Prop
 | mk (x:List V) (a:Addr) (as:Array Value) (r:List V) (ws:List Value):Rd h off (.lst x) (.ref a)→h.IsList a as→RdL h off x as.toList→RdL h off r ws→f x r→LA h off f (.ref a :: ws)
theorem nv {f:Str→List V→Prop} {l:List V} {vs:List Value} (hx:RdL s.heap off l vs) (kk:sA f l):SA s.heap off f vs:=by
 cases l with
 | nil=>exact False.elim kk
 | cons X r =>
  obtain ⟨v,r',rfl,e1,e2⟩:=hx
  cases X with
  | str x=>obtain ⟨t,rfl⟩:=e1.str_inv;exact ⟨x,t,r,r',e2,kk⟩
  | _=>exact False.elim kk
theorem zJf {f:Int→List V→Prop} {l:List V} {vs:List Value} (hx:RdL s.heap off l vs) (kk:iA f l):IA s.heap off f vs:=by
 cases l with
 | nil=>exact False.elim kk
 | cons X r =>
  obtain ⟨v,r',rfl,e1,e2⟩:=hx
  cases X with
  | int x=>obtain ⟨t,rfl⟩:=e1.int_inv;exact ⟨x,t,r,r',e2,kk⟩
  | _=>exact False.elim kk
theorem zJg {f:List V→List V→Prop} {l:List V} {vs:List Value} (hx:RdL s.heap off l vs) (kk:gA f l):LA s.heap off f vs:=by
 cases l with
 | nil=>exact False.elim kk
 | cons X r =>
  obtain ⟨v,r',rfl,e1,e2⟩:=hx
  cases X with
  | lst x=>have e3:=e1;obtain ⟨a,as,rfl,_,h1,h2⟩:=e1.lst_inv;exact ⟨x,a,as,r,r',e3,h1,h2,e2,kk⟩
  | _=>exact False.elim kk
theorem lx {p:Prop} {l:List V} {vs:List Value} (hx:RdL s.heap off l vs) (kk:nA p l):vs=[]∧p:=by
 cases l with
 | nil=>exact ⟨hx,kk⟩
 | cons X r=>exact False.elim kk
theorem gq {f:Str→Kp→Prop} {l:List V} {vs:List Value} (hx:RdL s.heap off l vs) (kk:str1 f l K):∃ x t,vs=[.str x t]∧f x K:=by
 obtain ⟨x,t,r,ws,hy,kkhy⟩:=nv hx kk
 obtain ⟨rfl,kk⟩:=lx (l:=r) hy kkhy
 exact ⟨x,t,rfl,kk⟩
theorem gz {f:Int→Kp→Prop} {l:List V} {vs:List Value} (hx:RdL s.heap off l vs) (kk:int1 f l K):∃ x t,vs=[.int x t]∧f x K:=by
 obtain ⟨x,t,r,ws,hy,kkhy⟩:=zJf hx kk
 obtain ⟨rfl,kk⟩:=lx (l:=r) hy kkhy
 exact ⟨x,t,rfl,kk⟩
theorem gx {f:Int→Int→Prop} {l:List V} {vs:List Value} (hx:RdL s.heap off l vs) (kk:int2 f l):∃ x t y u,vs=[.int x t,.int y u]∧f x y:=by
 obtain ⟨x,t,r,ws,hy,kkhy⟩:=zJf hx kk
 obtain ⟨y,u,r,ws,hz,kkhz⟩:=zJf hy kkhy
 obtain ⟨rfl,kk⟩:=lx (l:=r) hz kkhz
 exact ⟨x,t,y,u,rfl,kk⟩
theorem gj {f:Str→Str→Kp→Prop} {l:List V} {vs:List Value} (hx:RdL s.heap off l vs) (kk:str2 f l K):∃ x y t u,vs=[.str x t,.str y u]∧f x y K:=by
 obtain ⟨x,t,r,ws,hy,kkhy⟩:=nv hx kk
 obtain ⟨y,u,r,ws,hz,kkhz⟩:=nv hy kkhy
 obtain ⟨rfl,kk⟩:=lx (l:=r) hz kkhz
 exact ⟨x,y,t,u,rfl,kk⟩
theorem gk {f:List V→Kp→Prop} {l:List V} {vs:List Value} (hx:RdL s.heap off l vs) (kk:lst1 f l K) :
  ∃ x a as,vs=[.ref a]∧s.heap.IsList a as∧RdL s.heap off x as.toList∧f x K:=by
 obtain ⟨x,a,as,r,ws,_,h1,h2,hy,kkhy⟩:=zJg hx kk
 obtain ⟨rfl,kk⟩:=lx (l:=r) hy kkhy
 exact ⟨x,a,as,rfl,h1,h2,kk⟩
inductive LV2 (h:Heap) (off:Addr→Prop) (f:List V→V→Prop):List Value→Prop
 | mk (x:List V) (y:V) (v w:Value):Rd h off (.lst x) v→Rd h off y w→f x y→LV2 h off f [v,w]
theorem zJh {f:List V→V→Prop} {l:List V} {vs:List Value} (hx:RdL s.heap off l vs) (kk:lv2 f l):LV2 s.heap off f vs:=by
 obtain ⟨x,a,as,r,ws,h0,_,_,hy,kkhy⟩:=zJg hx kk
 cases r with
 | nil=>exact False.elim kkhy
 | cons y r =>
  obtain ⟨w,r',rfl,e1,hv⟩:=hy
  obtain ⟨rfl,kk⟩:=lx (l:=r) hv kkhy
  exact ⟨x,y,_,w,h0,e1,kk⟩
theorem yVn {l:List V} {vs:List Value} (hx:RdL s.heap off l vs) (kk:lenC l K) (q:Res off s K Q):wpAny (model pw w) A (call (.builtin "len") vs) Q E s:=by
 have st:str1 (fun x K=>(x.length:Int) < 2 ^ 63∧K (.int x.length)) l K→wpAny (model pw w) A (call (.builtin "len") vs) Q E s:=fun kk=>by
  obtain ⟨x,t,rfl,k1,k2⟩:=gq hx kk
  exact call_len_gives (typeIs_str _ _ _) F.slot_str_len F.entry_str_len (F.args_str_len_1 _) (gives_str_len x t) (by lia) (by lia) (q.int k2 _ _)
 cases l with
 | nil=>exact st kk
 | cons X r =>
  cases X with
  | lst x =>
   obtain ⟨x,a,as,rfl,h1,h2,k1,k2⟩:=gk (f:=fun l K=>(l.length:Int) < 2 ^ 63∧K (.int l.length)) hx kk
   have l1:=h2.length
   rw [Array.length_toList] at l1
   exact call_len_list h1 (by rw [l1];exact k1) (by rw [l1];exact q.int k2 _ _)
  | _=>exact st kk
end
section
variable {w:World} {A:Around} {E:Value→Shared→Prop} {off:Addr→Prop} {s:Shared} {K:Kp} {Q:Value→Shared→Prop} {k:Nat}
theorem zJi {l:List V} {vs:List Value} (ol:Old off s.heap) (hx:RdL s.heap off l vs) (kk:zJe l K) (q:Res off s K Q):wpAny (model pw w) A (call (.builtin "divmod") vs) Q E s:=by
 obtain ⟨a,t,b,u,rfl,k1,k2,k3⟩:=gx (f:=fun a b=>b≠0∧divisionGoesByPylong a b=false∧K (.tup [.int (a.fdiv b),.int (a.fmod b)])) hx kk
 exact divmod_int k1 (q _ _ _ _ k3 (Keep.push _ _) (Rd.newTuple ol (.cons (Rd.int _ s.toks) (.cons (Rd.int _ (s.toks + 1)) .nil)))) (.inl k2)
theorem zQ9 {T id:String} {name:Str} {B:Builtin} {self:Value} {rest:List Value} {m:Made} (sl:Slot T name id) (ht:s.TypeIs self T) (en:entryFor table id=some B) (ar:argsOk id ⟨self :: rest,[]⟩)
  (g:Gives (B ⟨self :: rest,[]⟩) m) (h:m.post Q s):wpAny (model pw w) A (call (.builtin id) (self :: rest)) Q E s :=
 call_meets sl ht en ar g.meets h
theorem yZe {l:List V} {vs:List Value} (hx:RdL s.heap off l vs) (kk:yVl l K) (q:Res off s K Q):wpAny (model pw w) A (call (.builtin "str.find") vs) Q E s:=by
 obtain ⟨x,t,r,ws,hy,kkhy⟩:=nv hx kk
 obtain ⟨y,u,r,ws,hz,kkhz⟩:=nv hy kkhy
 cases r with
 | nil=>obtain rfl:=hz;exact SC.find (q.int kkhz _ _)
 | cons z r =>
  obtain ⟨i,i',j,j',rfl,kk⟩:=gx hz kkhz
  exact zQ9 F.slot_str_find (typeIs_str _ _ _) F.entry_str_find (F.args_str_find_4 _ _ _ _) (az x y i j t u i' j') (q.int kk _ _)
theorem zWn {l:List V} {vs:List Value} (hx:RdL s.heap off l vs) (kk:yQq l K) (q:Res off s K Q):wpAny (model pw w) A (call (.builtin "str.rfind") vs) Q E s:=by
 obtain ⟨x,t,r,ws,hy,kkhy⟩:=nv hx kk
 obtain ⟨y,u,r,ws,hz,kkhz⟩:=nv hy kkhy
 obtain ⟨i,i',j,j',rfl,kk⟩:=gx hz kkhz
 exact zQ9 F.slot_str_rfind (typeIs_str _ _ _) F.entry_str_rfind (F.args_str_rfind_4 _ _ _ _) (dQ x y i j t u i' j') (q.int kk _ _)
theorem yZf {l:List V} {vs:List Value} (hx:RdL s.heap off l vs) (kk:yVm l K) (q:Res off s K Q):wpAny (model pw w) A (call (.builtin "str.join") vs) Q E s:=by
 obtain ⟨x,t,r,ws,hy,kkhy⟩:=nv hx kk
 obtain ⟨l,a,as,r,ws,_,h1,h2,hz,kkhz⟩:=zJg hy kkhy
 obtain ⟨rfl,ys,rfl,k1,k2⟩:=lx (l:=r) hz kkhz
 obtain ⟨ps,e3,e4⟩:=h2.strs
 have ea:as=(strValues ps).toArray:=by rw [← e3]
 subst ea
 have jo:tooLong ((ps.map (·.1)).toArray.foldl (· + ·.length + x.length) 0)=false:=by
  rw [e4];unfold JoinOk at k1;simpa using k1
 refine call_meets F.slot_str_join (typeIs_str _ _ _) F.entry_str_join (F.args_str_join_2 _ _) (meets_str_join_list x t a ps jo) ⟨h1,?_⟩
 rw [← e4] at k2 k1
 exact post_join ps ⟨joinOk_length k1,fun t' k'=>q.str k2 t' k'⟩
theorem RdL.strsFrom {h:Heap} {off:Addr→Prop}:∀ (l:List Str) (n:Nat),RdL h off (l.map V.str) (strsFrom n l)
 | [],_=>RdL.nil
 | x :: l,n=>.cons (Rd.str _ _) (RdL.strsFrom l (n + 1))
theorem zWo {l:List V} {vs:List Value} (ol:Old off s.heap) (hx:RdL s.heap off l vs) (kk:zXb .split l K) (q:Res off s K Q):wpAny (model pw w) A (call (.builtin "str.split") vs) Q E s:=by
 apply bc;intro hQ;rcases gj (f:=fun x y K=>(y.length == 0)=false∧x.length≤sizeLine∧(Txt.split x y).length≤sizeLine∧K (.lst ((Txt.split x y).map V.str))) hx kk with ⟨x,y,t,u,rfl,k1,k2,k3,k4⟩;refine hQ ?_;clear hQ
 have itself:Txt.split x y=[x]→listOfItself x t A (wants Q E) s:=fun e=>by
  rw [e] at k4
  exact q _ _ _ _ k4 (Keep.push _ _) (Rd.newList ol (RdL.one (Rd.str x t)))
 by_cases h1:(decide (x.length < y.length) || decide (strKind x < strKind y))=true
 ·exact call_meets F.slot_str_split (typeIs_str _ _ _) F.entry_str_split (F.args_str_split_2 _ _) (meets_str_split_cannot_occur x y t u h1) (itself (by unfold Txt.split;rw [if_pos h1]))
 ·have h1':=Bool.eq_false_iff.mpr h1
  by_cases h2:(occurrences x y 0 x.length (x.length + 1)).isEmpty=true
  ·exact call_meets F.slot_str_split (typeIs_str _ _ _) F.entry_str_split (F.args_str_split_2 _ _) (meets_str_split_not_found x y t u h1' k1 h2) (itself (by unfold Txt.split;rw [if_neg h1,if_pos h2]))
  ·have e:Txt.split x y=partsBetween x (occurrences x y 0 x.length (x.length + 1)) y.length:=by unfold Txt.split;rw [if_neg h1,if_neg h2]
   rw [e] at k3 k4
   exact call_meets F.slot_str_split (typeIs_str _ _ _) F.entry_str_split (F.args_str_split_2 _ _) (meets_str_split_sep x y t u h1' k1 (Bool.eq_false_iff.mpr h2) k2 k3)
    (q _ _ _ _ k4 (Keep.push _ _) (Rd.newList ol (RdL.strsFrom _ _)))
theorem yVo {l:List V} {vs:List Value} (hh:A.handled=none) (hx:RdL s.heap off l vs) (kk:zXb .sum l K) (q:Res off s K Q):wpAny (model pw w) A (call (.builtin "sum") vs) Q E s:=by
 apply bc;intro hQ;rcases gk (f:=fun l K=>∃ ns:List Int,l=ns.map V.int∧(∀ j,j < ns.length→InLong (ns.getD j 0)∧InLong (ns.take (j + 1)).sum)∧K (.int ns.sum)) hx kk with ⟨x,a,as,rfl,h1,h2,ns,rfl,k1,k2⟩;rcases h2.ints with ⟨ps,e1,e2⟩;refine hQ ?_;clear hQ
 have ea:as=intItems ps.toArray:=by unfold intItems;simp;rw [← e1]
 subst ea
 have num:∀ j,numAt ps.toArray j=ns.getD j 0:=by
  intro j
  unfold numAt
  rw [← e2]
  simp [List.getD_eq_getElem?_getD]
 have pre:∀ j,preSum (numAt ps.toArray) j=(ns.take j).sum:=by
  intro j
  induction j with
  | zero=>simp [preSum]
  | succ j ih =>
   rw [preSum,ih,num,List.take_add_one,List.sum_append]
   cases hj:ns[j]? with
   | none=>simp [List.getD_eq_getElem?_getD,hj]
   | some v=>simp [List.getD_eq_getElem?_getD,hj]
 have len:ps.length=ns.length:=by rw [← e2,List.length_map]
 refine sum_intList hh h1 (fun j hj=>?_) fun h' tk t' hk=>?_
 ·rw [num,pre];exact k1 j (by rw [List.size_toArray,len] at hj;exact hj)
 ·rw [pre,List.size_toArray,len,List.take_length]
  exact q _ _ h' tk k2 (.of hk) (Rd.int _ _)
set_option tactic.hygienic true in
theorem zWp {l:List V} {vs:List Value} (r:Room k A) (hx:RdL s.heap off l vs) (kk:yQr l K) (q:Res off s K Q):wpAny (model pw w) A (call (.builtin "list.count") vs) Q E s:=by
 obtain ⟨l,x,v,b,e1,e2,k1,k2,k3⟩:=zJh hx kk
 unfold zx at k1 k2
 rw [Bool.and_eq_true] at k1 k2
 apply bc;intro hQ;rcases k1 with ⟨k1a,k1b⟩;rcases k2 with ⟨k2a,k2b⟩;rcases e1.reads k2a with ⟨bs,rb⟩;rcases e2.reads k1a with ⟨cs,rc⟩;refine hQ ?_;clear hQ
 unfold SeqAt.shaped at k1b k2b
 rw [Bool.and_eq_true,decide_eq_true_eq] at k1b k2b
 have hxs:PyData.canLayAll0 (toPL l)=true:=by have:=k2b.1;exact this
 have hu:A.units + 1 + min (PyData.depthAll (toPL l)) (toP x).depth < cLine:=by
  have:=r.un;have:=Nat.min_le_right (PyData.depthAll (toPL l)) (toP x).depth;lia
 cases rb with
 | list h1 h2 h3 h4 =>
  rename_i a o vs' n as'
  apply bc;intro hQ;rcases o with ⟨cls,dd,data,sl⟩;refine hQ ?_;clear hQ
  simp only at h2 h3
  subst h2 h3
  refine call_meets F.slot_list_count ⟨_,h1,rfl⟩ F.entry_list_count (F.args_list_count_2 _ _) (SeqAt.list_countAt a vs' n dd sl b (fun y=>PyData.eqv (SeqAt.readOf s.heap y) (toP x))) ⟨h1,SeqAt.items_eqAt h4 rc hxs k1b.1 hu,?_⟩
  have e:List.countP (fun y=>PyData.eqv (SeqAt.readOf s.heap y) (toP x)) vs'.toList=(toPL l).countP fun y=>y.eqv (toP x):=by
   rw [← SeqAt.readsAll_map _ _ _ hxs h4,List.countP_map];rfl
  rw [e]
  exact q.int k3 _ _
set_option tactic.hygienic true in
theorem zWq {l:List V} {vs:List Value} (r:Room k A) (hx:RdL s.heap off l vs) (kk:yQs l K) (q:Res off s K Q):wpAny (model pw w) A (call (.builtin "list.index") vs) Q E s:=by
 obtain ⟨l,x,v,b,e1,e2,k1,k2,j,k3,k4,k5⟩:=zJh hx kk
 unfold zx at k1 k2
 rw [Bool.and_eq_true] at k1 k2
 apply bc;intro hQ;rcases k1 with ⟨k1a,k1b⟩;rcases k2 with ⟨k2a,k2b⟩;rcases e1.reads k2a with ⟨bs,rb⟩;rcases e2.reads k1a with ⟨cs,rc⟩;refine hQ ?_;clear hQ
 unfold SeqAt.shaped at k1b k2b
 rw [Bool.and_eq_true,decide_eq_true_eq] at k1b k2b
 have hxs:PyData.canLayAll0 (toPL l)=true:=by have:=k2b.1;exact this
 have hu:A.units + 1 + min (PyData.depthAll (toPL l)) (toP x).depth < cLine:=by
  have:=r.un;have:=Nat.min_le_right (PyData.depthAll (toPL l)) (toP x).depth;lia
 cases rb with
 | list h1 h2 h3 h4 =>
  rename_i a o vs' n as'
  apply bc;intro hQ;rcases o with ⟨cls,dd,data,sl⟩;refine hQ ?_;clear hQ
  simp only at h2 h3
  subst h2 h3
  have em:=SeqAt.readsAll_map _ _ _ hxs h4
  rw [List.findIdx?_eq_some_iff_getElem] at k3
  apply bc;intro hQ;rcases k3 with ⟨hj,k3,k3'⟩;refine hQ ?_;clear hQ
  have hlen:vs'.size=(toPL l).length:=by rw [← em];simp
  have at_:∀ m (hm:m < vs'.size),SeqAt.readOf s.heap vs'[m]=(toPL l)[m]'(by rw [← hlen];exact hm):=by
   intro m hm
   simp only [← em,List.getElem_map,Array.getElem_toList]
  refine call_meets F.slot_list_index ⟨_,h1,rfl⟩ F.entry_list_index (F.args_list_index_2 _ _) (SeqAt.list_indexAt a vs' n dd sl b (fun y=>PyData.eqv (SeqAt.readOf s.heap y) (toP x)) j (by rw [hlen];exact hj) k4 ?_ ?_)
   ⟨h1,SeqAt.items_eqAt h4 rc hxs k1b.1 hu,q.int k5 _ _⟩
  ·show PyData.eqv _ _=true
   rw [at_];exact k3
  ·intro m hm hmj
   show PyData.eqv _ _=false
   rw [at_]
   exact Bool.eq_false_iff.mpr (k3' m hmj)
theorem yVp {l:List V} {vs:List Value} (hh:A.handled=none) (hx:RdL s.heap off l vs) (kk:zXb .min l K) (q:Res off s K Q):wpAny (model pw w) A (call (.builtin "min") vs) Q E s:=by
 apply bc;intro hQ;rcases gk (f:=fun l K=>∃ ys:List Str,l=ys.map V.str∧ys≠[]∧K (.str (minS ys))) hx kk with ⟨x,a,as,rfl,h1,h2,ys,rfl,k1,k2⟩;rcases h2.strs with ⟨ps,e1,e2⟩;refine hQ ?_;clear hQ
 have hlt:a < s.heap.objs.size:=by apply bc;intro hQ;rcases h1 with ⟨_,e,_⟩;refine hQ ?_;clear hQ;exact Heap.lt_size e
 have len:as.size=ys.length:=by have:=congrArg List.length e1;rw [← e2];simpa [strValues] using this
 have at_:∀ i v,as[i]?=some v→∃ t,v=Value.str (ys.getD i default) t:=by
  intro i v hv
  rw [← Array.getElem?_toList,e1] at hv
  unfold strValues at hv
  rw [List.getElem?_map,Option.map_eq_some_iff] at hv
  apply bc;intro hQ;rcases hv with ⟨p,hp,rfl⟩;refine hQ ?_;clear hQ
  exact ⟨p.2,by rw [← e2];simp [List.getD_eq_getElem?_getD,hp]⟩
 have cmp:CmpOf pw w A.in1 .Lt (fun i v=>as[i]?=some v) (ltAt ys):=fun i j vi vj s Q E hi hj h=>by
  apply bc;intro hQ;rcases at_ i vi hi with ⟨t,rfl⟩;rcases at_ j vj hj with ⟨u,rfl⟩;refine hQ ?_;clear hQ
  exact richCompare_gives (op:=.Lt) (typeIs_str s _ t) (typeIs_str s _ u) F.slot_str_lt F.entry_str_lt (F.args_str_lt_2 _ _) (gives_str_lt _ _ t u) (fun x=>nomatch x) h
 refine call_min_walk (wpAny_pyIter_list h1 ?_)
 have hfp:∀ b∈[s.heap.objs.size,a],b < (s.heap.push { cls:=.type "list_iterator",data:=.fields #[.ref a,.int 0 0] }).objs.size:=fun b hb=>by
  rw [Heap.size_push]
  rcases List.mem_cons.mp hb with rfl | hb
  ·exact Nat.lt_succ_self _
  ·rcases List.mem_cons.mp hb with rfl | hb
   ·exact Nat.lt_succ_of_lt hlt
   ·contradiction
 refine ⟨_,_,_,_,_,_,_,rfl,Walks.list (A:=A.in1) hh _ a (Nat.ne_of_lt hlt) as,⟨⟨_,Heap.get?_push_size _ rfl,rfl,rfl⟩,h1.push _⟩,hfp,?_,cmp,fun v h' tk hP hk=>?_⟩
 ·rw [len];exact List.length_pos_iff.mpr k1
 ·apply bc;intro hQ;rcases at_ _ v hP with ⟨t,rfl⟩;refine hQ ?_;clear hQ
  refine q _ _ h' tk k2 (.of (old_kept hk)) ?_
  rw [len]
  exact Rd.str _ _
theorem pX (f:Fn) {l:List V} {vs:List Value} (r:Room k A) (ol:Old off s.heap) (hx:RdL s.heap off l vs) (kk:zXb f l K) (q:Res off s K Q):wpAny (model pw w) A (call (.builtin f.id) vs) Q E s:=by
 cases f with
 | len=>exact yVn hx kk q
 | ord =>
  apply bc;intro hQ;rcases gq (f:=fun x K=>x.length=1∧K (.int (x.cps.getD 0 0))) hx kk with ⟨x,t,rfl,k1,k2⟩;refine hQ ?_;clear hQ
  exact ord_of_one k1 (q.int k2 _ _)
 | chr =>
  apply bc;intro hQ;rcases gz (f:=fun i K=>0≤i∧i≤1114111∧K (.str ⟨#[i.toNat]⟩)) hx kk with ⟨x,t,rfl,k1,k2,k3⟩;refine hQ ?_;clear hQ
  exact chr_of_range k1 k2 (q.str k3 _ _)
 | hex =>
  apply bc;intro hQ;rcases gz (f:=fun i K=>(baseText "0x" 16 i).length≤sizeLine∧K (.str (baseText "0x" 16 i))) hx kk with ⟨x,t,rfl,k1,k2⟩;refine hQ ?_;clear hQ
  exact P.hex_of_int (q.str k2 _ _)
 | divmod=>exact zJi ol hx kk q
 | sum=>exact yVo r.hd hx kk q
 | min=>exact yVp r.hd hx kk q
 | startswith =>
  apply bc;intro hQ;rcases gj (f:=fun x y K=>K (.bool (Txt.startswith x y))) hx kk with ⟨x,y,t,u,rfl,kk⟩;refine hQ ?_;clear hQ
  exact SC.startswith (q.bool kk)
 | endswith =>
  apply bc;intro hQ;rcases gj (f:=fun x y K=>K (.bool (Txt.endswith x y))) hx kk with ⟨x,y,t,u,rfl,kk⟩;refine hQ ?_;clear hQ
  exact SC.endswith (q.bool kk)
 | find=>exact yZe hx kk q
 | rfind=>exact zWn hx kk q
 | lower =>
  apply bc;intro hQ;rcases gq (f:=fun x K=>tooLong (Txt.lower x).length=false∧K (.str (Txt.lower x))) hx kk with ⟨x,t,rfl,k1,k2⟩;refine hQ ?_;clear hQ
  exact SC.lower k1 (q.str k2 _ _)
 | join=>exact yZf hx kk q
 | split=>exact zWo ol hx kk q
 | bitLength =>
  apply bc;intro hQ;rcases gz (f:=fun i K=>K (.int (Builtin.Int.intBits i))) hx kk with ⟨x,t,rfl,k1⟩;refine hQ ?_;clear hQ
  exact call_int_bit_length (q.int k1 _ _)
 | count=>exact zWp r hx kk q
 | index=>exact zWq r hx kk q
end
end Mine
end
section
open PySem PySem.W PySem.Calls PyProof.Rows
namespace Mine
noncomputable abbrev Rho:=List (Str×V)
inductive Slt where
 | un
 | val (X:V)
 | own (l:List V)
structure Cx where
 fn:Str→Option (List V→Kp→Prop)
 gv:Str→Option V
 ext:Scope→Expr→Option (Rho→Kp→Prop)
 sx:Stmt→Option (List (Str×Slt)→(List (Str×Slt)→Prop)→(V→Prop)→Prop)
 fg:Expr→List Str:=fun _=>[]
 fs:Stmt→List Str:=fun _=>[]
 pa:Around→Env→Prop:=fun _ _=>True
noncomputable def fgOf (l:List (Str×List Str)):Expr→List Str
 | .Name x _=>(l.lookup x).getD []
 | .Tuple (.Name x _ :: _) _ _=>(l.lookup x).getD []
 | _=>[]
noncomputable def bnOf (x:Str):Option Fn :=
 if x="len" then some .len else if x="ord" then some .ord else if x="chr" then some .chr else if x="hex" then some .hex
 else if x="divmod" then some .divmod else if x="sum" then some .sum else if x="min" then some .min else none
noncomputable def yZg:List (Str×Fn):=[("startswith",.startswith),("endswith",.endswith),("find",.find),("rfind",.rfind),("lower",.lower),("join",.join),("split",.split)]
noncomputable def yZh:List (Str×Fn):=[("count",.count),("index",.index)]
noncomputable def yZi:List (Str×Fn):=[("bit_length",.bitLength)]
noncomputable def zZa (X:V) (m:Str):Option Fn:=match X with
 | .str _=>yZg.lookup m
 | .lst _=>yZh.lookup m
 | .int _=>yZi.lookup m
 | _=>none
noncomputable def zz (sc:Scope) (x:Str):Bool:=sc.names.lookup x == some .globalImplicit && !(x == ("__debug__":Str))
noncomputable def yY:Expr→Bool
 | .Starred ..=>true
 | _=>false
noncomputable def relS (scope outer:Scope):Scope :=
 { scope with names:=scope.names.map fun (n,k)=>if (k == .free && outer.kind == .function && outer.names.lookup n == some .cell) then (n,.cell) else (n,k) }
noncomputable def xw (sc:Scope) (x:Str):Bool:=sc.names.lookup x == some .cell || sc.names.lookup x == some .free
noncomputable def sW (sc:Scope):Bool:=(sc.names.lookup ("__debug__":Str)).isNone && (sc.names.lookup ("__classdict__":Str)).isNone
noncomputable def scOk (sc outer:Scope):Bool :=
 sc.kind == .function && sW sc && sc.names.all (fun p=>p.2 != .cell && (p.2 != .local || sc.names.lookup p.1 == some .local) && (p.2 != .free || (xw outer p.1 && sc.names.lookup p.1 == some .free)))
noncomputable def pJ (sc:Scope) (ρ:Rho):Rho:=ρ.filter fun p=>sc.names.lookup p.1 == some .free
noncomputable abbrev onT (b:Bool) (P:Prop):Prop:=match b with
 | true=>P
 | false=>False
theorem onT.inv {b:Bool} {P:Prop} (h:onT b P):b=true∧P:=by
 cases b with
 | true=>exact ⟨rfl,h⟩
 | false=>exact h.elim
noncomputable abbrev onB (b:Bool) (P N:Prop):Prop:=match b with
 | true=>P
 | false=>N
theorem onB.inv {b:Bool} {P N:Prop} (h:onB b P N):(b=true∧P)∨(b=false∧N):=by
 cases b with
 | true=>exact .inl ⟨rfl,h⟩
 | false=>exact .inr ⟨rfl,h⟩
noncomputable abbrev onO {α:Type} (o:Option α) (P:α→Prop) (N:Prop):Prop:=match o with
 | some x=>P x
 | none=>N
theorem onO.inv {α:Type} {o:Option α} {P:α→Prop} {N:Prop} (h:onO o P N):(∃ x,o=some x∧P x)∨(o=none∧N):=by
 cases o with
 | some x=>exact .inl ⟨x,rfl,h⟩
 | none=>exact .inr ⟨rfl,h⟩
noncomputable abbrev onS {α:Type} (o:Option α) (P:α→Prop):Prop:=match o with
 | some x=>P x
 | none=>False
theorem onS.inv {α:Type} {o:Option α} {P:α→Prop} (h:onS o P):∃ x,o=some x∧P x:=by
 cases o with
 | some x=>exact ⟨x,rfl,h⟩
 | none=>exact h.elim
noncomputable def ik {α:Type} (b:Bool) (x:α):Option α:=match b with
 | true=>some x
 | false=>none
theorem vx {α:Type} {b:Bool} {x y:α} (h:ik b x=some y):b=true∧x=y:=by
 cases b
 ·contradiction
 ·(injection h with h;subst h);exact ⟨rfl,rfl⟩
set_option genSizeOf false in
set_option genInjectivity false in
set_option genCtorIdx false in
inductive VT:Expr→Type where
 | name (x:Str) (p:Pos):VT (.Name x p)
 | pair (x:Str) (px:Pos) (y:Str) (py:Pos) (k:Nat) (p:Pos):VT (.Tuple [.Name x px,.Name y py] k p)
 | other (e:Expr):VT e
noncomputable def vt:(e:Expr)→VT e
 | .Name x p=>.name x p
 | .Tuple [.Name x px,.Name y py] k p=>.pair x px y py k p
 | e=>.other e
noncomputable def yZj:V→Option (V×V)
 | .tup [X,Y]=>some (X,Y)
 | _=>none
noncomputable def ax (sc:Scope) (e:Expr) (X:V) (ρ:Rho):Option Rho:=match vt e with
 | .name x _=>ik (sc.names.lookup x == some .local && (ρ.lookup x).isNone) ((x,X) :: ρ)
 | .pair x _ y _ _ _=>(yZj X).bind fun p=>ik (sc.names.lookup x == some .local && sc.names.lookup y == some .local && (ρ.lookup x).isNone && (ρ.lookup y).isNone && x != y) ((y,p.2) :: (x,p.1) :: ρ)
 | .other _=>none
noncomputable def vX {α:Type} (body:V→α→(α→Prop)→Prop):List V→α→(α→Prop)→Prop
 | [],acc,K=>K acc
 | x :: xs,acc,K=>body x acc fun acc'=>vX body xs acc' K
noncomputable def pK (b:Int):List V:=(List.range b.toNat).map fun (i:Nat)=>V.int i
noncomputable def sQ (x:Str):List V:=x.cps.toList.map fun c=>.str ⟨#[c]⟩
noncomputable def gw:V→(List V→Prop)→Prop
 | .lst l,K=>K l
 | .tup l,K=>K l
 | .str x,K=>x.length≤sizeLine∧K (sQ x)
 | _,_=>False
noncomputable def dZ:List V→(List V→Prop)→Prop
 | [.int b],K=>-(2 ^ 62)≤b∧b < 2 ^ 62∧K (pK b)
 | _,_=>False
noncomputable def zJj:List V→(List V→Prop)→Prop
 | [.lst l],K=>K l.reverse
 | _,_=>False
set_option genSizeOf false in
set_option genInjectivity false in
set_option genCtorIdx false in
inductive VE:Expr→Type where
 | int (i:Int) (k:Nat) (p:Pos):VE (.Constant (.int i) k p)
 | str (x:Str) (k:Nat) (p:Pos):VE (.Constant (.str x) k p)
 | bool (b:Bool) (k:Nat) (p:Pos):VE (.Constant (.bool b) k p)
 | none (k:Nat) (p:Pos):VE (.Constant .none k p)
 | name (x:Str) (p:Pos):VE (.Name x p)
 | bin (l:Expr) (op:Operator) (r:Expr) (p:Pos):VE (.BinOp l op r p)
 | un (op:UnaryOp) (x:Expr) (p:Pos):VE (.UnaryOp op x p)
 | ife (t a b:Expr) (p:Pos):VE (.IfExp t a b p)
 | cmp (l:Expr) (op:CmpOp) (r:Expr) (p:Pos):VE (.Compare l [op] [r] p)
 | bo (op:BoolOp) (es:List Expr) (p:Pos):VE (.BoolOp op es p)
 | slice (v:Expr) (lo hi st:Option Expr) (q p:Pos):VE (.Subscript v (.Slice lo hi st q) p)
 | sub (v i:Expr) (p:Pos):VE (.Subscript v i p)
 | list (es:List Expr) (p:Pos):VE (.List es p)
 | tuple (es:List Expr) (k:Nat) (p:Pos):VE (.Tuple es k p)
 | callN (f:Str) (q:Pos) (args:List Expr) (p:Pos):VE (.Call (.Name f q) args [] p)
 | callA (o:Expr) (m:Str) (q:Pos) (args:List Expr) (p:Pos):VE (.Call (.Attribute o m q) args [] p)
 | lc (elt tg it:Expr) (ifs:List Expr) (gs:List Comprehension) (s:Scope) (p:Pos):VE (.ListComp elt (⟨tg,it,ifs,0⟩ :: gs) s p)
 | other (e:Expr):VE e
noncomputable def ve:(e:Expr)→VE e
 | .Constant (.int i) k p=>.int i k p
 | .Constant (.str x) k p=>.str x k p
 | .Constant (.bool b) k p=>.bool b k p
 | .Constant .none k p=>.none k p
 | .Name x p=>.name x p
 | .BinOp l op r p=>.bin l op r p
 | .UnaryOp op x p=>.un op x p
 | .IfExp t a b p=>.ife t a b p
 | .Compare l [op] [r] p=>.cmp l op r p
 | .BoolOp op es p=>.bo op es p
 | .Subscript v (.Slice lo hi st q) p=>.slice v lo hi st q p
 | .Subscript v i p=>.sub v i p
 | .List es p=>.list es p
 | .Tuple es k p=>.tuple es k p
 | .Call (.Name f q) args [] p=>.callN f q args p
 | .Call (.Attribute o m q) args [] p=>.callA o m q args p
 | .ListComp elt (⟨tg,it,ifs,0⟩ :: gs) s p=>.lc elt tg it ifs gs s p
 | e=>.other e
structure Gn where
 e:Scope→Expr→Rho→Kp→Prop
 es:Scope→List Expr→Rho→(List V→Prop)→Prop
 pt:Scope→Option Expr→Rho→(Option Int→Prop)→Prop
 t:Scope→Expr→Rho→(Bool→Prop)→Prop
 bo:Scope→BoolOp→List Expr→Rho→(Bool→Prop)→Prop
 ts:Scope→List Expr→Rho→(Bool→Prop)→Prop
 it:Scope→Expr→Rho→(List V→Prop)→Prop
 cl:Scope→List Comprehension→Expr→Rho→List V→(List V→Prop)→Prop
noncomputable abbrev yZk (g:Gn) (sc:Scope) (tg:Expr) (ifs:List Expr) (gs:List Comprehension) (elt:Expr) (ρ:Rho) (x:V) (acc:List V) (K':List V→Prop):Prop :=
 onS (ax sc tg x ρ) fun ρ'=>g.ts sc ifs ρ' fun ok=>match ok with | false=>K' acc | true=>g.cl sc gs elt ρ' acc K'
noncomputable def ewB (c:Cx) (g:Gn) (sc:Scope) (ρ:Rho) (K:Kp) {e:Expr} (v:VE e):Prop:=match v with
 | .int i _ _=>K (.int i)
 | .str x _ _=>K (.str x)
 | .bool b _ _=>K (.bool b)
 | .none _ _=>K .none
 | .name x _=>onO (ρ.lookup x) K (onT (zz sc x) (onS (c.gv x) K))
 | .bin l op r _=>g.e sc l ρ fun a=>g.e sc r ρ fun b=>zWj op a b K
 | .un op x _=>g.e sc x ρ fun a=>unop op a K
 | .ife t a b _=>g.t sc t ρ fun x=>match x with | true=>g.e sc a ρ K | false=>g.e sc b ρ K
 | .cmp l op r _=>onT (!behindInMarks op r) (g.e sc l ρ fun a=>g.e sc r ρ fun b=>zZ8 op a b K)
 | .bo ..=>False
 | .slice v lo hi st _ _=>g.e sc v ρ fun o=>g.pt sc lo ρ fun l=>g.pt sc hi ρ fun h=>g.pt sc st ρ fun t=>zJd o l h t K
 | .sub v i _=>onT (!aY i) (g.e sc v ρ fun o=>g.e sc i ρ fun j=>yVj o j K)
 | .list es _=>g.es sc es ρ fun l=>l.length≤sizeLine∧K (.lst l)
 | .tuple es _ _=>g.es sc es ρ fun l=>l.length≤sizeLine∧K (.tup l)
 | .callN f _ args _=>onT (zz sc f && !args.any yY) (onO (c.fn f) (fun F=>g.es sc args ρ fun l=>F l K) (onS (bnOf f) fun b=>g.es sc args ρ fun l=>zXb b l K))
 | .callA o m apos args pos=>onT (apos.endLine == pos.line && decide (args.length < 30) && !args.any yY && (match o with | .Call ..=>false | _=>true))
   (g.e sc o ρ fun O=>onS (zZa O m) fun f=>g.es sc args ρ fun l=>zXb f (O :: l) K)
 | .lc elt tg it ifs gs sc' _=>onT (scOk sc' sc && gs.all (fun g=>g.is_async == 0)) (g.it sc it ρ fun items=>vX (yZk g (relS sc' sc) tg ifs gs elt (pJ sc' ρ)) items [] fun acc=>K (.lst acc))
 | .other _=>False
noncomputable def twB (g:Gn) (sc:Scope) (ρ:Rho) (K:Bool→Prop) {e:Expr} (v:VE e):Prop:=match v with
 | .bo op es _=>g.bo sc op es ρ K
 | .un op x _=>(match op with | .Not=>g.t sc x ρ fun b=>K (!b) | _=>False)
 | .cmp l op r _=>onT (!behindInMarks op r) (g.e sc l ρ fun a=>g.e sc r ρ fun b=>zZ8 op a b fun t=>zZ9 t K)
 | .ife ..=>False
 | .list ..=>False
 | .tuple ..=>False
 | .lc ..=>False
 | .other _=>False
 | _=>g.e sc e ρ fun a=>zZ9 a K
noncomputable def itB (g:Gn) (sc:Scope) (ρ:Rho) (K:List V→Prop) {e:Expr} (v:VE e):Prop:=match v with
 | .callN f _ args _=>onB (zz sc f && !args.any yY && decide (f="range")) (g.es sc args ρ fun l=>dZ l K)
   (onB (zz sc f && !args.any yY && decide (f="reversed")) (g.es sc args ρ fun l=>zJj l K) (g.e sc e ρ fun a=>gw a K))
 | .other _=>False
 | _=>g.e sc e ρ fun a=>gw a K
noncomputable def Gn.step (c:Cx) (g:Gn):Gn where
 e:=fun sc e ρ K=>onO (c.ext sc e) (fun f=>f ρ K) (ewB c g sc ρ K (ve e))
 es:=fun sc es ρ K=>match es with
  | []=>K []
  | e :: es=>onT (!yY e) (g.e sc e ρ fun a=>g.es sc es ρ fun l=>K (a :: l))
 pt:=fun sc p ρ K=>match p with
  | .none=>K .none
  | some e=>g.e sc e ρ fun a=>match a with | .int i=>K (some i) | _=>False
 t:=fun sc e ρ K=>twB g sc ρ K (ve e)
 bo:=fun sc op es ρ K=>match es with
  | []=>(match op with | .And=>K true | .Or=>K false)
  | e :: es=>g.t sc e ρ fun b=>match op,b with
   | .And,false=>K false
   | .And,true=>g.bo sc .And es ρ K
   | .Or,true=>K true
   | .Or,false=>g.bo sc .Or es ρ K
 ts:=fun sc es ρ K=>match es with
  | []=>K true
  | e :: es=>(match es with
   | []=>g.t sc e ρ K
   | _ :: _=>False)
 it:=fun sc e ρ K=>itB g sc ρ K (ve e)
 cl:=fun sc gs elt ρ acc K=>match gs with
  | []=>g.e sc elt ρ fun Y=>acc.length≤sizeLine∧K (acc++[Y])
  | ⟨tg,it,ifs,as⟩ :: gs=>onT (as == 0) (g.it sc it ρ fun items=>vX (yZk g sc tg ifs gs elt ρ) items acc K)
noncomputable def gen (c:Cx):Nat→Gn
 | 0=>⟨fun _ _ _ _=>False,fun _ _ _ _=>False,fun _ _ _ _=>False,fun _ _ _ _=>False,fun _ _ _ _ _=>False,fun _ _ _ _=>False,fun _ _ _ _=>False,fun _ _ _ _ _ _=>False⟩
 | n + 1=>Gn.step c (gen c n)
noncomputable abbrev ew (c:Cx) (sc:Scope) (n:Nat) (e:Expr) (ρ:Rho) (K:Kp):Prop:=(gen c n).e sc e ρ K
noncomputable abbrev ews (c:Cx) (sc:Scope) (n:Nat) (es:List Expr) (ρ:Rho) (K:List V→Prop):Prop:=(gen c n).es sc es ρ K
noncomputable abbrev ptw (c:Cx) (sc:Scope) (n:Nat) (p:Option Expr) (ρ:Rho) (K:Option Int→Prop):Prop:=(gen c n).pt sc p ρ K
noncomputable abbrev tw (c:Cx) (sc:Scope) (n:Nat) (e:Expr) (ρ:Rho) (K:Bool→Prop):Prop:=(gen c n).t sc e ρ K
noncomputable abbrev bow (c:Cx) (sc:Scope) (n:Nat) (op:BoolOp) (es:List Expr) (ρ:Rho) (K:Bool→Prop):Prop:=(gen c n).bo sc op es ρ K
noncomputable abbrev tws (c:Cx) (sc:Scope) (n:Nat) (es:List Expr) (ρ:Rho) (K:Bool→Prop):Prop:=(gen c n).ts sc es ρ K
noncomputable abbrev itw (c:Cx) (sc:Scope) (n:Nat) (e:Expr) (ρ:Rho) (K:List V→Prop):Prop:=(gen c n).it sc e ρ K
noncomputable abbrev clw (c:Cx) (sc:Scope) (n:Nat) (gs:List Comprehension) (elt:Expr) (ρ:Rho) (acc:List V) (K:List V→Prop):Prop:=(gen c n).cl sc gs elt ρ acc K
end Mine
end
section
open PySem PySem.W PySem.Calls PyProof.Rows PySem.Builtin PySem.Builtin.Str
namespace Mine
noncomputable def Tame (o:Obj):Prop:=∃ n vs,o.cls=.type n∧o.data=.fields vs∧(["enumerate","zip","dict_itemiterator","dict_reverseitemiterator","odict_iterator","itertools.zip_longest","itertools.pairwise"].contains n)=false∧∀ q t,vs[1]?≠some (Value.str q t)
theorem Tame.soft {o:Obj} (t:Tame o):Soft o:=let ⟨n,vs,h1,h2,_,h3⟩:=t;.inr ⟨n,vs,h1,h2,h3⟩
theorem Tame.firm {o:Obj} {b:Addr} (t:Tame o):Firm b o:=let ⟨n,vs,h1,h2,_,h3⟩:=t;.ty h1
theorem tX {M:Model} {A:Around} {E:Value→Shared→Prop} {s:Shared} {tg:Expr} {I:Addr} {v:Value} {o:Obj} {Q:Unit→Shared→Prop} (ho:s.heap.get? I=some o) (ht:Tame o) (h:Q () s) :
  wpAny M A (letOwnedTupleGo tg (.ref I) v) Q E s:=by
 apply bc;intro hQ;rcases ht with ⟨n,vs,h1,h2,h3,_⟩;refine hQ ?_;clear hQ
 have main:∀ a:Addr,wpAny M A (do
   let o ← load I
   match o.cls,o.data with
   | .type n,.fields vs =>
    if ["enumerate","zip","dict_itemiterator","dict_reverseitemiterator","odict_iterator","itertools.zip_longest","itertools.pairwise"].contains n && vs[0]? == some (rawInt a) then
     rule "for.unpacks-the-owned-tuple"
     updateField I 0 .none
   | _,_=>pure ()) Q E s:=fun a=>by
  refine wpAny_bind (wpAny_load ho ?_)
  rw [h1,h2]
  simp only [h3,Bool.false_and,Bool.false_eq_true,if_false]
  exact wpAny_pure h
 have m2:wpAny M A (letOwnedTupleGo (.Tuple [] 0 default) (.ref I) v) Q E s:=by cases v <;> first | exact main _ | exact wpAny_pure h
 cases tg <;> first | exact m2 | exact wpAny_pure h
structure Iter (w:World) (I:Addr) (xs:List V) (St:(Addr→Prop)→Nat→Heap→Prop):Prop where
 noff:∀ off i h,St off i h→¬ off I
 tame:∀ off i h,St off i h→∃ o,h.get? I=some o∧Tame o
 frame:∀ (A:Around) off off' i h h',A.handled=none→St off i h→(∀ o,h.get? I=some o→h'.get? I=some o)→Seqs off h h'→(∀ a,off' a→off a∨h.get? a=none)→St off' i h'
 item:∀ (A:Around) off i (s:Shared) X (Q:Option Value→Shared→Prop) (E:Value→Shared→Prop),A.handled=none→xs[i]?=some X→St off i s.heap →
  (∀ v h' tk,Rd h' off X v→St off (i + 1) h'→(∀ b o,b≠I→s.heap.get? b=some o→h'.get? b=some o)→Q (some v) { s with heap:=h',toks:=tk })→wpAny (model pw w) A (pyNext (.ref I)) Q E s
 done:∀ (A:Around) off (s:Shared) (Q:Option Value→Shared→Prop) (E:Value→Shared→Prop),A.handled=none→St off xs.length s.heap →
  (∀ h' tk,(∀ b o,b≠I→s.heap.get? b=some o→h'.get? b=some o)→Q none { s with heap:=h',toks:=tk })→wpAny (model pw w) A (pyNext (.ref I)) Q E s
 self:∀ (A:Around) off i (s:Shared) (Q:Value→Shared→Prop) (E:Value→Shared→Prop),A.handled=none→St off i s.heap→Q (.ref I) s→wpAny (model pw w) A (pyIter (.ref I)) Q E s
theorem lj {o:Obj} (t:Tame o) (vs n):o.data≠.seq vs n:=by
 obtain ⟨_,_,_,e,_⟩:=t
 rw [e];intro x;contradiction
theorem tJ {off:Addr→Prop} {h h':Heap} {I:Addr} {o:Obj} (ho:h.get? I=some o) (t:Tame o) (k:∀ b o,b≠I→h.get? b=some o→h'.get? b=some o):Seqs off h h':=fun a o' e ⟨vs,n,d⟩ _=>by
 by_cases hI:a=I
 ·subst hI;rw [ho] at e;(injection e with e;subst e);exact absurd d (lj t vs n)
 ·exact k a o' hI e
noncomputable def StOf (I:Addr) (St₀:Nat→Heap→Prop) (fps:List Addr) (P:Nat→Value→Prop) (xs:List V) (off:Addr→Prop) (i:Nat) (h:Heap):Prop :=
 ¬ off I∧St₀ i h∧(∀ b∈fps,¬ off b∧∃ o,h.get? b=some o∧∃ vs n,o.data=.seq vs n)∧(∀ i v,P i v→∃ X,xs[i]?=some X∧Rd h off X v)
theorem Iter.of {w:World} {I:Addr} {fps:List Addr} {n:Nat} {P:Nat→Value→Prop} {St₀:Nat→Heap→Prop} {xs:List V} (W:∀ A:Around,A.handled=none→Walks pw w A I (I :: fps) [I] n P St₀)
  (hn:n=xs.length) (hI:∀ i h,St₀ i h→∃ o,h.get? I=some o∧Tame o):Iter w I xs (StOf I St₀ fps P xs) where
 noff:=fun off i h st=>st.1
 tame:=fun off i h st=>hI i h st.2.1
 frame:=fun A off off' i h h' hh st e k ho=>by
  apply bc;intro hQ;rcases st with ⟨s0,s1,s2,s3⟩;rcases hI _ _ s1 with ⟨oI,hoI,_⟩;refine hQ ?_;clear hQ
  refine ⟨fun q=>(ho I q).elim s0 (fun x=>by rw [hoI] at x;contradiction),(W A hh).frame i h h' s1 fun b hb o eb=>?_,fun b hb=>?_,fun j v p=>?_⟩
  ·rcases List.mem_cons.mp hb with rfl | hb
   ·exact e o eb
   ·obtain ⟨h1,o',h2,h3⟩:=s2 b hb
    rw [eb] at h2;(injection h2 with h2;subst h2)
    exact k b o eb h3 h1
  ·apply bc;intro hQ;rcases s2 b hb with ⟨h1,o',h2,h3⟩;refine hQ ?_;clear hQ
   exact ⟨fun q=>(ho b q).elim h1 (fun x=>by rw [h2] at x;contradiction),o',k b o' h2 h3 h1,h3⟩
  ·obtain ⟨X,e1,e2⟩:=s3 j v p
   exact ⟨X,e1,e2.move' k ho⟩
 item:=fun A off i s X Q E hh hX st hQ=>by
  apply bc;intro hQ;rcases st with ⟨s0,s1,s2,s3⟩;rcases hI _ _ s1 with ⟨o,ho,ht⟩;refine hQ ?_;clear hQ
  have hlt:i < n:=by rw [hn];exact (List.getElem?_eq_some_iff.mp hX).1
  refine (W A hh).item i s Q E hlt s1 fun v h' tk p s1' k=>?_
  have k':∀ b o,b≠I→s.heap.get? b=some o→h'.get? b=some o:=fun b o hb e=>k b o (by simpa using hb) e
  have sq:Seqs off s.heap h':=tJ ho ht k'
  obtain ⟨X',e1,e2⟩:=s3 i v p
  rw [hX] at e1;(injection e1 with e1;subst e1)
  refine hQ v h' tk (e2.move sq fun _ x=>x) ⟨s0,s1',fun b hb=>?_,fun j u pj=>?_⟩ k'
  ·apply bc;intro hQ;rcases s2 b hb with ⟨h1,o',h2,h3⟩;refine hQ ?_;clear hQ
   exact ⟨h1,o',sq b o' h2 h3 h1,h3⟩
  ·apply bc;intro hQ;rcases s3 j u pj with ⟨Y,e1,e2⟩;refine hQ ?_;clear hQ
   exact ⟨Y,e1,e2.move sq fun _ x=>x⟩
 done:=fun A off s Q E hh st hQ=>by
  apply bc;intro hQ;rcases st with ⟨s0,s1,s2,s3⟩;refine hQ ?_;clear hQ
  rw [← hn] at s1
  exact (W A hh).done s Q E s1 fun h' tk k=>hQ h' tk fun b o hb e=>k b o (by simpa using hb) e
 self:=fun A off i s Q E hh st hQ=>(W A hh).self i s Q E st.2.1 hQ
section
variable {w:World} {A:Around} {E:Value→Shared→Prop} {off:Addr→Prop} {s:Shared} {Q:Value→Shared→Prop} {k:Nat}
noncomputable def ItQ (w:World) (off:Addr→Prop) (s:Shared) (K:List V→Prop) (Q:Value→Shared→Prop):Prop :=
 ∀ l I h' tk St,K l→Keep s.heap h'→s.heap.get? I=none→Iter w I l St→St off 0 h'→Q (.ref I) { s with heap:=h',toks:=tk }
theorem ItQ.keep {K:List V→Prop} {h':Heap} {tk:Nat} (q:ItQ w off s K Q) (k:Keep s.heap h'):ItQ w off { s with heap:=h',toks:=tk } K Q :=
 fun l I h'' tk' St a b c d e=>q l I h'' tk' St a (k.trans b) (by
  exact k.none c) d e
theorem sY (h:Heap):h.get? h.objs.size=none:=xj h
theorem zJk {l:List V} {v:Value} {K:List V→Prop} (ol:Old off s.heap) (hx:Rd s.heap off (.lst l) v) (kk:K l) (q:ItQ w off s K Q):wpAny (model pw w) A (pyIter v) Q E s:=by
 apply bc;intro hQ;rcases hx.lst_inv with ⟨a,vs,rfl,h0,h1,h2⟩;refine hQ ?_;clear hQ
 have hlt:a < s.heap.objs.size:=by apply bc;intro hQ;rcases h1 with ⟨_,e,_⟩;refine hQ ?_;clear hQ;exact Heap.lt_size e
 have hl:=h2.length
 rw [Array.length_toList] at hl
 refine wpAny_pyIter_list h1 (q l _ _ s.toks _ kk (Keep.push _ _) (sY _) (Iter.of (fps:=[a]) (fun A hh=>Walks.list hh _ a (Nat.ne_of_lt hlt) vs) hl fun i h st=>?_) ⟨ol.size,⟨⟨_,Heap.get?_push_size _ rfl,rfl,rfl⟩,h1.push _⟩,fun b hb=>?_,fun i v hv=>?_⟩)
 ·apply bc;intro hQ;rcases st.1 with ⟨o,e1,e2,e3⟩;refine hQ ?_;clear hQ
  exact ⟨o,e1,_,_,e2,e3,by decide,by intro q t e;simp [rawInt] at e⟩
 ·cases List.mem_singleton.mp hb
  apply bc;intro hQ;rcases h1 with ⟨o,e1,e2,n,e3⟩;refine hQ ?_;clear hQ
  exact ⟨h0,o,Heap.get?_push_of_some _ e1,_,n,e3⟩
 ·have hv':vs.toList[i]?=some v:=by simpa using hv
  have hi:i < l.length:=by rw [← hl,← Array.length_toList];exact (List.getElem?_eq_some_iff.mp hv').1
  apply bc;intro hQ;rcases h2.get (List.getElem?_eq_getElem hi) with ⟨u,e1,e2⟩;refine hQ ?_;clear hQ
  rw [hv'] at e1;(injection e1 with e1;subst e1)
  exact ⟨_,List.getElem?_eq_getElem hi,e2.keep (Keep.push _ _)⟩
theorem zXc {l:List V} {v:Value} {K:List V→Prop} (ol:Old off s.heap) (hx:Rd s.heap off (.tup l) v) (kk:K l) (q:ItQ w off s K Q):wpAny (model pw w) A (pyIter v) Q E s:=by
 apply bc;intro hQ;rcases hx.tup_inv with ⟨a,vs,rfl,h0,h1,h2⟩;refine hQ ?_;clear hQ
 have hlt:a < s.heap.objs.size:=by apply bc;intro hQ;rcases h1 with ⟨_,e,_⟩;refine hQ ?_;clear hQ;exact Heap.lt_size e
 have hl:=h2.length
 rw [Array.length_toList] at hl
 refine wpAny_pyIter_tuple h1 (q l _ _ s.toks _ kk (Keep.push _ _) (sY _) (Iter.of (fps:=[a]) (fun A hh=>Walks.tuple hh _ a (Nat.ne_of_lt hlt) vs) hl fun i h st=>?_) ⟨ol.size,⟨⟨_,Heap.get?_push_size _ rfl,rfl,rfl⟩,h1.at fun o e=>Heap.get?_push_of_some _ e⟩,fun b hb=>?_,fun i v hv=>?_⟩)
 ·apply bc;intro hQ;rcases st.1 with ⟨o,e1,e2,e3⟩;refine hQ ?_;clear hQ
  exact ⟨o,e1,_,_,e2,e3,by decide,by intro q t e;simp [rawInt] at e⟩
 ·cases List.mem_singleton.mp hb
  apply bc;intro hQ;rcases h1 with ⟨o,e1,e2,n,e3⟩;refine hQ ?_;clear hQ
  exact ⟨h0,o,Heap.get?_push_of_some _ e1,_,n,e3⟩
 ·have hv':vs.toList[i]?=some v:=by simpa using hv
  have hi:i < l.length:=by rw [← hl,← Array.length_toList];exact (List.getElem?_eq_some_iff.mp hv').1
  apply bc;intro hQ;rcases h2.get (List.getElem?_eq_getElem hi) with ⟨u,e1,e2⟩;refine hQ ?_;clear hQ
  rw [hv'] at e1;(injection e1 with e1;subst e1)
  exact ⟨_,List.getElem?_eq_getElem hi,e2.keep (Keep.push _ _)⟩
theorem zZb {x:Str} {i:Nat} {v:Value} (h:SignAt x i v):∃ X,(sQ x)[i]?=some X∧∀ h off,Rd h off X v:=by
 apply bc;intro hQ;rcases h with ⟨c,u,e1,rfl⟩;refine hQ ?_;clear hQ
 refine ⟨.str ⟨#[c]⟩,?_,fun h off=>Rd.str _ _⟩
 unfold sQ
 rw [List.getElem?_map,Array.getElem?_toList,e1];rfl
theorem zWr {x:Str} {v:Value} {K:List V→Prop} (ol:Old off s.heap) (hx:Rd s.heap off (.str x) v) (kk:K (sQ x)) (q:ItQ w off s K Q):wpAny (model pw w) A (pyIter v) Q E s:=by
 obtain ⟨t,rfl⟩:=hx.str_inv
 have hl:x.cps.size=(sQ x).length:=by unfold sQ;simp
 cases ha:x.cps.all (· < 128)
 ·refine wpAny_pyIter_wide ha (q _ _ _ s.toks _ kk (Keep.push _ _) (sY _) (Iter.of (fps:=[]) (fun A hh=>Walks.strWide hh _ x t) hl fun i h st=>?_) ⟨ol.size,⟨_,Heap.get?_push_size _ rfl,rfl,rfl⟩,fun b hb=>(nm hb),fun i v hv=>?_⟩)
  ·apply bc;intro hQ;rcases st with ⟨o,e1,e2,e3⟩;refine hQ ?_;clear hQ
   exact ⟨o,e1,_,_,e2,e3,by decide,by intro q t e;simp [rawInt] at e⟩
  ·apply bc;intro hQ;rcases zZb hv with ⟨X,e1,e2⟩;refine hQ ?_;clear hQ;exact ⟨X,e1,e2 _ _⟩
 ·refine wpAny_pyIter_ascii ha (q _ _ _ s.toks _ kk (Keep.push _ _) (sY _) (Iter.of (fps:=[]) (fun A hh=>Walks.strAscii hh _ x t) hl fun i h st=>?_) ⟨ol.size,⟨_,Heap.get?_push_size _ rfl,rfl,rfl⟩,fun b hb=>(nm hb),fun i v hv=>?_⟩)
  ·apply bc;intro hQ;rcases st with ⟨o,e1,e2,e3⟩;refine hQ ?_;clear hQ
   exact ⟨o,e1,_,_,e2,e3,by decide,by intro q t e;simp [rawInt] at e⟩
  ·apply bc;intro hQ;rcases zZb hv with ⟨X,e1,e2⟩;refine hQ ?_;clear hQ;exact ⟨X,e1,e2 _ _⟩
theorem zWs {X:V} {v:Value} {K:List V→Prop} (ol:Old off s.heap) (hx:Rd s.heap off X v) (kk:gw X K) (q:ItQ w off s K Q):wpAny (model pw w) A (pyIter v) Q E s:=by
 cases X with
 | lst l=>exact zJk ol hx kk q
 | tup l=>exact zXc ol hx kk q
 | str x=>exact zWr ol hx kk.2 q
 | _=>exact kk.elim
theorem yQt {A:Around} {I:Addr} {fp wr:List Addr} {n:Nat} {P:Nat→Value→Prop} {St:Nat→Heap→Prop} (W:Walks pw w A I fp wr n P St):Walks pw w A I fp wr n (fun i v=>P i v∧i < n) St where
 sub:=W.sub
 frame:=W.frame
 item:=fun i s Q E hi st hQ=>W.item i s Q E hi st fun v h' tk p=>hQ v h' tk ⟨p,hi⟩
 done:=W.done
 self:=W.self
theorem zXd {l:List V} {vs:List Value} {K:List V→Prop} (ol:Old off s.heap) (hx:RdL s.heap off l vs) (kk:dZ l K) (q:ItQ w off s K Q) :
  wpAny (model pw w) A (call (.type "range") vs) (fun x s₁=>wpAny (model pw w) A (pyIter x) Q E s₁) E s:=by
 match l,kk with
 | [.int b],⟨k1,k2,k3⟩ =>
  apply bc;intro hQ;rcases hx with ⟨v,r,rfl,e1,hx⟩;refine hQ ?_;clear hQ
  obtain rfl:=hx
  obtain ⟨t,rfl⟩:=e1.int_inv
  refine call_range_1 (wpAny_pyIter_range (IsRange.new ..) (small_one (by decide) (by decide) k1 k2) ?_)
  have hsz:Builtin.Range.rangeSize 0 b 1=(b.toNat:Int):=by rw [rangeSize_nat];simp
  have hl:b.toNat=(pK b).length:=by unfold pK;simp
  have kp:=(Keep.push s.heap { cls:=.type "range",data:=.fields #[.int 0 s.toks,.int b t,.int 1 (s.toks + 1)] })
  refine q _ _ _ (s.toks + 1 + 1) _ k3 (kp.trans (Keep.push _ _)) ?_ (Iter.of (fps:=[]) (P:=fun i v=>(∃ t,v=.int (0 + (i:Int) * 1) t)∧i < b.toNat) (fun A hh=>yQt (Walks.range hh _ 0 1 b.toNat)) hl fun i h st=>⟨_,st,_,_,rfl,rfl,by decide,by intro q t e;simp [rawInt] at e⟩) ⟨(ol.keep kp).size,?_,fun b hb=>(nm hb),fun i v hv=>?_⟩
  ·cases e:s.heap.get? (s.heap.push { cls:=.type "range",data:=.fields #[.int 0 s.toks,.int b t,.int 1 (s.toks + 1)] }).objs.size with
   | none=>rfl
   | some o=>exact absurd (Heap.lt_size e) (by rw [Heap.size_push];exact Nat.not_lt.mpr (Nat.le_succ _))
  ·show IsRangeIter _ _ (0 + ((0:Nat):Int) * 1) ((b.toNat:Int) - ((0:Nat):Int)) 1
   have e1:(0 + ((0:Nat):Int) * 1)=0:=by simp
   have e2:((b.toNat:Int) - ((0:Nat):Int))=Builtin.Range.rangeSize 0 b 1:=by rw [hsz];simp
   rw [e1,e2]
   exact Heap.get?_push_size _ rfl
  ·apply bc;intro hQ;rcases hv with ⟨⟨u,rfl⟩,hi⟩;refine hQ ?_;clear hQ
   refine ⟨.int (i:Int),?_,?_⟩
   ·unfold pK;rw [List.getElem?_map,List.getElem?_range hi];rfl
   ·have e:(0 + (i:Int) * 1)=i:=by lia
    rw [e];exact Rd.int _ _
theorem zWt {l:List V} {vs:List Value} {K:List V→Prop} (hh:A.handled=none) (ol:Old off s.heap) (hx:RdL s.heap off l vs) (kk:zJj l K) (q:ItQ w off s K Q) :
  wpAny (model pw w) A (call (.type "reversed") vs) (fun x s₁=>wpAny (model pw w) A (pyIter x) Q E s₁) E s:=by
 match l,kk with
 | [.lst l],kk =>
  apply bc;intro hQ;rcases hx with ⟨v,r,rfl,e1,hx⟩;refine hQ ?_;clear hQ
  obtain rfl:=hx
  apply bc;intro hQ;rcases e1.lst_inv with ⟨a,as,rfl,h0,h1,h2⟩;refine hQ ?_;clear hQ
  have hlt:a < s.heap.objs.size:=by apply bc;intro hQ;rcases h1 with ⟨_,e,_⟩;refine hQ ?_;clear hQ;exact Heap.lt_size e
  have hl:=h2.length
  rw [Array.length_toList] at hl
  have st0:StOf s.heap.objs.size (fun i h=>i≤as.size∧h.IsRevIter s.heap.objs.size a ((as.size:Int) - 1 - (i:Int))∧h.IsList a as) [a] (fun i v=>as[as.size - 1 - i]?=some v∧i < as.size) l.reverse off 0 (s.heap.push (revObj a ((as.size:Int) - 1))):=by
   refine ⟨ol.size,⟨Nat.zero_le _,⟨_,Heap.get?_push_size _ rfl,rfl,by simp [revObj]⟩,h1.push _⟩,fun b hb=>?_,fun i v hv=>?_⟩
   ·cases List.mem_singleton.mp hb
    apply bc;intro hQ;rcases h1 with ⟨o,e1,e2,n,e3⟩;refine hQ ?_;clear hQ
    exact ⟨h0,o,Heap.get?_push_of_some _ e1,_,n,e3⟩
   ·obtain ⟨hv,hi⟩:=hv
    have hv':as.toList[as.size - 1 - i]?=some v:=by simpa using hv
    have hi':as.size - 1 - i < l.length:=Nat.lt_of_le_of_lt (Nat.sub_le _ _) (hl ▸ Nat.sub_lt (Nat.lt_of_le_of_lt (Nat.zero_le i) hi) Nat.one_pos)
    apply bc;intro hQ;rcases h2.get (List.getElem?_eq_getElem hi') with ⟨u,e1,e2⟩;refine hQ ?_;clear hQ
    rw [hv'] at e1;(injection e1 with e1;subst e1)
    refine ⟨_,?_,e2.keep (Keep.push _ _)⟩
    rw [List.getElem?_reverse (by omega),← List.getElem?_eq_getElem hi',hl]
  have it:Iter w s.heap.objs.size l.reverse (StOf s.heap.objs.size (fun i h=>i≤as.size∧h.IsRevIter s.heap.objs.size a ((as.size:Int) - 1 - (i:Int))∧h.IsList a as) [a] (fun i v=>as[as.size - 1 - i]?=some v∧i < as.size) l.reverse):=by
   refine Iter.of (n:=as.size) (fun A hh=>?_) (by rw [List.length_reverse];exact hl) fun i h st=>?_
   ·exact yQt (Walks.listRev (prog:=pw) (w:=w) hh s.heap.objs.size a (Nat.ne_of_lt hlt) as)
   ·apply bc;intro hQ;rcases st.2.1 with ⟨o,e1,e2,e3⟩;refine hQ ?_;clear hQ
    exact ⟨o,e1,_,_,e2,e3,by decide,by intro q t e;simp [rawInt] at e⟩
  refine call_reversed_list h1 (it.self A off 0 _ Q E hh st0 ?_)
  exact q _ _ _ s.toks _ kk (Keep.push _ _) (sY _) it st0
end
structure EnvOk (sc:Scope) (env:Env):Prop where
 scope:env.scope=sc
 kind:sc.kind=.function
 glob:env.globals=mainGlobals
 bui:env.builtins=builtinsNs
 clean:sW sc=true
 cells:∀ x,xw sc x=true→∃ c,env.cells.lookup x=some c
noncomputable def Sees (sc:Scope) (env:Env) (h:Heap) (off:Addr→Prop) (ρ:Rho):Prop :=
 ∃ m,h.Ns env.locals m∧∀ x X,ρ.lookup x=some X→∃ v,Rd h off X v∧((sc.names.lookup x=some .local∧m x=some v)∨(xw sc x=true∧∃ c,env.cells.lookup x=some c∧h.IsCell c (some v)))
theorem Sees.keep {sc:Scope} {env:Env} {h h':Heap} {off:Addr→Prop} {ρ:Rho} (S:Sees sc env h off ρ) (k:Keep h h'):Sees sc env h' off ρ:=by
 apply bc;intro hQ;rcases S with ⟨m,h1,h2⟩;refine hQ ?_;clear hQ
 refine ⟨m,Ns.keep h1 k,fun x X e=>?_⟩
 apply bc;intro hQ;rcases h2 x X e with ⟨v,r,h3⟩;refine hQ ?_;clear hQ
 refine ⟨v,r.keep k,h3.imp _root_.id fun ⟨q,c,h4,h5⟩=>⟨q,c,h4,IsCell.keep h5 k⟩⟩
theorem EnvOk.nodbg {sc:Scope} {env:Env} (H:EnvOk sc env):sc.names.lookup ("__debug__":Str)=none:=by
 have:=H.clean;unfold sW at this;rw [Bool.and_eq_true] at this;simpa using this.1
theorem EnvOk.nocd {sc:Scope} {env:Env} (H:EnvOk sc env):sc.names.lookup ("__classdict__":Str)=none:=by
 have:=H.clean;unfold sW at this;rw [Bool.and_eq_true] at this;simpa using this.2
theorem EnvOk.ne_dbg {sc:Scope} {env:Env} (H:EnvOk sc env) {x:Str} {k:NameKind} (h:sc.names.lookup x=some k):(x == ("__debug__":Str))=false:=by
 rw [beq_eq_false_iff_ne];rintro rfl;rw [H.nodbg] at h;contradiction
theorem EnvOk.ne_cd {sc:Scope} {env:Env} (H:EnvOk sc env) {x:Str} {k:NameKind} (h:sc.names.lookup x=some k):(x == ("__classdict__":Str))=false:=by
 rw [beq_eq_false_iff_ne];rintro rfl;rw [H.nocd] at h;contradiction
theorem vk {sc:Scope} {x:Str} (h:xw sc x=true):sc.names.lookup x=some .cell∨sc.names.lookup x=some .free:=by
 unfold xw at h;rw [Bool.or_eq_true] at h
 simpa using h
section
variable {w:World} {A:Around} {E:Value→Shared→Prop} {off:Addr→Prop} {s:Shared} {Q:Value→Shared→Prop} {k:Nat} {sc:Scope} {env:Env} {ρ:Rho}
theorem Sees.name {M:Model} {x:Str} {pos:Pos} {X:V} (S:Sees sc env s.heap off ρ) (H:EnvOk sc env) (e:ρ.lookup x=some X) (q:∀ v,Rd s.heap off X v→Q v s) :
  wpAny M A (eval (.Name x pos) env) Q E s:=by
 apply bc;intro hQ;rcases S with ⟨m,h1,h2⟩;rcases h2 x X e with ⟨v,r,h3⟩;refine hQ ?_;clear hQ
 have hk:env.scope.kind=.function:=by rw [H.scope,H.kind]
 rcases h3 with ⟨h4,h5⟩ | ⟨h4,c,h5,h6⟩
 ·exact wpAny_Name (wpAny_loadName_local hk (by unfold Env.kindOf;rw [H.scope];exact h4) h1 h5 (q v r)) (H.ne_dbg h4)
 ·rcases vk h4 with h7 | h7
  ·exact wpAny_Name (wpAny_loadName_cell hk (by unfold Env.kindOf;rw [H.scope];exact h7) h5 h6 (q v r)) (H.ne_dbg h7)
  ·exact wpAny_Name (wpAny_loadName_free hk (by unfold Env.kindOf;rw [H.scope];exact h7) h5 h6 (q v r) (H.ne_cd h7)) (H.ne_dbg h7)
theorem nw {x:Str} (h:zz sc x=true):sc.names.lookup x=some .globalImplicit∧(x == ("__debug__":Str))=false:=by
 unfold zz at h;rw [Bool.and_eq_true] at h
 exact ⟨by simpa using h.1,by simpa using h.2⟩
theorem xq {M:Model} {x:Str} {pos:Pos} {v:Value} (G:Glb w s.heap) (H:EnvOk sc env) (hx:zz sc x=true) (hv:mgv w.params x=some v) (q:Q v s) :
  wpAny M A (eval (.Name x pos) env) Q E s:=by
 obtain ⟨h1,h2⟩:=nw hx
 exact Name_function_global (by rw [H.scope,H.kind]) (by unfold Env.kindOf;rw [H.scope];exact h1) (loadGlobal_global (by rw [H.glob];exact G.g) hv q) h2
theorem yV {M:Model} {x:Str} {pos:Pos} {v:Value} (G:Glb w s.heap) (H:EnvOk sc env) (hx:zz sc x=true) (hm:mgv w.params x=none) (hv:mbv w.params x=some v) (q:Q v s) :
  wpAny M A (eval (.Name x pos) env) Q E s:=by
 obtain ⟨h1,h2⟩:=nw hx
 exact Name_function_global (by rw [H.scope,H.kind]) (by unfold Env.kindOf;rw [H.scope];exact h1) (loadGlobal_builtin (by rw [H.glob];exact G.g) hm (by rw [H.bui];exact G.b) hv q) h2
structure CxOk (w:World) (k:Nat) (c:Cx):Prop where
 fn:∀ f g,c.fn f=some g→∃ a o fd,mgv w.params f=some (.ref a)∧(tG w.params).get a=some o∧o.data=.func fd ∧
  ∀ (A:Around) (E:Value→Shared→Prop) (off:Addr→Prop) (s:Shared) (l:List V) (vs:List Value) (K:Kp) (Q:Value→Shared→Prop),Room k A→Glb w s.heap→Old off s.heap→RdL s.heap off l vs→g l K→Res off s K Q→wpAny (model pw w) A (call (.ref a) vs) Q E s
 gv:∀ x X,c.gv x=some X→∃ v,mgv w.params x=some v∧∀ h off,Rd h off X v
 ext:∀ sc e f,c.ext sc e=some f→∀ (A:Around) (E:Value→Shared→Prop) (off:Addr→Prop) (s:Shared) (env:Env) (ρ:Rho) (K:Kp) (Q:Value→Shared→Prop),Room k A→EnvOk sc env→Glb w s.heap→Old off s.heap→Sees sc env s.heap off ρ→(tG w.params).get env.locals=none→f ρ K→Res off s K Q →
  wpAny (model pw w) A (eval e env) Q E s
theorem zX {e:Expr} (h:yY e=false) (rest:List Expr) (env:Env):starEach (e :: rest) env=(false,eval e env) :: starEach rest env:=by
 cases e <;> first | rfl | contradiction
theorem wz:∀ {es:List Expr} (h:es.any yY=false) (pos:Pos) (env:Env),(backTo pos (starEach es env)).any (·.1)=false
 | [],_,_,_=>rfl
 | e :: es,h,pos,env=>by
  rw [List.any_cons,Bool.or_eq_false_iff] at h
  rw [zX h.1]
  show (false || (backTo pos (starEach es env)).any (·.1))=false
  rw [wz h.2];rfl
theorem uK:∀ {es:List Expr} (h:es.any yY=false) (pos:Pos) (env:Env),(backTo pos (starEach es env)).all (fun x=>!x.1)=true
 | [],_,_,_=>rfl
 | e :: es,h,pos,env=>by
  rw [List.any_cons,Bool.or_eq_false_iff] at h
  rw [zX h.1]
  show (true && (backTo pos (starEach es env)).all (fun x=>!x.1))=true
  rw [uK h.2];rfl
theorem gy {α:Type} {x:Str} {y:α} {l:List (Str×α)} (h:l.lookup x=some y):(x,y)∈l:=ez h
theorem lk {x:Str} {f:Fn} (P:Params) (h:bnOf x=some f):mgv P x=none∧mbv P x=some (.builtin f.id):=by
 unfold bnOf at h
 repeat' split at h
 all_goals first | (cases h;done) | ((injection h with h;subst h);subst x;exact ⟨by kernel_rfl,by kernel_rfl⟩)
theorem zZc (P:Params):mgv P ("range":Str)=none∧mbv P ("range":Str)=some (.type "range"):=⟨by kernel_rfl,by kernel_rfl⟩
theorem aj (P:Params):mgv P ("reversed":Str)=none∧mbv P ("reversed":Str)=some (.type "reversed"):=⟨by kernel_rfl,by kernel_rfl⟩
theorem qz {o:Expr} (h:(match o with | .Call ..=>false | _=>true)=true) (attr:Str) (env:Env) (m:Sem Value):attributeBase o attr env m=m:=by
 cases o <;> first | rfl | contradiction
noncomputable def MsOk (T:String) (p:Str×Fn):Prop:=Slot T p.1 p.2.id∧typeOf (.builtin p.2.id)=pure (.type "method_descriptor")
theorem zWu:∀ p∈yZg,MsOk "str" p:=by
 unfold yZg
 simp only [List.forall_mem_cons]
 exact ⟨⟨PySem.F.slot_str_startswith,PySem.F.type_str_startswith⟩,⟨PySem.F.slot_str_endswith,PySem.F.type_str_endswith⟩,⟨PySem.F.slot_str_find,PySem.F.type_str_find⟩,⟨PySem.F.slot_str_rfind,PySem.F.type_str_rfind⟩,
  ⟨PySem.F.slot_str_lower,PySem.F.type_str_lower⟩,⟨PySem.F.slot_str_join,PySem.F.type_str_join⟩,⟨PySem.F.slot_str_split,PySem.F.type_str_split⟩,fun _ h=>nm h⟩
theorem zWv:∀ p∈yZh,MsOk "list" p:=by
 unfold yZh
 simp only [List.forall_mem_cons]
 exact ⟨⟨PySem.F.slot_list_count,PySem.F.type_list_count⟩,⟨PySem.F.slot_list_index,PySem.F.type_list_index⟩,fun _ h=>nm h⟩
theorem zWw:∀ p∈yZi,MsOk "int" p:=by
 unfold yZi
 simp only [List.forall_mem_cons]
 exact ⟨⟨PySem.F.slot_int_bit_length,PySem.F.type_int_bit_length⟩,fun _ h=>nm h⟩
theorem zJl {x:V} {name:Str} {f:Fn} {v:Value} (h:zZa x name=some f) (hx:Rd s.heap off x v) :
  ∃ T,PlainAttrs T∧Slot T name f.id∧typeOf (.builtin f.id)=pure (.type "method_descriptor")∧s.TypeIs v T∧(∀ a,v=.ref a→∃ ob,s.heap.get? a=some ob∧ob.dict=none):=by
 cases x with
 | str y =>
  apply bc;intro hQ;rcases hx.str_inv with ⟨t,rfl⟩;refine hQ ?_;clear hQ
  have m:=zWu _ (gy h)
  exact ⟨"str",PySem.F.plainAttrs_str,m.1,m.2,typeIs_str _ _ _,fun a e=>by contradiction⟩
 | lst l =>
  have nd:=hx.lst_nd
  apply bc;intro hQ;rcases hx.lst_inv with ⟨a,vs,rfl,_,h1,_⟩;refine hQ ?_;clear hQ
  have m:=zWv _ (gy h)
  exact ⟨"list",PySem.F.plainAttrs_list,m.1,m.2,h1.typeIs,fun b e=>by (injection e with e;subst e);exact nd⟩
 | int i =>
  apply bc;intro hQ;rcases hx.int_inv with ⟨t,rfl⟩;refine hQ ?_;clear hQ
  have m:=zWw _ (gy h)
  exact ⟨"int",PySem.F.plainAttrs_int,m.1,m.2,typeIs_int _ _ _,fun a e=>by contradiction⟩
 | _=>contradiction
end
noncomputable def lw (ifs:List Expr) (env:Env):Sem Bool:=forIn ifs true fun c r=>if r=true then do let ok ← isTrue c env (eval c env);pure (ForInStep.yield ok) else pure (ForInStep.yield r)
structure At (w:World) (k:Nat) (A:Around) (sc:Scope) (env:Env) (s:Shared) (off:Addr→Prop) (ρ:Rho):Prop where
 room:Room k A
 en:EnvOk sc env
 glb:Glb w s.heap
 old:Old off s.heap
 sees:Sees sc env s.heap off ρ
 apart:(tG w.params).get env.locals=none
theorem At.keep {w:World} {k:Nat} {A:Around} {sc:Scope} {env:Env} {s:Shared} {off:Addr→Prop} {ρ:Rho} (a:At w k A sc env s off ρ) {h':Heap} {tk:Nat} (e:Keep s.heap h') :
  At w k A sc env { s with heap:=h',toks:=tk } off ρ:=⟨a.room,a.en,a.glb.keep e,a.old.keep e,a.sees.keep e,a.apart⟩
theorem Hid.top {w:World} {h:Heap} (g:zW h) {a:Addr} (hn:h.get? a=none):Hid a=false:=by
 cases e:Hid a with
 | false=>rfl
 | true =>
  unfold Hid at e
  rw [Bool.or_eq_true] at e
  rcases e with e | e
  ·have e:a=30:=by simpa using e
   subst e
   apply bc;intro hQ;rcases g.1 with ⟨ps,h1,_⟩;refine hQ ?_;clear hQ
   rw [hn] at h1;contradiction
  ·have e:a=37:=by simpa using e
   subst e
   apply bc;intro hQ;rcases g.2 with ⟨ps,h1,_⟩;refine hQ ?_;clear hQ
   rw [hn] at h1;contradiction
theorem Glb.new {w:World} {h:Heap} (g:Glb w h) {a:Addr} (hn:h.get? a=none):(tG w.params).get a=none:=by
 cases e:(tG w.params).get a with
 | none=>rfl
 | some o=>have:=g.at_ a o e (.inl (Hid.top (w:=w) g.tab hn));rw [hn] at this;contradiction
theorem Glb.but {w:World} {h h':Heap} {C:Addr} (g:Glb w h) (hn:(tG w.params).get C=none) (hS:∀ o,h.get? C=some o→Soft o) (k:∀ b o,b≠C→h.get? b=some o→h'.get? b=some o):Glb w h' :=
 ⟨fun a o e f=>k a o (by rintro rfl;rw [hn] at e;contradiction) (g.at_ a o e f),g.tab.but hS k⟩
theorem wZ {h:Heap} {D b:Addr} {its:Array Value} {o:Obj} (p:h.PlainList D its) (e:h.get? b=some o) (hd:∀ vs n,o.data≠.seq vs n):b≠D:=by
 rintro rfl
 obtain ⟨n,e2⟩:=p
 rw [e] at e2;(injection e2 with e2;subst e2)
 exact hd _ _ rfl
theorem uQ {off:Addr→Prop} {h h':Heap} {C:Addr} {m:Str→Option Value} (hn:h.Ns C m) (k:∀ b o,b≠C→h.get? b=some o→h'.get? b=some o):Seqs off h h':=fun a o e ⟨vs,n,d⟩ _ =>
 k a o (iK hn e fun es ep q=>by rw [d] at q;contradiction) e
theorem ak {h:Heap} {C c:Addr} {m:Str→Option Value} {v:Option Value} (hn:h.Ns C m) (hc:h.IsCell c v):c≠C :=
 let ⟨_,h3,h4⟩:=hc
 iK hn h3 fun es ep q=>by rw [h4] at q;contradiction
structure Bnd (C:Addr) (h h':Heap):Prop where
 kb:∀ b o,b≠C→h.get? b=some o→h'.get? b=some o
 ns:∃ m,h.Ns C m
section
variable {C b:Addr} {h h':Heap} {o:Obj} {off X:Addr→Prop} (x:Bnd C h h')
include x
theorem Bnd.sq:Seqs off h h':=let ⟨_,n⟩:=x.ns;uQ n x.kb
theorem Bnd.ne (e:h.get? b=some o) (nd:∀ es ep,o.data≠.dict es ep):b≠C:=let ⟨_,n⟩:=x.ns;iK n e nd
theorem Bnd.kx (hX:X C):KX X h h':=let ⟨_,n⟩:=x.ns;KX.but hX (Soft.ns n) x.kb
end
section
variable {w:World} {A:Around} {E:Value→Shared→Prop} {off:Addr→Prop} {s:Shared} {k n:Nat} {sc:Scope} {env:Env} {ρ:Rho} {c:Cx}
theorem At.store {x:Str} {X:V} {v:Value} {Q:Unit→Shared→Prop} (a:At w k A sc env s off ρ) (hx:sc.names.lookup x=some .local) (hn:ρ.lookup x=none) (r:Rd s.heap off X v)
  (q:∀ h' tk,At w k A sc env { s with heap:=h',toks:=tk } off ((x,X) :: ρ)→(∀ b o,b≠env.locals→s.heap.get? b=some o→h'.get? b=some o)→Q () { s with heap:=h',toks:=tk }) :
  wpAny (model pw w) A (storeName env x v) Q E s:=by
 obtain ⟨m,h1,h2⟩:=a.sees
 refine wpAny_storeName_local (by unfold Env.kindOf;rw [a.en.scope];exact hx) h1 (fun h' hns hsb=>q h' (s.toks + 1) ?_ fun b o hb e=>hsb.extBut b o hb e) (by rw [a.en.scope,a.en.kind];rfl)
 have kb:∀ b o,b≠env.locals→s.heap.get? b=some o→h'.get? b=some o:=fun b o hb e=>hsb.extBut b o hb e
 have sq:∀ off,Seqs off s.heap h':=fun off=>uQ h1 kb
 refine ⟨a.room,a.en,a.glb.but a.apart (Soft.ns h1) kb,fun b hb=>?_,⟨_,hns,fun y Y e=>?_⟩,a.apart⟩
 ·obtain ⟨o,e⟩:=a.old b hb
  by_cases hC:b=env.locals
  ·apply bc;intro hQ;rcases hns with ⟨o',_,_,e',_⟩;refine hQ ?_;clear hQ;exact ⟨o',by rw [hC];exact e'⟩
  ·exact ⟨o,kb b o hC e⟩
 ·by_cases hy:y=x
  ·subst hy
   rw [List.lookup_cons,beq_self_eq_true] at e
   (injection e with e;subst e)
   exact ⟨v,r.move (sq off) fun _ x=>x,.inl ⟨hx,by simp⟩⟩
  ·rw [List.lookup_cons,beq_eq_false_iff_ne.mpr hy] at e
   apply bc;intro hQ;rcases h2 y Y e with ⟨u,r',h3⟩;refine hQ ?_;clear hQ
   refine ⟨u,r'.move (sq off) fun _ x=>x,h3.imp (fun ⟨h4,h5⟩=>⟨h4,by simp [hy,h5]⟩) fun ⟨h4,c,h5,h6⟩=>⟨h4,c,h5,?_⟩⟩
   apply bc;intro hQ;rcases id h6 with ⟨o,h7,h8⟩;refine hQ ?_;clear hQ
   exact ⟨o,kb c o (ak h1 h6) h7,h8⟩
theorem dX {X:V} {p:V×V} (h:yZj X=some p):X=.tup [p.1,p.2]:=by
 cases X with
 | tup l=>match l,h with
  | [a,b],h=>(injection h with h;subst h);rfl
  | [],h=>contradiction
  | [a],h=>contradiction
  | a :: b :: c :: l,h=>contradiction
 | _=>contradiction
inductive Bound (sc:Scope) (ρ:Rho):Expr→V→Rho→Prop where
 | name {x p X} (h1:sc.names.lookup x=some .local) (h2:ρ.lookup x=none):Bound sc ρ (.Name x p) X ((x,X) :: ρ)
 | pair {x px y py k p X Y} (h1:sc.names.lookup x=some .local) (h2:sc.names.lookup y=some .local) (h3:ρ.lookup x=none) (h4:ρ.lookup y=none) (h5:y≠x) :
   Bound sc ρ (.Tuple [.Name x px,.Name y py] k p) (.tup [X,Y]) ((y,Y) :: (x,X) :: ρ)
theorem dJ {tg:Expr} {X:V} {ρ':Rho} (hb:ax sc tg X ρ=some ρ'):Bound sc ρ tg X ρ':=by
 unfold ax at hb
 generalize vt tg=v at hb
 induction v with
 | name x p =>
  obtain ⟨hc,rfl⟩:=vx hb
  rw [Bool.and_eq_true] at hc
  exact .name (by simpa using hc.1) (by simpa using hc.2)
 | pair x px y py k' p =>
  obtain ⟨p,hp,hb⟩:=Option.bind_eq_some_iff.mp hb;obtain ⟨hc,rfl⟩:=vx hb
  rw [dX hp]
  simp only [Bool.and_eq_true,beq_iff_eq,bne_iff_ne,Option.isNone_iff_eq_none] at hc
  exact .pair hc.1.1.1.1 hc.1.1.1.2 hc.1.1.2 hc.1.2 fun e=>hc.2 e.symm
 | other=>contradiction
theorem RdL.two_inv {h:Heap} {X Y:V} {l:List Value} (r:RdL h off [X,Y] l):∃ a b,l=[a,b]∧Rd h off X a∧Rd h off Y b:=by
 apply bc;intro hQ;rcases r with ⟨a,l,rfl,h1,r⟩;refine hQ ?_;clear hQ
 apply bc;intro hQ;rcases r with ⟨b,l,rfl,h2,r⟩;refine hQ ?_;clear hQ
 exact ⟨a,b,by rw [r],h1,h2⟩
theorem yZl {tg:Expr} {X:V} {v:Value} {ρ':Rho} {Q:Unit→Shared→Prop} (a:At w k A sc env s off ρ) (hb:ax sc tg X ρ=some ρ') (r:Rd s.heap off X v)
  (q:∀ h' tk,At w k A sc env { s with heap:=h',toks:=tk } off ρ'→(∀ b o,b≠env.locals→s.heap.get? b=some o→h'.get? b=some o)→Q () { s with heap:=h',toks:=tk }) :
  wpAny (model pw w) A (assign tg env v) Q E s:=by
 have hb:=dJ hb
 induction hb with
 | name h1 h2=>exact wpAny_assign_Name (a.store h1 h2 r q)
 | @pair x px y py kk p X Y h1 h2 h3 h4 ne =>
   apply bc;intro hQ;rcases r.tup_inv with ⟨t,vs,rfl,h6,h7,h8⟩;rcases h8.two_inv with ⟨u1,u2,e1,e2,e4⟩;refine hQ ?_;clear hQ
   have hsz:vs.size=2:=by rw [← Array.length_toList,e1];rfl
   refine wpAny_assign_Tuple a.room.hd h7 (by rw [hsz];rfl) rfl fun h' he=>?_
   rw [e1]
   have kp:∀ b o,s.heap.get? b=some o→h'.get? b=some o:=fun b o e=>he b o (Nat.ne_of_lt (Heap.lt_size e)) e
   have a1:At w k A sc env { s with heap:=h',toks:=s.toks } off ρ:=a.keep (.of kp)
   refine assignInOrder_cons (wpAny_assign_Name (At.store a1 h1 h3 (e2.keep (.of kp)) fun h2' tk2 a2 k2=>?_))
   refine assignInOrder_cons (wpAny_assign_Name (At.store (X:=Y) a2 h2 (by rw [List.lookup_cons,beq_eq_false_iff_ne.mpr ne];exact h4) ?_ fun h3' tk3 a3 k3=>?_))
   ·apply bc;intro hQ;rcases a1.sees with ⟨m,hns,_⟩;refine hQ ?_;clear hQ
    exact (e4.keep (.of kp)).move (uQ hns k2) fun _ x=>x
   ·exact assignInOrder_nil (q h3' tk3 a3 fun b o hb e=>k3 b o hb (k2 b o hb (kp b o e)))
theorem zJm {tg:Expr} {X:V} {ρ':Rho} {h:Heap} (hb:ax sc tg X ρ=some ρ') (S:Sees sc env h off ρ'):Sees sc env h off ρ:=by
 apply bc;intro hQ;rcases S with ⟨m,h1,h2⟩;refine hQ ?_;clear hQ
 refine ⟨m,h1,fun y Y e=>h2 y Y ?_⟩
 clear h1 h2
 have hb:=dJ hb
 induction hb with
 | name _ n=>rw [List.lookup_cons,beq_eq_false_iff_ne.mpr (lq n e)];exact e
 | pair _ _ n1 n2 _=>rw [List.lookup_cons,beq_eq_false_iff_ne.mpr (lq n2 e),List.lookup_cons,beq_eq_false_iff_ne.mpr (lq n1 e)];exact e
noncomputable def offD (off:Addr→Prop) (D:Addr):Addr→Prop:=fun a=>off a∨a=D
structure CompSt (w:World) (k:Nat) (A:Around) (sc:Scope) (env:Env) (D:Addr) (off:Addr→Prop) (ρ:Rho) (s:Shared) (acc:List V):Prop where
 at_:At w k A sc env s (offD off D) ρ
 plain:∃ items,s.heap.PlainList D items∧RdL s.heap (offD off D) acc items.toList
 dn:(tG w.params).get D=none
theorem CompSt.keep {acc:List V} {D:Addr} (x:CompSt w k A sc env D off ρ s acc) {h':Heap} {tk:Nat} (e:Keep s.heap h'):CompSt w k A sc env D off ρ { s with heap:=h',toks:=tk } acc :=
 ⟨x.at_.keep e,let ⟨items,h1,h2⟩:=x.plain;⟨items,PlainList.keep h1 e,h2.keep e⟩,x.dn⟩
theorem CompSt.ne {acc:List V} {D:Addr} (x:CompSt w k A sc env D off ρ s acc):D≠env.locals :=
 let ⟨_,⟨_,h1⟩,_⟩:=x.plain
 let ⟨_,hn,_⟩:=x.at_.sees
 iK hn h1 fun _ _ q=>by contradiction
theorem CompSt.back {tg:Expr} {X:V} {ρ':Rho} {acc:List V} {D:Addr} (hb:ax sc tg X ρ=some ρ') (y:CompSt w k A sc env D off ρ' s acc):CompSt w k A sc env D off ρ s acc :=
 ⟨⟨y.at_.room,y.at_.en,y.at_.glb,y.at_.old,zJm hb y.at_.sees,y.at_.apart⟩,y.plain,y.dn⟩
theorem CompSt.bind {tg:Expr} {X:V} {v:Value} {ρ':Rho} {acc:List V} {D:Addr} {Q:Unit→Shared→Prop} (x:CompSt w k A sc env D off ρ s acc) (hb:ax sc tg X ρ=some ρ') (r:Rd s.heap (offD off D) X v)
  (q:∀ h' tk,CompSt w k A sc env D off ρ' { s with heap:=h',toks:=tk } acc→Bnd env.locals s.heap h'→Q () { s with heap:=h',toks:=tk }):wpAny (model pw w) A (assign tg env v) Q E s :=
 yZl x.at_ hb r fun h' tk a kb =>
  have b:Bnd env.locals s.heap h':=⟨kb,let ⟨m,hn,_⟩:=x.at_.sees;⟨m,hn⟩⟩
  q h' tk ⟨a,let ⟨its,p1,p2⟩:=x.plain;⟨its,p1.at fun o e=>kb D o x.ne e,p2.move b.sq fun _ q=>q⟩,x.dn⟩ b
noncomputable def ly (e:Expr) (gens:List Comprehension) (elt:Expr) (d:Nat) (acc:Value) (env:Env) (kont:Sem Fin):Sem Fin :=
 match gens[d]? with
 | some g'=>do
  let x ← eval g'.iter env
  standAt g'.iter.pos
  let x ← foldedSetIterable g'.iter env x
  let it ← holding [x] (pyIter x)
  let _ ← runOwn (.compStart e d it acc env) env
  kont
 | none=>do
  (do
   let l ← eval elt env
   let _ ← call (.builtin "list.append") [acc,l]
   pure ())
  kont
theorem av {elt:Expr} {gens:List Comprehension} {scope:Scope} {pos:Pos} {d:Nat} {tg it0:Expr} {ifs:List Expr} (hg:gens[d]?=some ⟨tg,it0,ifs,0⟩) (hs:∀ g',gens[d + 1]?=some g'→g'.is_async=0) (it acc:Value) (env:Env) :
  compTurn (.ListComp elt gens scope pos) d it acc env=(standAt it0.pos >>= fun _=>pyNext it >>= fun r=>match r with
   | none=>pure (.done .next)
   | some v=>letOwnedTupleGo tg it v >>= fun _=>assign tg env v >>= fun _=>lw ifs env >>= fun ok =>
    if ok=true then ly (.ListComp elt gens scope pos) gens elt (d + 1) acc env (again (.compLoop (.ListComp elt gens scope pos) d it acc env))
    else again (.compLoop (.ListComp elt gens scope pos) d it acc env)):=by
 unfold compTurn
 simp only [hg]
 cases h:gens[d + 1]? with
 | none=>unfold ly;rw [h];rfl
 | some g' =>
  obtain ⟨tg',it',ifs',as'⟩:=g'
  have:=hs _ h
  dsimp only at this
  subst this
  unfold ly;rw [h];rfl
end
section
variable {w:World} {A:Around} {E:Value→Shared→Prop} {off:Addr→Prop} {s:Shared} {k n:Nat} {sc:Scope} {env:Env} {ρ:Rho} {c:Cx} {R:Result→Shared→Prop}
theorem At.iter {h':Heap} {tk:Nat} {I:Addr} {o:Obj} (x:At w k A sc env s off ρ) (ho:s.heap.get? I=some o) (ht:Tame o) (gn:(tG w.params).get I=none) (no:¬ off I)
  (kb:∀ b o,b≠I→s.heap.get? b=some o→h'.get? b=some o):At w k A sc env { s with heap:=h',toks:=tk } off ρ:=by
 apply bc;intro hQ;rcases x.sees with ⟨m,h1,h2⟩;refine hQ ?_;clear hQ
 refine ⟨x.room,x.en,x.glb.but gn (fun o e=>by rw [ho] at e;(injection e with e;subst e);exact ht.soft) kb,fun b hb=>?_,⟨m,h1.at' fun o' e=>kb _ _ ?_ e,fun y Y e=>?_⟩,x.apart⟩
 ·obtain ⟨o',e⟩:=x.old b hb
  exact ⟨o',kb b o' (by rintro rfl;exact no hb) e⟩
 ·rintro rfl
  obtain ⟨o2,es,ep,e1,e2,_⟩:=h1
  rw [e1] at ho;(injection ho with ho;subst ho)
  obtain ⟨_,_,_,e3,_⟩:=ht
  rw [e2] at e3;contradiction
 ·apply bc;intro hQ;rcases h2 y Y e with ⟨v,r,h3⟩;refine hQ ?_;clear hQ
  refine ⟨v,r.move (tJ ho ht kb) fun _ x=>x,h3.imp _root_.id fun ⟨h4,c,h5,h6⟩=>⟨h4,c,h5,?_⟩⟩
  apply bc;intro hQ;rcases id h6 with ⟨o',h7,h8⟩;refine hQ ?_;clear hQ
  refine ⟨o',kb c o' ?_ h7,h8⟩
  rintro rfl
  rw [h7] at ho;(injection ho with ho;subst ho)
  apply bc;intro hQ;rcases ht with ⟨_,_,_,e3,_⟩;refine hQ ?_;clear hQ
  rw [h8] at e3;contradiction
theorem CompSt.iter {acc:List V} {D:Addr} {h':Heap} {tk:Nat} {I:Addr} {o:Obj} (x:CompSt w k A sc env D off ρ s acc) (ho:s.heap.get? I=some o) (ht:Tame o) (gn:(tG w.params).get I=none) (no:¬ offD off D I)
  (kb:∀ b o,b≠I→s.heap.get? b=some o→h'.get? b=some o):CompSt w k A sc env D off ρ { s with heap:=h',toks:=tk } acc:=by
 apply bc;intro hQ;rcases x.plain with ⟨items,h1,h2⟩;refine hQ ?_;clear hQ
 exact ⟨x.at_.iter ho ht gn no kb,⟨items,h1.at fun o e=>kb D o (fun e=>no (.inr e.symm)) e,h2.move (tJ ho ht kb) fun _ x=>x⟩,x.dn⟩
noncomputable def CK (D C:Addr) (h h':Heap):Prop:=KX (fun b=>b=D∨b=C) h h'
theorem qJ {elt:Expr} {gens:List Comprehension} {scope:Scope} {pos:Pos} {d:Nat} {tg it0:Expr} {ifs:List Expr} (hg:gens[d]?=some ⟨tg,it0,ifs,0⟩) {it acc:Value}
  (h0:codeAny (model pw w) A (.compLoop (.ListComp elt gens scope pos) d it acc env) R s)
  (h:wpAny (model pw w) A (pyIter it) (fun it' s'=>codeAny (model pw w) A (.compLoop (.ListComp elt gens scope pos) d it' acc env) R s') (notedBy (model pw w) A env fun x s'=>R (.error x) s') s) :
  codeAny (model pw w) A (.compStart (.ListComp elt gens scope pos) d it acc env) R s:=by
 refine codeAny_of_tree ?_
 show wpAny _ _ ((compStart (.ListComp elt gens scope pos) d it acc env).onRaise (fun x=>do noteFrame x env;standAt theWindowsPlace)) _ _ s
 refine wpAny_notedAt ?_
 unfold compStart
 rw [show clausesOf (.ListComp elt gens scope pos)=gens from rfl,hg]
 show wpAny _ _ (ask >>= _) _ _ s
 refine wpAny_bind (wpAny_askSetting (wpAny_ite ?_))
 split
 ·first
   | exact wpAny_bind (wpAny_pure (wpAny_pure (And.intro rfl h0)))
   | exact wpAny_pure (And.intro rfl h0)
 ·first
   | exact wpAny_bind (wpAny_rule (wpAny_bind (wpAny_standAt (wpAny_bind (wpAny_mono h (fun it' s' h'=>wpAny_pure (And.intro rfl h')) fun _ _ x=>x)))))
   | (refine wpAny_bind (wpAny_rule ?_);show wpAny _ _ (standAt it0.pos >>= _) _ _ s;exact wpAny_bind (wpAny_standAt (wpAny_bind (wpAny_mono h (fun it' s' h'=>wpAny_pure (And.intro rfl h')) fun _ _ x=>x))))
noncomputable abbrev oz (c:Cx) (sc:Scope) (n:Nat) (tg:Expr) (ifs:List Expr) (gs:List Comprehension) (elt:Expr) (ρ:Rho):V→List V→(List V→Prop)→Prop:=yZk (gen c n) sc tg ifs gs elt ρ
noncomputable def zJn (w:World) (k:Nat) (c:Cx) (n:Nat) (elt:Expr) (gens:List Comprehension) (scope:Scope) (pos:Pos) (d:Nat):Prop :=
 ∀ {A E off s sc env ρ D acc} {K:List V→Prop} {kont:Sem Fin} {Q:Fin→Shared→Prop},CompSt w k A sc env D off ρ s acc→clw c sc n (gens.drop d) elt ρ acc K →
  (∀ acc' h' tk,K acc'→CK D env.locals s.heap h'→CompSt w k A sc env D off ρ { s with heap:=h',toks:=tk } acc'→wpAny (model pw w) A kont Q E { s with heap:=h',toks:=tk }) →
  wpAny (model pw w) A (ly (.ListComp elt gens scope pos) gens elt d (.ref D) env kont) Q E s
noncomputable def xZe (w:World) (A:Around) (R:Result→Shared→Prop) (env:Env) (elt:Expr) (gens:List Comprehension) (scope:Scope) (pos:Pos) (d:Nat) (tg:Expr) (ifs:List Expr) (it acc:Value):Option Value→Shared→Prop:=fun r s'=>match r with
 | none=>R (.ok .next) s'
 | some v=>wpAny (model pw w) A (letOwnedTupleGo tg it v >>= fun _=>assign tg env v >>= fun _=>lw ifs env >>= fun ok =>
    if ok=true then ly (.ListComp elt gens scope pos) gens elt (d + 1) acc env (again (.compLoop (.ListComp elt gens scope pos) d it acc env))
    else again (.compLoop (.ListComp elt gens scope pos) d it acc env)) (fun fin s'=>match fin with | .done f=>R (.ok f) s' | .again c'=>c'.quiet=true∧codeAny (model pw w) A c' R s') (notedBy (model pw w) A env fun x s'=>R (.error x) s') s'
theorem yj {elt:Expr} {gens:List Comprehension} {scope:Scope} {pos:Pos} {d:Nat} {tg it0:Expr} {ifs:List Expr} (hg:gens[d]?=some ⟨tg,it0,ifs,0⟩) (hs:∀ g',gens[d + 1]?=some g'→g'.is_async=0) {it acc:Value}
  (h:wpAny (model pw w) A (pyNext it) (xZe w A R env elt gens scope pos d tg ifs it acc) (notedBy (model pw w) A env fun x s'=>R (.error x) s') s):codeAny (model pw w) A (.compLoop (.ListComp elt gens scope pos) d it acc env) R s:=by
 refine codeAny_of_tree ?_
 show wpAny _ A ((compTurn (.ListComp elt gens scope pos) d it acc env).onRaise (fun x=>do noteFrame x env;theTreesLotGoes x)) _ _ s
 refine wpAny_noted ?_
 rw [av hg hs]
 refine wpAny_bind (wpAny_standAt (wpAny_bind (wpAny_mono h (fun r s' q=>?_) fun _ _ x=>x)))
 cases r with
 | none=>exact wpAny_pure q
 | some v=>exact q
theorem CK.seqs {D:Addr} {acc:List V} {h':Heap} (x:CompSt w k A sc env D off ρ s acc) (ck:CK D env.locals s.heap h'):Seqs (offD off D) s.heap h':=fun a o e ⟨vs,nn,dd⟩ no=>by
 obtain ⟨m,hn,_⟩:=x.at_.sees
 exact ck.obj a o (fun q=>q.elim (fun e=>no (.inr e)) (iK hn e fun es ep q=>by rw [dd] at q;contradiction)) e (.nf fun vs' d'=>by rw [dd] at d';contradiction)
theorem Tame.nd {o:Obj} (t:Tame o):∀ es ep,o.data≠.dict es ep:=fun es ep q=>by
 obtain ⟨_,_,_,e,_⟩:=t
 rw [e] at q;contradiction
theorem Tame.of {h:Heap} {I:Addr} {o:Obj} (ho:h.get? I=some o) (t:Tame o):∀ o,h.get? I=some o→Soft o:=fun o' e=>by rw [ho] at e;(injection e with e;subst e);exact t.soft
theorem zJo {elt:Expr} {gens:List Comprehension} {scope:Scope} {pos:Pos} {d:Nat} {tg it0:Expr} {ifs:List Expr} (hg:gens[d]?=some ⟨tg,it0,ifs,0⟩) (hs:∀ g',gens[d + 1]?=some g'→g'.is_async=0)
  (ts:∀ {A E off s env ρ xs K Q},At w k A sc env s off ρ→tws c sc n xs ρ K→(∀ b h' tk,K b→Keep s.heap h'→Q b { s with heap:=h',toks:=tk })→wpAny (model pw w) A (lw xs env) Q E s)
  (more:zJn w k c n elt gens scope pos (d + 1)) {D I:Addr} {xs:List V} {St:(Addr→Prop)→Nat→Heap→Prop} (It:Iter w I xs St) (gn:(tG w.params).get I=none) {K:List V→Prop} :
  ∀ (rem:List V) (i:Nat) (s:Shared) (acc:List V),i≤xs.length→xs.drop i=rem→CompSt w k A sc env D off ρ s acc→St (offD off D) i s.heap→vX (oz c sc n tg ifs (gens.drop (d + 1)) elt ρ) rem acc K →
   (∀ acc' h' tk,K acc'→KX (fun b=>b=D∨b=env.locals∨b=I) s.heap h'→CompSt w k A sc env D off ρ { s with heap:=h',toks:=tk } acc'→R (.ok .next) { s with heap:=h',toks:=tk }) →
   codeAny (model pw w) A (.compLoop (.ListComp elt gens scope pos) d (.ref I) (.ref D) env) R s:=by
 intro rem
 induction rem with
 | nil =>
  intro i s acc hi hd x st kk q
  rw [gY hd hi] at st
  obtain ⟨o,ho,ht⟩:=It.tame _ _ _ st
  exact yj hg hs (It.done A _ s _ _ x.at_.room.hd st fun h' tk kb=>q acc h' tk kk (KX.but (.inr (.inr rfl)) (ht.of ho) kb) (x.iter ho ht gn (It.noff _ _ _ st) kb))
 | cons X r ih =>
  intro i s acc hi hd x st kk q
  refine yj hg hs (It.item A _ i s X _ _ x.at_.room.hd (sV hd) st fun v h1 tk1 r1 st1 kb1=>?_)
  apply bc;intro hQ;rcases It.tame _ _ _ st with ⟨o,ho,ht⟩;refine hQ ?_;clear hQ
  have x1:CompSt w k A sc env D off ρ { s with heap:=h1,toks:=tk1 } acc:=x.iter ho ht gn (It.noff _ _ _ st) kb1
  have kx1:KX (fun b=>b=D∨b=env.locals∨b=I) s.heap h1:=KX.but (.inr (.inr rfl)) (ht.of ho) kb1
  apply bc;intro hQ;rcases It.tame _ _ _ st1 with ⟨o1,ho1,ht1⟩;refine hQ ?_;clear hQ
  refine wpAny_bind (tX ho1 ht1 (wpAny_bind ?_))
  apply bc;intro hQ;rcases onS.inv kk with ⟨ρ',hb,kk⟩;refine hQ ?_;clear hQ
  refine x1.bind hb r1 fun h2 tk2 x2 b2=>?_
  have neIC:I≠env.locals:=b2.ne ho1 ht1.nd
  have st2:St (offD off D) (i + 1) h2:=It.frame A _ _ _ _ _ x.at_.room.hd st1 (fun o e=>b2.kb I o neIC e) b2.sq fun _ q=>.inl q
  have next:∀ acc' h3 tk3,vX (oz c sc n tg ifs (gens.drop (d + 1)) elt ρ) r acc' K→CK D env.locals h2 h3→CompSt w k A sc env D off ρ' { s with heap:=h3,toks:=tk3 } acc' →
    codeAny (model pw w) A (.compLoop (.ListComp elt gens scope pos) d (.ref I) (.ref D) env) R { s with heap:=h3,toks:=tk3 }:=fun acc' h3 tk3 kk ck x3=>by
   have st3:St (offD off D) (i + 1) h3:=It.frame A _ _ _ _ _ x.at_.room.hd st2 (fun o e=>by
    obtain ⟨o2,e2,t2⟩:=It.tame _ _ _ st2
    rw [e2] at e;(injection e with e;subst e)
    exact ck.obj I _ (fun q=>q.elim (fun e=>It.noff _ _ _ st2 (.inr e)) neIC) e2 t2.firm) (CK.seqs x2 ck) fun _ q=>.inl q
   exact ih (i + 1) { s with heap:=h3,toks:=tk3 } acc' (lY hd) (vZ hd) (x3.back hb) st3 kk fun acc'' h4 tk4 k4 kb4 x4=>q acc'' h4 tk4 k4 ((kx1.trans (b2.kx (.inr (.inl rfl)))).trans ((KX.le ck fun i q=>q.imp _root_.id .inl).trans kb4)) x4
  refine wpAny_bind (ts x2.at_ kk fun ok h3 tk3 kk3 e3=>?_)
  cases ok with
  | false=>exact wpAny_pure ⟨rfl,next acc h3 tk3 kk3 (KX.of e3) (x2.keep e3)⟩
  | true=>exact more (x2.keep e3) kk3 fun acc' h4 tk4 k4 ck4 x4=>wpAny_pure ⟨rfl,next acc' h4 tk4 k4 ((KX.of e3).trans ck4) x4⟩
end
theorem Res.keep {off:Addr→Prop} {s:Shared} {K:Kp} {Q:Value→Shared→Prop} (q:Res off s K Q) {h':Heap} {tk:Nat} (e:Keep s.heap h'):Res off { s with heap:=h',toks:=tk } K Q :=
 fun V v h'' tk' a b c=>q V v h'' tk' a (e.trans b) c
noncomputable def ResL (off:Addr→Prop) (s:Shared) (K:List V→Prop) (Q:List Value→Shared→Prop):Prop:=∀ l vs h' tk,K l→Keep s.heap h'→RdL h' off l vs→Q vs { s with heap:=h',toks:=tk }
theorem ResL.keep {off:Addr→Prop} {s:Shared} {K:List V→Prop} {Q:List Value→Shared→Prop} (q:ResL off s K Q) {h':Heap} {tk:Nat} (e:Keep s.heap h'):ResL off { s with heap:=h',toks:=tk } K Q :=
 fun V v h'' tk' a b c=>q V v h'' tk' a (e.trans b) c
noncomputable def ResB (s:Shared) (K:Bool→Prop) (Q:Bool→Shared→Prop):Prop:=∀ b h' tk,K b→Keep s.heap h'→Q b { s with heap:=h',toks:=tk }
theorem ResB.keep {s:Shared} {K:Bool→Prop} {Q:Bool→Shared→Prop} (q:ResB s K Q) {h':Heap} {tk:Nat} (e:Keep s.heap h'):ResB { s with heap:=h',toks:=tk } K Q :=
 fun b h'' tk' a c=>q b h'' tk' a (e.trans c)
noncomputable def ResP (off:Addr→Prop) (s:Shared) (K:Option Int→Prop) (Q:Value→Shared→Prop):Prop:=∀ p v h' tk,K p→Keep s.heap h'→nk h' off p v→Q v { s with heap:=h',toks:=tk }
structure Snd (w:World) (k:Nat) (c:Cx) (n:Nat):Prop where
 cl:∀ (elt:Expr) (gens:List Comprehension) (scope:Scope) (pos:Pos) (d:Nat),(∀ g∈gens,g.is_async=0)→zJn w k c n elt gens scope pos d
 e:∀ {A E off s sc env ρ ex K Q},At w k A sc env s off ρ→ew c sc n ex ρ K→Res off s K Q→wpAny (model pw w) A (eval ex env) Q E s
 es:∀ {A E off s sc env ρ xs K Q} (pos:Pos),At w k A sc env s off ρ→ews c sc n xs ρ K→ResL off s K Q→wpAny (model pw w) A (spliced (backTo pos (starEach xs env))) Q E s
 pt:∀ {A E off s sc env ρ p K Q},At w k A sc env s off ρ→ptw c sc n p ρ K→ResP off s K Q→wpAny (model pw w) A (evalPart p env) Q E s
 t:∀ {A E off s sc env ρ ex K Q},At w k A sc env s off ρ→tw c sc n ex ρ K→ResB s K Q→wpAny (model pw w) A (isTrue ex env (eval ex env)) Q E s
 bo:∀ {A E off s sc env ρ op xs K Q},At w k A sc env s off ρ→bow c sc n op xs ρ K→ResB s K Q→wpAny (model pw w) A (allTrue op xs env) Q E s
 ts:∀ {A E off s sc env ρ xs K Q},At w k A sc env s off ρ→tws c sc n xs ρ K→ResB s K Q→wpAny (model pw w) A (lw xs env) Q E s
 it:∀ {A E off s sc env ρ ex K Q},At w k A sc env s off ρ→itw c sc n ex ρ K→ItQ w off s K Q→wpAny (model pw w) A (eval ex env) (fun x s₁=>wpAny (model pw w) A (pyIter x) Q E s₁) E s
section
variable {w:World} {A:Around} {E:Value→Shared→Prop} {off:Addr→Prop} {s:Shared} {k n:Nat} {sc:Scope} {env:Env} {ρ:Rho} {c:Cx}
theorem yVq (S:Snd w k c n) {xs:List Expr} {K:List V→Prop} {Q:List Value→Shared→Prop} (pos:Pos) (a:At w k A sc env s off ρ) (kk:ews c sc (n + 1) xs ρ K) (q:ResL off s K Q) :
  wpAny (model pw w) A (spliced (backTo pos (starEach xs env))) Q E s:=by
 cases xs with
 | nil=>exact args_nil (q [] [] s.heap s.toks kk (Keep.refl _) RdL.nil)
 | cons e es =>
  obtain ⟨hs,kk⟩:=onT.inv kk
  rw [Bool.not_eq_true'] at hs
  ·refine args_cons (S.e a kk fun X v h' tk kk e1 r1=>S.es pos (a.keep e1) kk fun l vs h'' tk' kk e2 r2=>q (X :: l) (v :: vs) h'' tk' kk (e1.trans e2) (.cons (r1.keep e2) r2)) (zX hs es env)
theorem yVr (S:Snd w k c n) {p:Option Expr} {K:Option Int→Prop} {Q:Value→Shared→Prop} (a:At w k A sc env s off ρ) (kk:ptw c sc (n + 1) p ρ K) (q:ResP off s K Q) :
  wpAny (model pw w) A (evalPart p env) Q E s:=by
 cases p with
 | none=>exact wpAny_of_eq (evalPart_none env) (q none .none s.heap s.toks kk (Keep.refl _) rfl)
 | some e =>
  rw [evalPart_some]
  refine S.e a kk fun X v h' tk kk e1 r1=>?_
  cases X with
  | int i=>exact q (some i) v h' tk kk e1 r1.int_inv
  | _=>exact kk.elim
theorem yVs (S:Snd w k c n) {op:BoolOp} {xs:List Expr} {K:Bool→Prop} {Q:Bool→Shared→Prop} (a:At w k A sc env s off ρ) (kk:bow c sc (n + 1) op xs ρ K) (q:ResB s K Q) :
  wpAny (model pw w) A (allTrue op xs env) Q E s:=by
 cases xs with
 | nil =>
  cases op with
  | And=>exact wpAny_allTrue_And_nil (q true s.heap s.toks kk (Keep.refl _))
  | Or=>exact wpAny_allTrue_Or_nil (q false s.heap s.toks kk (Keep.refl _))
 | cons e es =>
  have kk:(gen c n).t sc e ρ _:=kk
  cases op with
  | And =>
   refine wpAny_allTrue_And_cons (S.t a kk fun b h' tk kk e1=>?_)
   cases b with
   | false=>exact q false h' tk kk e1
   | true=>exact S.bo (a.keep e1) kk (q.keep e1)
  | Or =>
   refine wpAny_allTrue_Or_cons (S.t a kk fun b h' tk kk e1=>?_)
   cases b with
   | true=>exact q true h' tk kk e1
   | false=>exact S.bo (a.keep e1) kk (q.keep e1)
theorem yVt (S:Snd w k c n) {xs:List Expr} {K:Bool→Prop} {Q:Bool→Shared→Prop} (a:At w k A sc env s off ρ) (kk:tws c sc (n + 1) xs ρ K) (q:ResB s K Q) :
  wpAny (model pw w) A (lw xs env) Q E s:=by
 cases xs with
 | nil=>exact wpAny_tests_nil (q true s.heap s.toks kk (Keep.refl _))
 | cons e es =>
  cases es with
  | nil=>exact wpAny_tests_one (S.t a kk q)
  | cons=>exact kk.elim
theorem xZf (S:Snd w k c n) {ex:Expr} {K:Bool→Prop} {Q:Bool→Shared→Prop} (a:At w k A sc env s off ρ) (kk:tw c sc (n + 1) ex ρ K) (q:ResB s K Q) :
  wpAny (model pw w) A (isTrue ex env (eval ex env)) Q E s:=by
 have val:∀ {e:Expr} (he:isTrue e env (eval e env)=(do let v ← eval e env;standAt e.pos;holding [v] (truthy v))),(ew c sc n e ρ fun a=>zZ9 a K)→wpAny (model pw w) A (isTrue e env (eval e env)) Q E s:=fun he kk =>
  wpAny_isTrue_value (S.e a kk fun X v h' tk kk e1 r1=>zQ8 (s:={ s with heap:=h',toks:=tk }) r1 kk fun b tk' kb=>q b h' tk' kb e1) he
 have kk:twB (gen c n) sc ρ K (ve ex):=kk
 generalize ve ex=v at kk
 induction v with
 | bo=>exact wpAny_isTrue_BoolOp (S.bo a kk q)
 | un op x p =>
  cases op with
  | Not=>exact wpAny_isTrue_Not (S.t a kk fun b h' tk kb e1=>q (!b) h' tk kb e1)
  | _=>exact kk.elim
 | cmp =>
  obtain ⟨hb,kk⟩:=onT.inv kk
  rw [Bool.not_eq_true'] at hb
  refine wpAny_isTrue_Compare1 (S.e a kk fun X v h' tk kk e1 r1=>S.e (a.keep e1) kk fun Y u h'' tk' kk e2 r2=>?_) hb
  refine zQ7 (s:={ s with heap:=h'',toks:=tk' }) a.room (r1.keep e2) r2 kk fun Z z h3 tk3 kk e3 r3=>?_
  exact zQ8 (s:={ s with heap:=h3,toks:=tk3 }) r3 kk fun b tk' kb=>q b h3 tk' kb ((e1.trans e2).trans e3)
 | ife=>exact kk.elim
 | list=>exact kk.elim
 | tuple=>exact kk.elim
 | lc=>exact kk.elim
 | other=>exact kk.elim
 | _=>exact val rfl kk
theorem yVu (C:CxOk w k c) (S:Snd w k c n) {ex:Expr} {K:List V→Prop} {Q:Value→Shared→Prop} (a:At w k A sc env s off ρ) (kk:itw c sc (n + 1) ex ρ K) (q:ItQ w off s K Q) :
  wpAny (model pw w) A (eval ex env) (fun x s₁=>wpAny (model pw w) A (pyIter x) Q E s₁) E s:=by
 have val:∀ {e:Expr},(ew c sc n e ρ fun a=>gw a K)→wpAny (model pw w) A (eval e env) (fun x s₁=>wpAny (model pw w) A (pyIter x) Q E s₁) E s:=fun kk =>
  S.e a kk fun X v h' tk kk e1 r1=>zWs (s:={ s with heap:=h',toks:=tk }) (a.old.keep e1) r1 kk (q.keep e1)
 have kk:itB (gen c n) sc ρ K (ve ex):=kk
 generalize ve ex=v at kk
 induction v with
 | callN f p args pos =>
  have fun1:∀ {id:String} {R:List V→Prop},(zz sc f && !args.any yY && decide (f=id))=true→ews c sc n args ρ R→(R []→False)→mgv w.params (id:Str)=none∧mbv w.params (id:Str)=some (.type id) →
    (∀ l vs h' tk,R l→Keep s.heap h'→RdL h' off l vs→wpAny (model pw w) A (call (.type id) vs) (fun x s₁=>wpAny (model pw w) A (pyIter x) Q E s₁) E { s with heap:=h',toks:=tk }) →
    wpAny (model pw w) A (eval (.Call (.Name f p) args [] pos) env) (fun x s₁=>wpAny (model pw w) A (pyIter x) Q E s₁) E s:=fun {id R} hb kx h0 hn k=>by
   rw [Bool.and_eq_true,Bool.and_eq_true,decide_eq_true_eq,Bool.not_eq_true'] at hb
   apply bc;intro hQ;rcases hb with ⟨⟨hg,hst⟩,rfl⟩;refine hQ ?_;clear hQ
   cases args with
   | nil=>cases n with
    | zero=>exact kx.elim
    | succ n=>exact (h0 kx).elim
   | cons e es =>
    rw [List.any_cons,Bool.or_eq_false_iff] at hst
    exact Call_ (yV a.glb a.en hg hn.1 hn.2 (callWith_type1 (S.es pos a kx k) (zX hst.1 es env) (wz hst.2 pos env)))
  rcases onB.inv kk with ⟨hb,kk⟩ | ⟨-,kk⟩
  ·exact fun1 hb kk (fun h=>h) (zZc w.params) fun l vs h' tk kk e1 r1=>zXd (s:={ s with heap:=h',toks:=tk }) (a.old.keep e1) r1 kk (q.keep e1)
  rcases onB.inv kk with ⟨hb,kk⟩ | ⟨-,kk⟩
  ·exact fun1 hb kk (fun h=>h) (aj w.params) fun l vs h' tk kk e1 r1=>zWt (s:={ s with heap:=h',toks:=tk }) a.room.hd (a.old.keep e1) r1 kk (q.keep e1)
  ·exact val kk
 | other=>exact kk.elim
 | _=>exact val kk
theorem sj {e:Expr} {K:List V→Prop} (kk:itw c sc n e ρ K) (env:Env) (x:Value):foldedSetIterable e env x=pure x:=by
 cases n with
 | zero=>exact kk.elim
 | succ n =>
  cases e with
  | Set=>exact kk.elim
  | _=>rfl
theorem CompSt.push {acc:List V} {D:Addr} {items:Array Value} {Y:V} {y:Value} {h2:Heap} (x:CompSt w k A sc env D off ρ s acc) (p1:s.heap.PlainList D items) (p2:RdL s.heap (offD off D) acc items.toList) (r1:Rd s.heap (offD off D) Y y) (p1':h2.PlainList D (items.push y)) (sb:Heap.SameBut D s.heap h2) :
  CompSt w k A sc env D off ρ { s with heap:=h2 } (acc++[Y])∧CK D env.locals s.heap h2:=by
 have kb:∀ b o,b≠D→s.heap.get? b=some o→h2.get? b=some o:=fun b o hb e=>sb.extBut b o hb e
 have sq:Seqs (offD off D) s.heap h2:=fun a o e _ no=>kb a o (fun e=>no (.inr e)) e
 refine ⟨⟨⟨x.at_.room,x.at_.en,x.at_.glb.but x.dn (Soft.plain p1) kb,fun b hb=>?_,?_,x.at_.apart⟩,⟨_,p1',by rw [Array.toList_push];exact (p2.append (RdL.one r1)).move sq fun _ z=>z⟩,x.dn⟩,KX.but (.inl rfl) (Soft.plain p1) kb⟩
 ·by_cases hD':b=D
  ·obtain ⟨n2,e⟩:=p1';exact ⟨_,hD' ▸ e⟩
  ·obtain ⟨o,e⟩:=x.at_.old b hb;exact ⟨o,kb b o hD' e⟩
 ·obtain ⟨m,h1,h2'⟩:=x.at_.sees
  refine ⟨m,h1.at' fun o e=>kb _ o x.ne.symm e,fun y' Y' e=>?_⟩
  obtain ⟨v,r,h3⟩:=h2' y' Y' e
  exact ⟨v,r.move sq fun _ z=>z,h3.imp _root_.id fun ⟨h4,cc,h5,o,h7,h8⟩=>⟨h4,cc,h5,o,kb cc o (wZ p1 h7 fun vs n d=>by rw [h8] at d;contradiction) h7,h8⟩⟩
theorem CK.of_loop {D C I:Addr} {h h' h2:Heap} (e1:Keep h h') (kb:KX (fun b=>b=D∨b=C∨b=I) h' h2) (fr:h.get? I=Option.none):CK D C h h2 :=
 have no:∀ b o,¬ (b=D∨b=C)→h.get? b=some o→¬ (b=D∨b=C∨b=I):=fun b o n e q=>q.elim (fun z=>n (.inl z)) fun z=>z.elim (fun z=>n (.inr z)) fun q=>by rw [q,fr] at e;contradiction
 ⟨fun b o n e f=>kb.obj b o (no b o n e) (e1.obj b o e f) f,fun b o n e=>let ⟨o',e'⟩:=e1.live b o e;kb.live b o' (no b o n e) e',fun t=>kb.inv (e1.inv t)⟩
theorem yVv (S:Snd w k c n) (elt:Expr) (gens:List Comprehension) (scope:Scope) (pos:Pos) (d:Nat) (hs:∀ g∈gens,g.is_async=0):zJn w k c (n + 1) elt gens scope pos d:=by
 intro A E off s sc env ρ D acc K kont Q x kk q
 cases hd:gens.drop d with
 | nil =>
  rw [hd] at kk
  unfold ly
  rw [List.getElem?_eq_none_iff.mpr (List.drop_eq_nil_iff.mp hd)]
  refine wpAny_bind (wpAny_bind (S.e x.at_ kk fun Y y h' tk kk e1 r1=>?_))
  have x1:=x.keep (tk:=tk) e1
  apply bc;intro hQ;rcases x1.plain with ⟨items,p1,p2⟩;refine hQ ?_;clear hQ
  have hl:=p2.length
  rw [Array.length_toList] at hl
  refine wpAny_bind (wpAny_list_append_plain (s:={ s with heap:=h',toks:=tk }) p1 (fun h2 p1' hsb=>wpAny_pure ?_) (by rw [hl];exact kk.1))
  obtain ⟨x2,ck⟩:=x1.push p1 p2 r1 p1' hsb
  exact q (acc++[Y]) h2 tk kk.2 ((KX.of e1).trans ck) x2
 | cons g gs =>
  obtain ⟨tg,it,ifs,as⟩:=g
  have has:as=0:=hs _ (List.mem_of_getElem? (sV hd))
  rw [has] at hd
  have hg:=sV hd
  rw [hd] at kk
  have kk:itw c sc n it ρ fun items=>vX (oz c sc n tg ifs gs elt ρ) items acc K:=kk
  unfold ly
  rw [hg]
  refine wpAny_bind (wpAny_mono (S.it x.at_ kk fun items I h' tk St kk e1 fr It st=>?_) (fun v s₁ h₁=>wpAny_bind (wpAny_standAt (wpAny_bind (wpAny_of_eq (sj kk env v) (wpAny_bind (wpAny_holding h₁)))))) fun _ _ e=>e)
  have loop:codeAny (model pw w) A (.compLoop (.ListComp elt gens scope pos) d (.ref I) (.ref D) env) (fun r s'=>match r with | .ok f=>wpAny (model pw w) A kont Q E s' | .error e=>cameBackBy (model pw w) A env E e s') { s with heap:=h',toks:=tk } :=
   zJo (off:=off) (ρ:=ρ) (xs:=items) (K:=K) hg (fun g' hg'=>hs _ (List.mem_of_getElem? hg')) (fun a b q=>S.ts a b q) (S.cl elt gens scope pos (d + 1) hs) It (x.at_.glb.new fr) items 0 _ acc (Nat.zero_le _) rfl (x.keep (tk:=tk) e1) st (by rw [vZ hd];exact kk) fun acc' h2 tk2 k2 kb2 x2=>q acc' h2 tk2 k2 (CK.of_loop e1 kb2 fr) x2
  refine wpAny_bind (wpAny_runOwn ?_)
  rw [Around.mark_none]
  exact qJ hg loop (It.self A _ 0 _ _ _ x.at_.room.hd st loop)
end
noncomputable def pV (cells:List (Str×Addr)):List (Str×NameKind)→List (Str×Addr)→List (Str×Addr)
 | [],acc=>acc
 | (x,kd) :: r,acc=>if (kd == NameKind.free)=true then pV cells r ((x,(cells.lookup x).getD 0) :: acc) else pV cells r acc
theorem xz {scope:Scope} {env:Env} (h:∀ x,(x,NameKind.free)∈scope.names→∃ c,env.cells.lookup x=some c):closureFor scope env=pure (pV env.cells scope.names []):=by
 have main:∀ (names:List (Str×NameKind)) (acc:List (Str×Addr)),(∀ x,(x,NameKind.free)∈names→∃ c,env.cells.lookup x=some c) →
   (forIn names acc fun (x:Str×NameKind) cs=>match x with
    | (name,kind)=>if (kind == NameKind.free)=true then do let a ← cellOf env name;pure (ForInStep.yield ((name,a) :: cs)) else pure (ForInStep.yield cs))=(pure (pV env.cells names acc):Sem _):=by
  intro names
  induction names with
  | nil=>intro acc _;rfl
  | cons p r ih =>
   intro acc hp
   obtain ⟨x,kd⟩:=p
   rw [List.forIn_cons]
   unfold pV
   by_cases hf:(kd == NameKind.free)=true
   ·have hf':kd=.free:=by simpa using hf
    subst hf'
    obtain ⟨c,hc⟩:=hp x List.mem_cons_self
    have e:cellOf env x=pure c:=by unfold cellOf;rw [hc]
    simp only [hf,if_true,e,hc,Option.getD_some]
    exact ih _ fun y hy=>hp y (List.mem_cons_of_mem _ hy)
   ·simp only [if_neg hf]
    exact ih _ fun y hy=>hp y (List.mem_cons_of_mem _ hy)
 exact congrArg (· >>= fun r=>pure r) (main scope.names [] h)
theorem wX {cells:List (Str×Addr)} {x:Str} {a:Addr} (hc:cells.lookup x=some a) (names:List (Str×NameKind)):∀ (acc:List (Str×Addr)),(acc.lookup x=none∨acc.lookup x=some a)→((x,NameKind.free)∈names∨acc.lookup x=some a) →
  (pV cells names acc).lookup x=some a:=by
 induction names with
 | nil=>exact fun acc _ h=>h.elim (fun x=>nm x) fun x=>x
 | cons p r ih =>
  intro acc h0 h
  obtain ⟨y,kd⟩:=p
  have h1:(x,NameKind.free)=(y,kd)∨(x,NameKind.free)∈r∨acc.lookup x=some a:=h.elim (fun h=>(List.mem_cons.mp h).imp _root_.id .inl) fun h=>.inr (.inr h)
  unfold pV
  split
  ·by_cases hy:x=y
   ·subst hy
    have:((x,(cells.lookup x).getD 0) :: acc).lookup x=some a:=by rw [pZ,hc];rfl
    exact ih _ (.inr this) (.inr this)
   ·refine ih _ (by rw [sJ hy];exact h0) ?_
    rw [sJ hy]
    exact h1.resolve_left fun e=>hy (congrArg (·.1) e)
  ·rename_i hf
   exact ih _ h0 (h1.resolve_left fun e=>hf (by injection e with _ e2;subst e2;rfl))
theorem zXe (outer:Scope) (names:List (Str×NameKind)) (x:Str) :
  (names.map fun (n,k)=>if (k == NameKind.free && outer.kind == .function && outer.names.lookup n == some .cell)=true then (n,NameKind.cell) else (n,k)).lookup x =
   (names.lookup x).map fun k=>if (k == NameKind.free && outer.kind == .function && outer.names.lookup x == some .cell)=true then NameKind.cell else k :=
 zX6 (g:=fun x k=>if (k == NameKind.free && outer.kind == .function && outer.names.lookup x == some .cell)=true then NameKind.cell else k) (fun y k=>by dsimp only;split <;> rfl) x names
section
variable {w:World} {A:Around} {E:Value→Shared→Prop} {off:Addr→Prop} {s:Shared} {k n:Nat} {sc sc':Scope} {env:Env} {ρ:Rho} {c:Cx}
theorem rk {x:Str}:(relS sc' sc).names.lookup x=(sc'.names.lookup x).map fun k=>if (k == NameKind.free && sc.kind == .function && sc.names.lookup x == some .cell)=true then NameKind.cell else k:=zXe sc sc'.names x
structure ScOk (sc' sc:Scope):Prop where
 kind:sc'.kind=.function
 clean:sW sc'=true
 cell:∀ y∈sc'.names,y.2≠.cell
 loc:∀ y∈sc'.names,y.2=.local→sc'.names.lookup y.1=some .local
 free:∀ y∈sc'.names,y.2=.free→xw sc y.1=true∧sc'.names.lookup y.1=some .free
theorem pW (h:scOk sc' sc=true):ScOk sc' sc:=by
 unfold scOk at h
 simp only [Bool.and_eq_true,List.all_eq_true] at h
 apply bc;intro hQ;rcases h with ⟨⟨h1,h2⟩,h3⟩;refine hQ ?_;clear hQ
 refine ⟨by simpa using h1,h2,fun y hy=>?_,fun y hy e=>?_,fun y hy e=>?_⟩
 ·have:=(h3 y hy).1.1;simpa using this
 ·have:=(h3 y hy).1.2;rw [e] at this;simpa using this
 ·have:=(h3 y hy).2;rw [e] at this;simpa using this
theorem uk {x:Str} {kd:NameKind}:∀ {names:List (Str×NameKind)},names.lookup x=some kd→(x,kd)∈names
 | [],h=>by contradiction
 | (y,k) :: r,h=>by
  by_cases hx:x=y
  ·subst hx;rw [List.lookup_cons,beq_self_eq_true] at h;(injection h with h;subst h);exact List.mem_cons_self
  ·rw [List.lookup_cons,beq_eq_false_iff_ne.mpr hx] at h;exact List.mem_cons_of_mem _ (uk h)
theorem fQ {p:Str×V→Bool} (hp:∀ x X Y,p (x,X)=p (x,Y)) {x:Str} {X:V} {ρ:Rho} (h:(ρ.filter p).lookup x=some X):ρ.lookup x=some X∧p (x,X)=true:=by
 have hm:=(List.mem_filter.mp (ez h)).2
 refine ⟨?_,hm⟩
 induction ρ with
 | nil=>exact nn h
 | cons q r ih =>
  obtain ⟨y,Y⟩:=q
  by_cases hx:x=y
  ·subst hx
   rw [List.filter_cons_of_pos ((hp x Y X).trans hm),pZ] at h
   rw [pZ];exact h
  ·rw [sJ hx]
   rw [List.filter_cons] at h
   split at h
   ·rw [sJ hx] at h;exact ih h
   ·exact ih h
theorem aw (H:EnvOk sc env) (O:ScOk sc' sc):∀ x,(x,NameKind.free)∈sc'.names→∃ c,env.cells.lookup x=some c:=fun x hx=>H.cells x (O.free _ hx rfl).1
noncomputable abbrev clE (sc':Scope) (env:Env):List (Str×Addr):=pV env.cells sc'.names []
theorem zWx (O:ScOk sc' sc) {x:Str} (h:xw (relS sc' sc) x=true):(x,NameKind.free)∈sc'.names:=by
 have ⟨kd,h1,h2⟩:∃ kd,sc'.names.lookup x=some kd∧(kd=.free∨kd=.cell):=by
  rcases vk h with h | h <;>
  ·rw [rk,Option.map_eq_some_iff] at h
   obtain ⟨kd,h1,h2⟩:=h
   refine ⟨kd,h1,?_⟩
   cases kd <;> first | exact .inl rfl | exact .inr rfl | (contradiction)
 rcases h2 with e | e <;> rw [e] at h1
 ·exact uk h1
 ·exact absurd rfl (O.cell _ (uk h1))
theorem yZm (H:EnvOk sc env) (O:ScOk sc' sc) {x:Str} (hm:(x,NameKind.free)∈sc'.names):∃ cc,env.cells.lookup x=some cc∧(clE sc' env).lookup x=some cc :=
 let ⟨cc,hc⟩:=H.cells x (O.free _ hm rfl).1
 ⟨cc,hc,wX hc _ _ (.inl rfl) (.inl hm)⟩
theorem zWy (H:EnvOk sc env) (O:ScOk sc' sc) {C:Addr}:EnvOk (relS sc' sc) (compEnvC sc' (clE sc' env) C env) :=
 ⟨by show relabel sc' env=_;unfold relabel relS;rw [H.scope];unfold Env.kindOf;rw [H.scope],O.kind,H.glob,H.bui,by
  have:=O.clean
  unfold sW at this ⊢
  rw [rk,rk]
  simpa using this,fun x hx=>let ⟨cc,_,h⟩:=yZm H O (zWx O hx);⟨cc,h⟩⟩
theorem zXf (H:EnvOk sc env) (O:ScOk sc' sc) {C:Addr} {h h₁:Heap} {m:Str→Option Value} (S:Sees sc env h off ρ) (hns:h₁.Ns C m) (k:Keep h h₁):Sees (relS sc' sc) (compEnvC sc' (clE sc' env) C env) h₁ (offD off h.objs.size) (pJ sc' ρ):=by
 refine ⟨m,hns,fun x X e=>?_⟩
 obtain ⟨h1,h2⟩:=fQ (fun _ _ _=>rfl) e
 have h2:sc'.names.lookup x=some .free:=by simpa using h2
 have ce:=(O.free _ (uk h2) rfl).1
 apply bc;intro hQ;rcases S with ⟨_,_,hs⟩;rcases hs x X h1 with ⟨v,r,h3⟩;refine hQ ?_;clear hQ
 refine ⟨v,r.move' k.seqs (fun b hb=>hb.imp _root_.id fun e=>by rw [e];exact xj _),.inr ⟨?_,?_⟩⟩
 ·unfold xw
  rw [rk,h2]
  rcases vk ce with h | h <;> simp [h,H.kind]
 ·rcases h3 with ⟨h4,_⟩ | ⟨h4,cc,h5,h6⟩
  ·rcases vk ce with h | h <;> (rw [h] at h4;contradiction)
  ·exact ⟨cc,wX h5 _ _ (.inl rfl) (.inl (uk h2)),IsCell.keep h6 k⟩
theorem dK (a:At w k A sc env s off ρ) (O:ScOk sc' sc) {Z:Value→Env→Shared→Prop}
  (q:∀ C h₁ tk,s.heap.objs.size < C→(∀ b o,s.heap.get? b=some o→h₁.get? b=some o)→CompSt w k A (relS sc' sc) (compEnvC sc' (clE sc' env) C env) s.heap.objs.size off (pJ sc' ρ) { s with heap:=h₁,toks:=tk } [] →
   Z (.ref s.heap.objs.size) (newEnv sc' C env.globals (clE sc' env) env.qual none .none (some env) builtinsNs) { s with heap:=h₁,toks:=tk }) :
  wpAny (model pw w) A (newList []) (fun acc s₃=>wpAny (model pw w) A (newFunctionEnv sc' env.globals (clE sc' env) [] env.qual none .none (some env)) (fun cenv s₄=>Z acc cenv s₄) E s₃) E s:=by
 refine wpAny_newObj_type (wpAny_newFunctionEnv O.cell (by intro y hy;contradiction) (fun h₁ hns hsb=>?_) O.kind)
 dsimp only at hns hsb ⊢
 generalize hH:s.heap.push { cls:=.type "list",dict:=none,data:=.seq ([]:List Value).toArray }=H at hns hsb ⊢
 have hC:H.objs.size=s.heap.objs.size + 1:=by rw [← hH,Heap.size_push]
 have kb:∀ b o,s.heap.get? b=some o→h₁.get? b=some o:=fun b o e=>hsb.extBut b o (by rw [hC];exact Nat.ne_of_lt (Nat.lt_succ_of_lt (Heap.lt_size e))) (Heap.get?_push_of_some _ (hH ▸ Heap.get?_push_of_some _ e))
 have k:Keep s.heap h₁:=.of kb
 have lt:s.heap.objs.size < H.objs.size:=by rw [hC];exact Nat.lt_succ_self _
 have hacc:h₁.PlainList s.heap.objs.size #[]:=⟨_,hsb.extBut _ _ (Nat.ne_of_lt lt) (Heap.get?_push_of_some _ (hH ▸ Heap.get?_push_size _ rfl))⟩
 refine q _ h₁ _ lt kb ⟨⟨a.room,zWy a.en O,a.glb.keep k,fun b hb=>?_,zXf a.en O a.sees hns k,a.glb.new (iq (Nat.le_of_lt lt))⟩,⟨#[],hacc,RdL.nil⟩,a.glb.new (xj _)⟩
 rcases hb with hb | hb
 ·obtain ⟨o,e⟩:=a.old b hb;exact ⟨o,kb b o e⟩
 ·obtain ⟨nn,e⟩:=hacc;exact ⟨_,hb ▸ e⟩
theorem CompSt.out {D:Addr} {acc:List V} (x:CompSt w k A sc env D off ρ s acc) (no:¬ off D):Rd s.heap off (.lst acc) (.ref D):=by
 apply bc;intro hQ;rcases x.plain with ⟨its,p1,p2⟩;refine hQ ?_;clear hQ
 exact Rd.lstI (vs:=its) no p1 (p2.move (Keep.refl _).seqs fun b hb=>.inl hb)
theorem dW {X:Addr→Prop} {h h' h₁ h2:Heap} (e:Keep h h') (k:Keep h' h₁) (x:KX X h₁ h2) (n:∀ b,X b→h.get? b=none):Keep h h2 :=
 have nX:∀ b o,h.get? b=some o→¬ X b:=fun b o e q=>by rw [n b q] at e;contradiction
 have t:=e.trans k
 ⟨fun b o e f=>x.obj b o (nX b o e) (t.obj b o e f) f,fun b o e=>let ⟨o2,e3⟩:=t.live b o e;x.live b o2 (nX b o e) e3,fun q=>x.inv (t.inv q)⟩
theorem dY (S:Snd w k c n) {elt tg it:Expr} {ifs:List Expr} {gs:List Comprehension} {pos:Pos} {K:List V→Prop} {RR:Value→Addr→Result→Shared→Prop} (a:At w k A sc env s off ρ) (hsc:scOk sc' sc=true) (hgs:∀ g∈gs,g.is_async=0)
  (kk:itw c sc n it ρ fun items=>vX (oz c (relS sc' sc) n tg ifs gs elt (pJ sc' ρ)) items [] K)
  (hRR:∀ acc D C h' tk m',K acc→s.heap.get? C=none→D≠C→h'.Ns C m'→Keep s.heap h'→Rd h' off (.lst acc) (.ref D)→RR (.ref D) C (.ok .next) { s with heap:=h',toks:=tk }) :
  wpAny (model pw w) A (eval it env) (fun xv s₁=>wpAny (model pw w) A (pyIter xv) (fun it' s₂=>wpAny (model pw w) A (newList []) (fun acc s₃=>wpAny (model pw w) A (newFunctionEnv sc' env.globals (pV env.cells sc'.names []) [] env.qual none .none (some env)) (fun cenv s₄ =>
   codeAny (model pw w) A (.compStart (.ListComp elt (⟨tg,it,ifs,0⟩ :: gs) sc' pos) 0 it' acc { cenv with scope:=relabel sc' env }) (RR acc cenv.locals) s₄) E s₃) E s₂) E s₁) E s:=by
 have O:=pW hsc
 refine S.it a kk fun items I h' tk St kk e1 fr It st=>?_
 have a1:At w k A sc env { s with heap:=h',toks:=tk } off ρ:=a.keep e1
 refine dK a1 O fun C h₁ tk₁ lt kb st1=>?_
 have keep1:Keep h' h₁:=.of kb
 have stI:St (offD off h'.objs.size) 0 h₁:=It.frame A _ _ _ _ _ a.room.hd st (fun o e=>kb I o e) keep1.seqs fun b hb=>hb.imp _root_.id fun e=>by rw [e];exact xj _
 have loop:∀ s₃:Shared,s₃={ s with heap:=h₁,toks:=tk₁ } →
   codeAny (model pw w) A (.compLoop (.ListComp elt (⟨tg,it,ifs,0⟩ :: gs) sc' pos) 0 (.ref I) (.ref h'.objs.size) (compEnvC sc' (clE sc' env) C env)) (RR (.ref h'.objs.size) C) s₃:=fun s₃ e=>by
  rw [e]
  refine zJo (gens:=⟨tg,it,ifs,0⟩ :: gs) (d:=0) (off:=off) (xs:=items) (K:=K) rfl (fun g' hg'=>hgs _ (by simpa using List.mem_of_getElem? (l:=gs) (i:=0) (hg'))) (fun a b q=>S.ts a b q)
   (S.cl elt _ sc' pos 1 (fun g hg=>(List.mem_cons.mp hg).elim (fun e=>by rw [e]) (hgs g))) It (a.glb.new fr) items 0 _ [] (Nat.zero_le _) rfl st1 stI kk fun acc' h2 tk2 k2 kb2 x2=>?_
  obtain ⟨m',hn',_⟩:=x2.at_.sees
  have fC:h'.get? C=none:=iq (Nat.le_of_lt lt)
  exact hRR acc' h'.objs.size C h2 tk2 m' k2 (e1.none fC) (Nat.ne_of_lt lt) hn' (dW e1 keep1 kb2 fun b hb=>hb.elim (fun e=>e ▸ e1.none (xj _)) fun hb=>hb.elim (fun e=>e ▸ e1.none fC) fun e=>e ▸ fr)
   (x2.out fun ho=>by obtain ⟨o,e⟩:=a1.old _ ho;rw [xj] at e;contradiction)
 exact codeAny_compStart_list (loop _ rfl) (It.self A _ 0 _ _ _ a.room.hd stI (loop _ rfl))
theorem iv {h h₀ h':Heap} {C:Addr} {m:Str→Option Value} (hC:h₀.get? C=none) (k:Keep h₀ h) (hn:h.Ns C m) (sb:Heap.SameBut C h h'):Keep h₀ h':=by
 have kb:∀ b o,b≠C→h.get? b=some o→h'.get? b=some o:=fun b o hb e=>sb.extBut b o hb e
 have ne:∀ b o,h₀.get? b=some o→b≠C:=by rintro b o e rfl;rw [hC] at e;contradiction
 exact ⟨fun b o e f=>kb b o (ne b o e) (k.obj b o e f),fun b o e=>let ⟨o',e'⟩:=k.live b o e;⟨o',kb b o' (ne b o e) e'⟩,fun t=>(k.inv t).but (Soft.ns hn) kb⟩
theorem zZd {h h':Heap} {C:Addr} {m:Str→Option Value} {X:V} {v:Value} (hn:h.Ns C m) (r:Rd h off X v) (sb:Heap.SameBut C h h'):Rd h' off X v:=r.move (uQ hn fun b o hb e=>sb.extBut b o hb e) fun _ x=>x
theorem yZn (S:Snd w k c n) {elt tg it:Expr} {ifs:List Expr} {gs:List Comprehension} {pos:Pos} {K:Kp} {Q:Value→Shared→Prop} (a:At w k A sc env s off ρ) (hsc:scOk sc' sc=true) (hgs:∀ g∈gs,g.is_async=0)
  (kk:itw c sc n it ρ fun items=>vX (oz c (relS sc' sc) n tg ifs gs elt (pJ sc' ρ)) items [] fun acc=>K (.lst acc)) (q:Res off s K Q) :
  wpAny (model pw w) A (eval (.ListComp elt (⟨tg,it,ifs,0⟩ :: gs) sc' pos) env) Q E s:=by
 have O:=pW hsc
 rw [eval_ListComp]
 refine wpAny_comprehension_free (use:=none) rfl (sj kk env) (xz (aw a.en O)) O.kind O.loc (dY (K:=fun acc=>K (.lst acc)) (RR:=fun acc C=>compPost (model pw w) A E none Q acc C) S a hsc hgs kk fun acc D C h' tk m' kk hC hDC hn ke r=>?_)
 exact ⟨m',hn,fun h3 hs3=>q (.lst acc) (.ref D) h3 tk kk (iv hC ke hn hs3) (zZd hn r hs3)⟩
theorem zWz (S:Snd w k c n) {elt tg it:Expr} {ifs:List Expr} {gs:List Comprehension} {pos spos py:Pos} {y:Str} {K:Kp} {Q:Flow→Shared→Prop} (a:At w k A sc env s off ρ) (hsc:scOk sc' sc=true) (hgs:∀ g∈gs,g.is_async=0)
  (hsw:swapsWith (.ListComp elt (⟨tg,it,ifs,0⟩ :: gs) sc' pos) (some (.Name y py)) spos.line env=pure true)
  (kk:itw c sc n it ρ fun items=>vX (oz c (relS sc' sc) n tg ifs gs elt (pJ sc' ρ)) items [] fun acc=>K (.lst acc))
  (q:∀ acc D C h' tk m',K (.lst acc)→s.heap.get? C=none→h'.Ns C m'→Keep s.heap h'→Rd h' off (.lst acc) (.ref D) →
   wpAny (model pw w) A (storeName env y (.ref D)) (fun _ s''=>∃ m,s''.heap.Ns C m∧∀ h3,Heap.SameBut C s''.heap h3→Q .next { s'' with heap:=h3 }) E { s with heap:=h',toks:=tk }) :
  wpAny (model pw w) A (exec (.Assign [.Name y py] (.ListComp elt (⟨tg,it,ifs,0⟩ :: gs) sc' pos) spos) env) Q E s:=by
 have O:=pW hsc
 rw [exec_Assign_Name_used _ _ _ _ hsw]
 refine wpAny_bind (wpAny_standAt (wpAny_bind ?_))
 show wpAny _ A (do let _ ← comprehension (.ListComp elt (⟨tg,it,ifs,0⟩ :: gs) sc' pos) sc' env _ (newList []) false (eval it env) (some (assign (.Name y py) env))) _ _ s
 refine wpAny_bind (wpAny_mono (wpAny_comprehension_free (use:=some (assign (.Name y py) env)) (Q:=fun _ s'=>Q .next s') rfl (sj kk env) (xz (aw a.en O)) O.kind O.loc
  (dY (K:=fun acc=>K (.lst acc)) (RR:=fun acc C=>compPost (model pw w) A E (some (assign (.Name y py) env)) (fun _ s'=>Q .next s') acc C) S a hsc hgs kk fun acc D C h' tk m' kk hC hDC hn ke r=>?_)) (fun _ s' hq=>wpAny_pure (wpAny_pure hq)) fun _ _ e=>e)
 show wpAny _ A (assign (.Name y py) env (.ref D)) _ _ _
 exact wpAny_assign_Name (q acc D C h' tk m' kk hC hn ke r)
end
section
variable {w:World} {A:Around} {E:Value→Shared→Prop} {off:Addr→Prop} {s:Shared} {k n:Nat} {sc sc':Scope} {env:Env} {ρ:Rho} {c:Cx}
theorem zJp {es:List Expr} (h:(!es.any yY)=true):es.any yY=false:=by simpa using h
theorem ay {e:Expr} {es:List Expr} (h:(e :: es).any yY=false):yY e=false∧es.any yY=false:=by rw [List.any_cons,Bool.or_eq_false_iff] at h;exact h
theorem yy {M:Model} {pos:Pos} {id:String} {first:List Value} {args:List Expr} {Q:Value→Shared→Prop} (hst:args.any yY=false)
  (h:wpAny M A (spliced (backTo pos (starEach args env))) (fun vs s₁=>wpAny M A (call (.builtin id) (first++vs)) Q E s₁) E s):wpAny M A (callWith pos (.builtin id) first (backTo pos (starEach args env)) []) Q E s:=by
 cases args with
 | nil=>exact callWith_builtin rfl (evalArgs_nil3 (by
   have h':wpAny M A (spliced []) (fun vs s₁=>wpAny M A (call (.builtin id) (first++vs)) Q E s₁) E s:=h
   intro Γ p hΓ
   have:=h' Γ p hΓ
   simpa [spliced] using this Γ p hΓ))
 | cons e es =>
  have hh:=ay hst
  refine callWith_builtin (wz hst pos env) ?_
  rw [zX hh.1] at h ⊢
  exact evalArgs_plain h
theorem xZg (C:CxOk w k c) (S:Snd w k c n) {ex:Expr} {K:Kp} {Q:Value→Shared→Prop} (a:At w k A sc env s off ρ) (kk:ew c sc (n + 1) ex ρ K) (q:Res off s K Q):wpAny (model pw w) A (eval ex env) Q E s:=by
 rcases onO.inv kk with ⟨f,hf,kk⟩ | ⟨-,kk⟩
 ·exact C.ext _ _ _ hf A E off s env ρ K Q a.room a.en a.glb a.old a.sees a.apart kk q
 generalize ve ex=v at kk
 induction v with
 | int=>exact wpAny_Constant_int (q.int kk _ _)
 | str=>exact wpAny_Constant_str (q.str kk _ _)
 | bool=>exact wpAny_Constant_bool (q.bool kk)
 | none=>exact wpAny_Constant_none (q .none .none s.heap s.toks kk (Keep.refl _) Rd.none)
 | name x p =>
  rcases onO.inv kk with ⟨X,hX,kk⟩ | ⟨-,kk⟩
  ·exact a.sees.name a.en hX fun v r=>q X v s.heap s.toks kk (Keep.refl _) r
  ·apply bc;intro hQ;rcases onS.inv (onT.inv kk).2 with ⟨X,hv,kx⟩;rcases C.gv _ _ hv with ⟨v,h1,h2⟩;refine hQ ?_;clear hQ
   exact xq a.glb a.en (onT.inv kk).1 h1 (q X v s.heap s.toks kx (Keep.refl _) (h2 _ _))
 | bin=>exact wpAny_BinOp (S.e a kk fun X v h' tk kk e1 r1=>S.e (a.keep e1) kk fun Y u h'' tk' kk e2 r2 =>
   zQ6 (s:={ s with heap:=h'',toks:=tk' }) a.room.hd ((a.keep (tk:=tk') (e1.trans e2)).old) (r1.keep e2) r2 kk (q.keep (e1.trans e2)))
 | un=>exact wpAny_UnaryOp (S.e a kk fun X v h' tk kk e1 r1=>yZc (s:={ s with heap:=h',toks:=tk }) r1 kk (q.keep e1))
 | ife =>
  refine wpAny_IfExp (S.t a kk fun b h' tk kk e1=>?_)
  cases b with
  | true=>exact S.e (a.keep e1) kk (q.keep e1)
  | false=>exact S.e (a.keep e1) kk (q.keep e1)
 | cmp =>
  obtain ⟨hb,kk⟩:=onT.inv kk
  rw [Bool.not_eq_true'] at hb
  exact wpAny_Compare1 (S.e a kk fun X v h' tk kk e1 r1=>S.e (a.keep e1) kk fun Y u h'' tk' kk e2 r2 =>
   zQ7 (s:={ s with heap:=h'',toks:=tk' }) a.room (r1.keep e2) r2 kk (q.keep (e1.trans e2))) hb
 | bo=>exact kk.elim
 | slice =>
  refine Subscript_ (S.e a kk fun X v h1 t1 kk e1 r1=>wpAny_Slice (S.pt (a.keep e1) kk fun p1 v1 h2 t2 kk e2 p1'=>S.pt (a.keep (e1.trans e2)) kk fun p2 v2 h3 t3 kk e3 p2' =>
    S.pt (a.keep ((e1.trans e2).trans e3)) kk fun p3 v3 h4 t4 kk e4 p3'=>?_))
  have e14:=((e1.trans e2).trans e3).trans e4
  have part:∀ {h:Heap} {p:Option Int} {v:Value},nk h off p v→nk h4 off p v:=fun {h p v} x=>by cases p <;> exact x
  exact zWm (s:={ s with heap:=h4,toks:=t4 }) (a.keep (tk:=t4) e14).old (r1.keep ((e2.trans e3).trans e4)) (part p1') (part p2') (part p3') kk (q.keep e14)
 | sub =>
  obtain ⟨hi,kk⟩:=onT.inv kk
  rw [Bool.not_eq_true'] at hi
  exact Subscript_ (S.e a kk fun X v h' tk kk e1 r1=>S.e (a.keep e1) kk fun Y u h'' tk' kk e2 r2=>yVk (s:={ s with heap:=h'',toks:=tk' }) hi (r1.keep e2) r2 kk (q.keep (e1.trans e2)))
 | list=>exact wpAny_List (S.es _ a kk fun l vs h' tk kk e1 r1=>⟨by rw [r1.length];exact kk.1,q _ _ _ tk kk.2 (e1.trans (Keep.push _ _)) (Rd.newList (a.old.keep e1) r1)⟩)
 | tuple=>exact wpAny_Tuple (S.es _ a kk fun l vs h' tk kk e1 r1=>⟨by rw [r1.length];exact kk.1,q _ _ _ tk kk.2 (e1.trans (Keep.push _ _)) (Rd.newTuple (a.old.keep e1) r1)⟩)
 | callN f p args pos =>
  obtain ⟨hb,kk⟩:=onT.inv kk
  rw [Bool.and_eq_true] at hb
  have hst:=zJp hb.2
  rcases onO.inv kk with ⟨g,hg,kk⟩ | ⟨-,kk⟩
  ·apply bc;intro hQ;rcases C.fn _ _ hg with ⟨ad,o,fd,h1,h2,h3,h4⟩;refine hQ ?_;clear hQ
   cases args with
   | nil =>
    cases n with
    | zero=>exact kk.elim
    | succ n =>
     refine Call_ (xq a.glb a.en hb.1 h1 (callWith_function (o:=o) (fd:=fd) (evalArgs_nil3 ⟨⟨a.glb.at_ _ _ h2 (.nf fun vs d=>by rw [h3] at d;contradiction),h3⟩,?_⟩)))
     exact h4 A E off s [] [] K Q a.room a.glb a.old RdL.nil kk q
   | cons e es =>
    refine Call_ (xq a.glb a.en hb.1 h1 (callWith_def h3 (S.es pos a kk fun l vs h' tk kk e1 r1=>⟨(a.glb.keep e1).at_ _ _ h2 (.nf fun vs d=>by rw [h3] at d;contradiction),?_⟩) (zX (ay hst).1 es env)))
    exact h4 A E off { s with heap:=h',toks:=tk } l vs K Q a.room (a.glb.keep e1) (a.old.keep e1) r1 kk (q.keep e1)
  ·apply bc;intro hQ;rcases onS.inv kk with ⟨b,hbn,kk⟩;rcases lk w.params hbn with ⟨h1,h2⟩;refine hQ ?_;clear hQ
   exact Call_ (yV a.glb a.en hb.1 h1 h2 (yy hst (S.es pos a kk fun l vs h' tk kk e1 r1=>pX (s:={ s with heap:=h',toks:=tk }) b a.room (a.old.keep e1) r1 kk (q.keep e1))))
 | callA o m apos args pos =>
  obtain ⟨hb,kk⟩:=onT.inv kk
  simp only [Bool.and_eq_true] at hb
  apply bc;intro hQ;rcases hb with ⟨⟨⟨hl,hn⟩,hst⟩,ho⟩;refine hQ ?_;clear hQ
  have hst':=zJp hst
  refine wpAny_Call_method_late (qz ho _ _ _) ?_ hl rfl (S.e a kk fun X v h' tk kk e1 r1=>?_)
  ·rw [Bool.and_eq_true,Bool.and_eq_true]
   refine ⟨⟨uK hst' pos env,rfl⟩,?_⟩
   simpa using hn
  ·apply bc;intro hQ;rcases onS.inv kk with ⟨f,hm,kk⟩;rcases zJl (s:={ s with heap:=h',toks:=tk }) hm r1 with ⟨T,m1,m2,m3,m4,m5⟩;refine hQ ?_;clear hQ
   exact ⟨T,f.id,m1,m2,m3,m4,m5,yy hst' (S.es pos (a.keep e1) kk fun l vs h'' tk' kk e2 r2=>pX (s:={ s with heap:=h'',toks:=tk' }) f a.room (a.keep (tk:=tk') (e1.trans e2)).old (.cons (r1.keep e2) r2) kk (q.keep (e1.trans e2)))⟩
 | lc elt tg it ifs gs sc' pos =>
  obtain ⟨hb,kk⟩:=onT.inv kk
  rw [Bool.and_eq_true] at hb
  exact yZn S a hb.1 (fun g hg=>by have:=List.all_eq_true.mp hb.2 g hg;simpa using this) kk q
 | other=>exact kk.elim
end
theorem snd {w:World} {k:Nat} {c:Cx} (C:CxOk w k c):∀ n,Snd w k c n
 | 0=>{
  cl:=fun _ _ _ _ _ _=>fun {_ _ _ _ _ _ _ _ _ _ _ _} _ kk _=>kk.elim
  e:=fun {_ _ _ _ _ _ _ _ _ _} _ kk _=>kk.elim
  es:=fun {_ _ _ _ _ _ _ _ _ _} _ _ kk _=>kk.elim
  pt:=fun {_ _ _ _ _ _ _ _ _ _} _ kk _=>kk.elim
  t:=fun {_ _ _ _ _ _ _ _ _ _} _ kk _=>kk.elim
  bo:=fun {_ _ _ _ _ _ _ _ _ _ _} _ kk _=>kk.elim
  ts:=fun {_ _ _ _ _ _ _ _ _ _} _ kk _=>kk.elim
  it:=fun {_ _ _ _ _ _ _ _ _ _} _ kk _=>kk.elim }
 | n + 1=>{
  cl:=fun elt gens scope pos d hs=>yVv (snd C n) elt gens scope pos d hs
  e:=fun {A E off s sc env ρ ex K Q} a kk q=>xZg C (snd C n) a kk q
  es:=fun {A E off s sc env ρ xs K Q} pos a kk q=>yVq (snd C n) pos a kk q
  pt:=fun {A E off s sc env ρ p K Q} a kk q=>yVr (snd C n) a kk q
  t:=fun {A E off s sc env ρ ex K Q} a kk q=>xZf (snd C n) a kk q
  bo:=fun {A E off s sc env ρ op xs K Q} a kk q=>yVs (snd C n) a kk q
  ts:=fun {A E off s sc env ρ xs K Q} a kk q=>yVt (snd C n) a kk q
  it:=fun {A E off s sc env ρ ex K Q} a kk q=>yVu C (snd C n) a kk q }
end Mine
end
section
open PySem PySem.W PySem.Calls PyProof.Rows
namespace Mine
noncomputable abbrev SRho:=List (Str×Slt)
noncomputable def setS (x:Str) (sl:Slt):SRho→SRho
 | []=>[(x,sl)]
 | (y,t) :: r=>match x == y with | true=>(y,sl) :: r | false=>(y,t) :: setS x sl r
noncomputable def owns (ρ:SRho):List Str:=ρ.filterMap fun p=>match p.2 with | .own _=>some p.1 | _=>none
noncomputable def xy (vs:List Str) (ρ:SRho):Rho:=ρ.filterMap fun p=>match p.2 with | .val X=>some (p.1,X) | .own l=>(match vs.contains p.1 with | true=>some (p.1,.lst l) | false=>none) | .un=>none
noncomputable def vq:V→Bool
 | .tup _=>false
 | .lst _=>false
 | _=>true
noncomputable def uV (ρ:SRho):Rho:=ρ.filterMap fun p=>match p.2 with | .val X=>(match vq X with | true=>some (p.1,X) | false=>none) | _=>none
noncomputable def freeze (vs:List Str) (ρ:SRho):SRho:=ρ.map fun p=>match p.2 with | .own l=>(match vs.contains p.1 with | true=>(p.1,.val (.lst l)) | false=>p) | _=>p
noncomputable def uZ (sc:Scope) (x:Str):Bool:=sc.names.lookup x == some .local || sc.names.lookup x == some .cell
noncomputable def men:Nat→Str→Expr→Bool
 | 0,_,_=>true
 | n + 1,x,e=>match e with
  | .Constant ..=>false
  | .Name y _=>x == y
  | .BinOp l _ r _=>men n x l || men n x r
  | .UnaryOp _ a _=>men n x a
  | .BoolOp _ es _=>es.any (men n x)
  | .IfExp t a b _=>men n x t || men n x a || men n x b
  | .Compare l _ rs _=>men n x l || rs.any (men n x)
  | .Subscript v i _=>men n x v || men n x i
  | .Slice a b c _=>a.any (men n x) || b.any (men n x) || c.any (men n x)
  | .List es _=>es.any (men n x)
  | .Tuple es _ _=>es.any (men n x)
  | .Call f as _ _=>men n x f || as.any (men n x)
  | .Attribute o _ _=>men n x o
  | .ListComp e gs _ _=>men n x e || gs.any fun g=>men n x g.iter || g.ifs.any (men n x)
  | _=>true
noncomputable def yZo (e:Expr):Option Str:=match ve e with
 | .name x _=>some x
 | _=>none
theorem zJq {e:Expr} {x:Str} (h:yZo e=some x):∃ p,e=.Name x p:=by
 unfold yZo at h
 generalize ve e=v at h
 induction v with
 | name x p=>(injection h with h;subst h);exact ⟨p,rfl⟩
 | _=>contradiction
noncomputable def vY:List Expr→Option (List Str)
 | []=>some []
 | e :: es=>(yZo e).bind fun x=>(vY es).map (x :: ·)
theorem kQ {e:Expr} {es:List Expr} {l:List Str} (h:vY (e :: es)=some l):∃ x p ns,e=.Name x p∧vY es=some ns∧l=x :: ns:=by
 apply bc;intro hQ;rcases Option.bind_eq_some_iff.mp h with ⟨x,hx,h⟩;rcases Option.map_eq_some_iff.mp h with ⟨ns,h1,rfl⟩;rcases zJq hx with ⟨p,rfl⟩;refine hQ ?_;clear hQ
 exact ⟨x,p,ns,rfl,h1,rfl⟩
noncomputable def sk:List Str→List V→SRho→Option SRho
 | [],[],ρ=>some ρ
 | x :: xs,X :: Xs,ρ=>sk xs Xs (setS x (.val X) ρ)
 | _,_,_=>none
noncomputable def tupV:V→Option (List V)
 | .tup l=>some l
 | _=>none
theorem zZe {X:V} {l:List V} (h:tupV X=some l):X=.tup l:=by
 cases X with
 | tup=>(injection h with h;subst h);rfl
 | _=>contradiction
noncomputable def intV:V→Option Int
 | .int i=>some i
 | _=>none
theorem zW0 {X:V} {i:Int} (h:intV X=some i):X=.int i:=by
 cases X with
 | int=>(injection h with h;subst h);rfl
 | _=>contradiction
noncomputable def lstV:V→Option (List V)
 | .lst l=>some l
 | _=>none
theorem zZf {X:V} {l:List V} (h:lstV X=some l):X=.lst l:=by
 cases X with
 | lst=>(injection h with h;subst h);rfl
 | _=>contradiction
noncomputable def two2:List Str→Option (Str×Str)
 | [x,y]=>some (x,y)
 | _=>none
theorem zW1 {l:List Str} {p:Str×Str} (h:two2 l=some p):l=[p.1,p.2]:=by
 cases l with
 | nil=>exact nn h
 | cons a l=>cases l with
  | nil=>exact nn h
  | cons b l=>cases l with
   | nil=>rw [← Option.some.inj h]
   | cons c l=>exact nn h
noncomputable def kZ (X:V):Option V:=(yZj X).bind fun p=>(lstV p.1).bind fun l=>ik l.isEmpty p.2
theorem zQa {X Y:V} (h:kZ X=some Y):X=.tup [.lst [],Y]:=by
 obtain ⟨p,h1,h⟩:=Option.bind_eq_some_iff.mp h
 obtain ⟨l,h2,h⟩:=Option.bind_eq_some_iff.mp h
 have h3:=vx h
 rw [dX h1,zZf h2,List.isEmpty_iff.mp h3.1,h3.2]
noncomputable def ownS:Option Slt→Option (List V)
 | some (.own l)=>some l
 | _=>none
theorem fZ {o:Option Slt} {l:List V} (h:ownS o=some l):o=some (.own l):=by
 cases o with
 | none=>exact nn h
 | some o=>cases o with
  | own l=>rw [Option.some.inj h]
  | _=>exact nn h
noncomputable def valS:Option Slt→Option V
 | some (.val X)=>some X
 | _=>none
theorem zW2 {o:Option Slt} {X:V} (h:valS o=some X):o=some (.val X):=by
 cases o with
 | none=>exact nn h
 | some o=>cases o with
  | val X=>rw [Option.some.inj h]
  | _=>exact nn h
noncomputable def tK (sc:Scope) (e:Expr) (X:V) (ρ:SRho):Option SRho:=match ve e with
 | .name x _=>ik (uZ sc x) (setS x (.val X) ρ)
 | .tuple ts _ _=>(tupV X).bind fun Xs=>(vY ts).bind fun xs=>(ik (xs.all (uZ sc) && decide xs.Nodup) ()).bind fun _=>sk xs Xs ρ
 | _=>none
noncomputable def zK (fg:List Str) (ρ:SRho):SRho:=ρ.map fun p=>(p.1,match fg.contains p.1 with | true=>Slt.un | false=>p.2)
noncomputable def forgetQ (fg:List Str) (ρ:SRho):SRho:=match fg with
 | []=>ρ
 | f :: fs=>zK (f :: fs) ρ
noncomputable def forS (body:SRho→(SRho→Prop)→(SRho→Prop)→Prop) (bind:V→SRho→Option SRho) (done brk:SRho→Prop):List V→SRho→Prop
 | [],ρ=>done ρ
 | X :: Xs,ρ=>match bind X ρ with
  | none=>False
  | some ρ'=>body ρ' (fun ρ''=>forS body bind done brk Xs ρ'') brk
noncomputable def yZp:Operator→V→V→Kp→Prop
 | .Add,.int a,.int b,K=>K (.int (a + b))
 | .Sub,.int a,.int b,K=>K (.int (a - b))
 | .BitXor,.int a,.int b,K=>K (.int (Builtin.bitXor a b))
 | _,_,_,_=>False
noncomputable def fX (c:Cx) (sc:Scope) (x:Str):Expr→Bool
 | .SetComp ..=>true
 | .DictComp ..=>true
 | .ListComp e g s p=>(c.ext sc (.ListComp e g s p)).isSome && sc.names.lookup x == some .local
 | _=>false
noncomputable def zQb:Expr→Bool
 | .ListComp ..=>false
 | .SetComp ..=>false
 | .DictComp ..=>false
 | _=>true
noncomputable def xx (sc:Scope) (ts:List Expr):List Str:=ts.filterMap fun
 | .Name nm pos=>if sc.names.lookup nm == some .local && pos.line == (ts.head?.map (·.pos.line)).getD 0 then some nm else none
 | _=>none
noncomputable def yZq (b1 b2 b3 b4 b5:Bool) (ns:List Str):Option (Option (List Str)) :=
 bif b1 then some none else bif b2 then some none else bif b3 then some none else bif b4 then some none else bif b5 then none else some (some ns)
noncomputable def kX (sc:Scope) (ts:List Expr) (e:Expr):Option (Option (List Str)):=match e with
 | .Tuple vs _ _=>yZq (!(ts.length == 2 || ts.length == 3) || vs.length != ts.length) (vs.any yY)
   ((xx sc ts).length != ts.length || (xx sc ts).eraseDups.length != (xx sc ts).length) (vs.all (foldedForSure 8)) (vs.all (constantsAlone 8)) (xx sc ts)
 | _=>some none
set_option genSizeOf false in
set_option genInjectivity false in
set_option genCtorIdx false in
inductive VS:Stmt→Type where
 | ret (e:Expr) (p:Pos):VS (.Return (some e) p)
 | brk (p:Pos):VS (.Break p)
 | ife (t:Expr) (b1 b2:List Stmt) (p:Pos):VS (.If t b1 b2 p)
 | asr (t:Expr) (m:Option Expr) (p:Pos):VS (.Assert t m p)
 | asg (x:Str) (q:Pos) (e:Expr) (p:Pos):VS (.Assign [.Name x q] e p)
 | tup (ts:List Expr) (k:Nat) (q:Pos) (e:Expr) (p:Pos):VS (.Assign [.Tuple ts k q] e p)
 | aug (x:Str) (q:Pos) (op:Operator) (e:Expr) (p:Pos):VS (.AugAssign (.Name x q) op e p)
 | loop (tg it:Expr) (b o:List Stmt) (p:Pos):VS (.For tg it b o p)
 | meth (x:Str) (q:Pos) (m:Str) (ap:Pos) (args:List Expr) (cp p:Pos):VS (.Expr (.Call (.Attribute (.Name x q) m ap) args [] cp) p)
 | del (x:Str) (q:Pos) (i:Expr) (sp p:Pos):VS (.Delete [.Subscript (.Name x q) i sp] p)
 | other (st:Stmt):VS st
noncomputable def vs:(st:Stmt)→VS st
 | .Return (some e) p=>.ret e p
 | .Break p=>.brk p
 | .If t b1 b2 p=>.ife t b1 b2 p
 | .Assert t m p=>.asr t m p
 | .Assign [.Name x q] e p=>.asg x q e p
 | .Assign [.Tuple ts k q] e p=>.tup ts k q e p
 | .AugAssign (.Name x q) op e p=>.aug x q op e p
 | .For tg it b o p=>.loop tg it b o p
 | .Expr (.Call (.Attribute (.Name x q) m ap) args [] cp) p=>.meth x q m ap args cp p
 | .Delete [.Subscript (.Name x q) i sp] p=>.del x q i sp p
 | st=>.other st
noncomputable def yZr (st:Stmt):List Stmt:=match vs st with
 | .loop _ _ b _ _=>b
 | _=>[]
noncomputable def xsB (c:Cx) (sc:Scope) (ow:List Str) (n:Nat) (r:List Stmt→SRho→(SRho→Prop)→(V→Prop)→(SRho→Prop)→Prop) (ρ:SRho) (Kx:SRho→Prop) (Kr:V→Prop) (Kb:SRho→Prop) {st:Stmt} (v:VS st):Prop:=match v with
 | .ret e _=>ew c sc n e (xy (owns ρ) ρ) Kr
 | .brk _=>Kb ρ
 | .ife t b1 b2 _=>tw c sc n t (xy (owns ρ) ρ) fun b=>match b with
  | true=>r b1 ρ Kx Kr Kb
  | false=>r b2 ρ Kx Kr Kb
 | .asr t _ _=>tw c sc n t (xy (owns ρ) ρ) fun b=>b=true∧Kx ρ
 | .asg x _ e _=>onT (uZ sc x && !fX c sc x e) (onB (ow.contains x)
   (onT (zQb e) (ew c sc n e (uV ρ) fun X=>onS (lstV X) fun l=>onT (l.all vq) (Kx (setS x (.own l) ρ))))
   (ew c sc n e (xy ((owns ρ).filter fun y=>men 40 y e) ρ) fun X=>onB (vq X || ((owns ρ).filter fun y=>men 40 y e).isEmpty) (Kx (setS x (.val X) ρ)) (Kx (setS x (.val X) (freeze ((owns ρ).filter fun y=>men 40 y e) ρ)))))
 | .tup ts k p e _=>onS (kX sc ts e) fun sw=>onB ((vY ts).any fun xs=>xs.any ow.contains)
   (ew c sc n e (uV ρ) fun X=>onS ((vY ts).bind two2) fun q=>onS (kZ X) fun Y=>match sw with
    | some _=>onT (ow.contains q.1 && uZ sc q.1 && uZ sc q.2 && !(q.1 == q.2) && vq Y && (owns ρ).isEmpty) (Kx (setS q.1 (.own []) (setS q.2 (.val Y) ρ)))
    | none=>onT (ow.contains q.1 && uZ sc q.1 && uZ sc q.2 && !(q.1 == q.2) && vq Y) (Kx (setS q.2 (.val Y) (setS q.1 (.own []) ρ))))
   (ew c sc n e (xy ((owns ρ).filter fun y=>men 40 y e) ρ) fun X=>onS (tK sc (.Tuple ts k p) X (freeze ((owns ρ).filter fun y=>men 40 y e) ρ)) Kx)
 | .aug x _ op e _=>onT (uZ sc x) (onS (valS (ρ.lookup x)) fun X0=>ew c sc n e (xy (owns ρ) ρ) fun X=>yZp op X0 X fun Y=>onT (vq Y) (Kx (setS x (.val Y) ρ)))
 | .loop tg it b o _=>itw c sc n it (xy ((owns ρ).filter fun y=>men 40 y it) ρ) fun items =>
   forS (fun ρ' kn kb=>r b ρ' kn Kr kb) (fun X ρ=>tK sc tg X (zK (c.fg tg) ρ)) (fun ρ'=>r o (zK (c.fg tg) ρ') Kx Kr Kb) Kx items (freeze ((owns ρ).filter fun y=>men 40 y it) ρ)
 | .meth x _ m ap args cp _=>onT (uZ sc x && !args.any yY && ap.endLine == cp.line) (onS (ownS (ρ.lookup x)) fun l=>match args with
   | []=>onT (decide (m="reverse")) (l.length≤sizeLine∧Kx (setS x (.own l.reverse) ρ))
   | e :: es=>onT (es.isEmpty && decide (m="append")) (ew c sc n e (xy ((owns ρ).filter fun y=>men 40 y e) ρ) fun X=>onT (vq X || ((owns ρ).filter fun y=>men 40 y e).isEmpty) (l.length≤sizeLine∧Kx (setS x (.own (l++[X])) ρ))))
 | .del x _ i _ _=>onT (uZ sc x) (onS (ownS (ρ.lookup x)) fun l=>ew c sc n i (uV ρ) fun X=>onS (intV X) fun j=>onS (seqIndex? j l.length) fun q =>
   Builtin.List.listFitsIndex j=true∧l.length≤sizeLine∧Kx (setS x (.own (l.eraseIdx q)) ρ))
 | .other _=>False
noncomputable def xsC (c:Cx) (sc:Scope) (ow:List Str) (n:Nat) (r:List Stmt→SRho→(SRho→Prop)→(V→Prop)→(SRho→Prop)→Prop) (st:Stmt) (ss:List Stmt) (Kn:SRho→Prop) (Kr:V→Prop) (Kb:SRho→Prop) (ρ:SRho):Prop :=
 onO (c.sx st) (fun f=>f ρ (fun ρ'=>r ss ρ' Kn Kr Kb) Kr) (xsB c sc ow n r ρ (fun ρ'=>r ss ρ' Kn Kr Kb) Kr Kb (vs st))
noncomputable def xs (c:Cx) (sc:Scope) (ow:List Str):Nat→List Stmt→SRho→(SRho→Prop)→(V→Prop)→(SRho→Prop)→Prop
 | 0,_,_,_,_,_=>False
 | n + 1,ss,ρ,Kn,Kr,Kb=>match ss with
  | []=>Kn ρ
  | st :: ss=>xsC c sc ow n (xs c sc ow n) st ss Kn Kr Kb (forgetQ (c.fs st) ρ)
end Mine
end
section
open PySem PySem.W PySem.Calls PyProof.Rows PySem.Builtin PySem.Builtin.Str
namespace Mine
noncomputable def offF (off₀:Addr→Prop) (ρ:SRho) (ad:Str→Addr):Addr→Prop:=fun a=>off₀ a∨∃ x l,ρ.lookup x=some (.own l)∧ad x=a
noncomputable def Has (sc:Scope) (env:Env) (m cm:Str→Option Value) (x:Str) (v:Value):Prop :=
 (sc.names.lookup x=some .local∧m x=some v)∨(sc.names.lookup x=some .cell∧(∃ c,env.cells.lookup x=some c)∧cm x=some v)
noncomputable def yVw (sc:Scope) (env:Env) (s₀:Shared) (off:Addr→Prop) (m cm:Str→Option Value) (ad:Str→Addr) (h:Heap) (x:Str):Slt→Prop
 | .un=>True
 | .val X=>∃ v,Has sc env m cm x v∧Rd h off X v
 | .own l=>s₀.heap.get? (ad x)=none∧Has sc env m cm x (.ref (ad x))∧∃ vs,h.PlainList (ad x) vs∧RdL h off l vs.toList
structure Fr (w:World) (k:Nat) (A:Around) (s₀:Shared) (sc:Scope) (env:Env) (off₀:Addr→Prop) (ρ:SRho) (m cm:Str→Option Value) (ad:Str→Addr) (s:Shared):Prop where
 room:Room k A
 en:EnvOk sc env
 call:InCallC s₀ env.locals m env.cells cm s
 glb:∀ a o,(tG w.params).get a=some o→a < s₀.heap.objs.size∧(Hid a=false→s₀.heap.get? a=some o)
 tab:zW s.heap
 old:∀ a,off₀ a→(∃ o,s₀.heap.get? a=some o)∨Hid a=true
 slots:∀ x sl,ρ.lookup x=some sl→yVw sc env s₀ (offF off₀ ρ ad) m cm ad s.heap x sl
 nd:(ρ.map (·.1)).Nodup
 inj:∀ x y l l',ρ.lookup x=some (.own l)→ρ.lookup y=some (.own l')→ad x=ad y→x=y
 hid:∀ b,Hid b=true→s₀.heap.get? b=none
section
variable {w:World} {A:Around} {E:Value→Shared→Prop} {off₀:Addr→Prop} {s₀ s:Shared} {k n:Nat} {sc:Scope} {env:Env} {ρ:SRho} {c:Cx} {m cm:Str→Option Value} {ad:Str→Addr}
theorem Fr.nh (F:Fr w k A s₀ sc env off₀ ρ m cm ad s) {b:Addr} {o:Obj} (e:s₀.heap.get? b=some o):Hid b=false:=by
 cases h:Hid b with
 | false=>rfl
 | true=>rw [F.hid b h] at e;contradiction
theorem yQ {h:Heap} (t:zW h) {b:Addr} (hb:Hid b=true):∃ ps,h.get? b=some (tabO ps):=by
 unfold Hid at hb
 rw [Bool.or_eq_true] at hb
 rcases hb with e | e
 ·have e:b=30:=by simpa using e
  subst e
  apply bc;intro hQ;rcases t.1 with ⟨ps,h1,_⟩;refine hQ ?_;clear hQ
  exact ⟨ps,h1⟩
 ·have e:b=37:=by simpa using e
  subst e
  apply bc;intro hQ;rcases t.2 with ⟨ps,h1,_⟩;refine hQ ?_;clear hQ
  exact ⟨ps,h1⟩
theorem yZs (P:Params) {a:Addr} {o:Obj} (e:(tG P).get a=some o) (h:Hid a=true):zWi o=true:=by
 unfold Hid at h
 rw [Bool.or_eq_true] at h
 rcases h with h | h
 ·have h:a=30:=by simpa using h
  subst h
  have:(tG P).get 30=some (oB30 P):=by rfl
  rw [this] at e;(injection e with e;subst e);rfl
 ·have h:a=37:=by simpa using h
  subst h
  have:(tG P).get 37=some (oB37 P):=by rfl
  rw [this] at e;(injection e with e;subst e);rfl
theorem Fr.glbs (F:Fr w k A s₀ sc env off₀ ρ m cm ad s):Glb w s.heap:=by
 refine ⟨fun a o e f=>?_,F.tab⟩
 cases h:Hid a with
 | false=>exact F.call.toInCall.keep a o ((F.glb a o e).2 h)
 | true =>
  rcases f with f | f
  ·rw [h] at f;contradiction
  ·rw [yZs _ e h] at f;contradiction
theorem zJr (F:Fr w k A s₀ sc env off₀ ρ m cm ad s) {h':Heap} {tk:Nat} (e:Keep s.heap h'):InCallC s₀ env.locals m env.cells cm { s with heap:=h',toks:=tk }:=by
 refine ⟨⟨?_,Ns.keep F.call.toInCall.ns e,fun b o e'=>e.obj b o (F.call.toInCall.keep b o e') (.inl (F.nh e')),F.call.toInCall.fresh⟩,fun kk cc hc=>IsCell.keep (F.call.cell kk cc hc) e,F.call.apart,F.call.above⟩
 obtain ⟨h₁,tk',es⟩:=F.call.toInCall.same
 exact ⟨h',tk,by rw [es]⟩
theorem Fr.keep (F:Fr w k A s₀ sc env off₀ ρ m cm ad s) {h':Heap} {tk:Nat} (e:Keep s.heap h'):Fr w k A s₀ sc env off₀ ρ m cm ad { s with heap:=h',toks:=tk }:=by
 refine ⟨F.room,F.en,zJr F e,F.glb,e.inv F.tab,F.old,fun x sl hx=>?_,F.nd,F.inj,F.hid⟩
 have:=F.slots x sl hx
 cases sl with
 | un=>trivial
 | val X=>apply bc;intro hQ;rcases this with ⟨v,h1,h2⟩;refine hQ ?_;clear hQ;exact ⟨v,h1,h2.keep e⟩
 | own l=>apply bc;intro hQ;rcases this with ⟨h0,h1,vs,h2,h3⟩;refine hQ ?_;clear hQ;exact ⟨h0,h1,vs,PlainList.keep h2 e,h3.keep e⟩
theorem Fr.ownOld (F:Fr w k A s₀ sc env off₀ ρ m cm ad s):Old (offF off₀ ρ ad) s.heap:=fun a ha=>by
 rcases ha with ha | ⟨x,l,hx,rfl⟩
 ·rcases F.old a ha with ⟨o,e⟩ | hh
  ·exact ⟨o,F.call.toInCall.keep a o e⟩
  ·obtain ⟨ps,e⟩:=yQ F.tab hh;exact ⟨_,e⟩
 ·apply bc;intro hQ;rcases F.slots x _ hx with ⟨_,_,vs,⟨nn,h2⟩,_⟩;refine hQ ?_;clear hQ;exact ⟨_,h2⟩
theorem Fr.apart (F:Fr w k A s₀ sc env off₀ ρ m cm ad s):(tG w.params).get env.locals=none:=by
 cases e:(tG w.params).get env.locals with
 | none=>rfl
 | some o=>exact absurd (F.glb _ _ e).1 (Nat.not_lt.mpr F.call.toInCall.fresh)
theorem fJ (F:Fr w k A s₀ sc env off₀ ρ m cm ad s) {x:Str} {v:Value} (h:Has sc env m cm x v):(sc.names.lookup x=some .local∧m x=some v)∨(xw sc x=true∧∃ c,env.cells.lookup x=some c∧s.heap.IsCell c (some v)):=by
 refine h.imp _root_.id fun ⟨h1,⟨c,h2⟩,h3⟩=>⟨by unfold xw;rw [h1];rfl,c,h2,?_⟩
 have:=F.call.cell x c h2
 rw [h3] at this;exact this
noncomputable def offV (off₀:Addr→Prop) (ρ:SRho) (ad:Str→Addr) (vs:List Str):Addr→Prop:=fun a=>off₀ a∨∃ x l,ρ.lookup x=some (.own l)∧ad x=a∧vs.contains x=false
theorem sZ {α β:Type} {f:Str×α→Option (Str×β)} (hf:∀ p q,f p=some q→q.1=p.1) {x:Str} {Y:β} {l:List (Str×α)} (h:(l.filterMap f).lookup x=some Y):∃ a,(x,a)∈l∧f (x,a)=some (x,Y):=by
 obtain ⟨p,h1,h2⟩:=List.mem_filterMap.mp (ez h)
 have e:x=p.1:=hf _ _ h2
 subst e
 exact ⟨p.2,h1,h2⟩
theorem wJ {α:Type} {x:Str} {a:α} {l:List (Str×α)} (nd:(l.map (·.1)).Nodup) (h:(x,a)∈l):l.lookup x=some a:=by
 induction l with
 | nil=>exact nm h
 | cons p r ih =>
  rw [List.map_cons,List.nodup_cons] at nd
  rcases List.mem_cons.mp h with h1 | h1
  ·subst h1;exact pZ
  ·exact (sJ fun e=>nd.1 (List.mem_map.mpr ⟨(x,a),h1,e⟩)).trans (ih nd.2 h1)
theorem yJ {α:Type} {x:Str} {a:α} {l:List (Str×α)} (h:l.lookup x=some a):(x,a)∈l:=ez h
theorem uz {vs:List Str} {a:Addr} (h:offV off₀ ρ ad vs a):offF off₀ ρ ad a:=h.imp _root_.id fun ⟨x,l,h1,h2,_⟩=>⟨x,l,h1,h2⟩
theorem Fr.ownRd (F:Fr w k A s₀ sc env off₀ ρ m cm ad s) {vs:List Str} {x:Str} {l:List V} (hx:ρ.lookup x=some (.own l)) (hv:vs.contains x=true):Rd s.heap (offV off₀ ρ ad vs) (.lst l) (.ref (ad x)):=by
 apply bc;intro hQ;rcases F.slots x _ hx with ⟨h0,h1,items,⟨nn,h2⟩,h3⟩;refine hQ ?_;clear hQ
 refine Rd.lstI (vs:=items) ?_ ⟨nn,h2⟩ (h3.move (Keep.refl _).seqs fun _ q=>uz q)
 rintro (ho | ⟨y,l',h4,h5,h6⟩)
 ·rcases F.old _ ho with ⟨o,e⟩ | hh
  ·rw [h0] at e;contradiction
  ·obtain ⟨ps,e⟩:=yQ F.tab hh
   rw [h2] at e;cases e
 ·have:=F.inj _ _ _ _ h4 hx h5
  subst this;rw [hv] at h6;contradiction
set_option tactic.hygienic true in
theorem Fr.at' (F:Fr w k A s₀ sc env off₀ ρ m cm ad s) (vs:List Str):At w k A sc env s (offV off₀ ρ ad vs) (xy vs ρ):=by
 refine ⟨F.room,F.en,F.glbs,fun a ha=>F.ownOld a (uz ha),⟨m,F.call.toInCall.ns,fun x X hX=>?_⟩,F.apart⟩
 apply bc;intro hQ;rcases sZ (fun p q e=>by
  obtain ⟨y,t⟩:=p
  dsimp only at e
  split at e
  ·(injection e with e;subst e);rfl
  ·split at e
   ·(injection e with e;subst e);rfl
   ·contradiction
  ·contradiction) hX with ⟨sl,h1,h2⟩;refine hQ ?_;clear hQ
 have hl:=wJ F.nd h1
 have so:=F.slots x sl hl
 dsimp only at h2
 split at h2
 ·cases h2
  obtain ⟨v,h3,h4⟩:=so
  exact ⟨v,h4.move (Keep.refl _).seqs fun _ q=>uz q,fJ F h3⟩
 ·rename_i l
  split at h2
  ·rename_i hc
   cases h2
   exact ⟨_,F.ownRd hl hc,fJ F so.2.1⟩
  ·contradiction
 ·contradiction
theorem sy {h h':Heap} {off off':Addr→Prop} {X:V} {v:Value} (hf:vq X=true) (r:Rd h off X v):Rd h' off' X v:=by
 cases X <;> first | (exact r) | contradiction
theorem pY {vs:List Str} {x:Str} {ρ:SRho}:(freeze vs ρ).lookup x=(ρ.lookup x).map fun sl=>match sl with | .own l=>(match vs.contains x with | true=>.val (.lst l) | false=>.own l) | t=>t :=
 zX6 (α:=Slt) (β:=Slt) (g:=fun x sl=>match sl with | .own l=>(match vs.contains x with | true=>.val (.lst l) | false=>.own l) | t=>t) (fun y t=>by
  cases t with
  | own l=>dsimp only;cases vs.contains y <;> rfl
  | _=>rfl) x ρ
set_option tactic.hygienic true in
theorem ry {vs:List Str} {x:Str} {l:List V} (h:(freeze vs ρ).lookup x=some (.own l)):ρ.lookup x=some (.own l)∧vs.contains x=false:=by
 rw [pY,Option.map_eq_some_iff] at h
 apply bc;intro hQ;rcases h with ⟨sl,h1,h2⟩;refine hQ ?_;clear hQ
 split at h2
 ·split at h2
  ·contradiction
  ·rename_i hc;(injection h2 with h2;subst h2);exact ⟨h1,hc⟩
 ·rename_i hn;exact absurd h2 (hn l)
theorem xX {vs:List Str} {a:Addr}:offF off₀ (freeze vs ρ) ad a→offV off₀ ρ ad vs a:=fun h=>h.imp _root_.id fun ⟨x,l,h1,h2⟩=>⟨x,l,(ry h1).1,h2,(ry h1).2⟩
set_option tactic.hygienic true in
theorem Fr.freeze (F:Fr w k A s₀ sc env off₀ ρ m cm ad s) (vs:List Str):Fr w k A s₀ sc env off₀ (freeze vs ρ) m cm ad s:=by
 refine ⟨F.room,F.en,F.call,F.glb,F.tab,F.old,fun x sl hx=>?_,?_,fun x y l l' h1 h2 e=>F.inj x y l l' (ry h1).1 (ry h2).1 e,F.hid⟩
 ·have hx':=hx
  rw [pY,Option.map_eq_some_iff] at hx
  apply bc;intro hQ;rcases hx with ⟨t,h1,h2⟩;refine hQ ?_;clear hQ
  have so:=F.slots x t h1
  have le:∀ a,offF off₀ (Mine.freeze vs ρ) ad a→offF off₀ ρ ad a:=fun a q=>uz (xX q)
  split at h2
  ·rename_i l
   split at h2
   ·rename_i hc
    subst h2
    exact ⟨_,so.2.1,(F.ownRd h1 hc).move (Keep.refl _).seqs fun _ q=>xX q⟩
   ·subst h2
    obtain ⟨h0,h3,items,h4,h5⟩:=so
    exact ⟨h0,h3,items,h4,h5.move (Keep.refl _).seqs le⟩
  ·subst h2
   cases t with
   | un=>trivial
   | val X=>apply bc;intro hQ;rcases so with ⟨v,h3,h4⟩;refine hQ ?_;clear hQ;exact ⟨v,h3,h4.move (Keep.refl _).seqs le⟩
   | own l=>rename_i hn;exact absurd rfl (hn l)
 ·have e:(Mine.freeze vs ρ).map (·.1)=ρ.map (·.1):=by
   unfold Mine.freeze
   rw [List.map_map]
   refine List.map_congr_left fun p _=>?_
   obtain ⟨y,t⟩:=p
   cases t with
   | own l=>dsimp only [Function.comp];cases vs.contains y <;> rfl
   | _=>rfl
  rw [e];exact F.nd
end
section
variable {w:World} {A:Around} {E:Value→Shared→Prop} {off₀:Addr→Prop} {s₀ s:Shared} {k n:Nat} {sc:Scope} {env:Env} {ρ:SRho} {c:Cx} {m cm:Str→Option Value} {ad:Str→Addr}
theorem fK {x:Str} (h:uZ sc x=true):sc.names.lookup x=some .local∨sc.names.lookup x=some .cell:=by
 unfold uZ at h;rw [Bool.or_eq_true] at h;simpa using h
structure Stored (s₀:Shared) (sc:Scope) (env:Env) (m cm:Str→Option Value) (x:Str) (v:Value) (s:Shared) (h':Heap) (tk:Nat) (m' cm':Str→Option Value) (B:Addr):Prop where
 but:∀ b o,b≠B→s.heap.get? b=some o→h'.get? b=some o
 noseq:∀ o,s.heap.get? B=some o→∀ vs n,o.data≠.seq vs n
 kindB:B=env.locals∨∃ v0,s.heap.IsCell B v0
 growB:∃ o,h'.get? B=some o
 call:InCallC s₀ env.locals m' env.cells cm' { s with heap:=h',toks:=tk }
 tab:zW s.heap→zW h'
 other:∀ y u,y≠x→Has sc env m cm y u→Has sc env m' cm' y u
 this:Has sc env m' cm' x v
theorem Fr.storeRaw (F:Fr w k A s₀ sc env off₀ ρ m cm ad s) {x:Str} {v:Value} {Q:Unit→Shared→Prop} (hx:uZ sc x=true)
  (q:∀ h' tk m' cm' B,Stored s₀ sc env m cm x v s h' tk m' cm' B→Q () { s with heap:=h',toks:=tk }):wpAny (model pw w) A (storeName env x v) Q E s:=by
 have hk:env.scope.kind=.function:=by rw [F.en.scope,F.en.kind]
 have X:=F.call
 rcases fK hx with hl | hl
 ·refine wpAny_storeName_local (by unfold Env.kindOf;rw [F.en.scope];exact hl) X.toInCall.ns (fun h' hn' hs'=>q h' (s.toks + 1) (fun y=>if y=x then some v else m y) cm env.locals ?_) (by rw [hk];rfl)
  refine ⟨fun b o hb e=>hs'.extBut b o hb e,fun o ho vs nn d=>?_,.inl rfl,(let ⟨o,_,_,e,_⟩:=hn';⟨o,e⟩),⟨⟨?_,hn',fun b o e=>?_,X.toInCall.fresh⟩,fun kk c hc=>?_,X.apart,X.above⟩,fun t=>t.but (Soft.ns X.toInCall.ns) fun b o hb e=>hs'.extBut b o hb e,fun y u hy hu=>hu.imp (fun ⟨h1,h2⟩=>⟨h1,by simp [hy,h2]⟩) _root_.id,.inl ⟨hl,by simp⟩⟩
  ·apply bc;intro hQ;rcases X.toInCall.ns with ⟨o',es,ep,e1,e2,_⟩;refine hQ ?_;clear hQ
   rw [ho] at e1;(injection e1 with e1;subst e1);rw [e2] at d;contradiction
  ·obtain ⟨h₁,tk,e⟩:=X.toInCall.same
   exact ⟨h',_,by rw [e]⟩
  ·exact hs'.extBut b o (Nat.ne_of_lt (Nat.lt_of_lt_of_le (Heap.lt_size e) X.toInCall.fresh)) (X.toInCall.keep b o e)
  ·exact (X.cell kk c hc).sameBut hs' (Nat.ne_of_gt (X.above kk c (mem_of_lookup hc)))
 ·obtain ⟨c,hc⟩:=F.en.cells x (by unfold xw;rw [hl];rfl)
  have hLc:=X.above x c (mem_of_lookup hc)
  refine wpAny_storeName_cell hk (by unfold Env.kindOf;rw [F.en.scope];exact hl) hc (X.cell x c hc) fun h' hc' hs'=>q h' s.toks m (fun y=>if y=x then some v else cm y) c ?_
  refine ⟨fun b o hb e=>hs'.extBut b o hb e,fun o ho vs nn d=>?_,(.inr ⟨_,X.cell x c hc⟩),(let ⟨o,e,_⟩:=hc';⟨o,e⟩),⟨⟨?_,X.toInCall.ns.sameBut hs' (Nat.ne_of_lt hLc),fun b o e=>?_,X.toInCall.fresh⟩,fun kk c' hk'=>?_,X.apart,X.above⟩,fun t=>t.but (Soft.cell (X.cell x c hc)) fun b o hb e=>hs'.extBut b o hb e,
   fun y u hy hu=>hu.imp _root_.id fun ⟨h1,h2,h3⟩=>⟨h1,h2,by simp [hy,h3]⟩,.inr ⟨hl,⟨c,hc⟩,by simp⟩⟩
  ·obtain ⟨o',e1,e2⟩:=X.cell x c hc
   rw [ho] at e1;(injection e1 with e1;subst e1);rw [e2] at d;contradiction
  ·obtain ⟨h₁,tk,e⟩:=X.toInCall.same
   exact ⟨h',_,by rw [e]⟩
  ·exact hs'.extBut b o (Nat.ne_of_lt (Nat.lt_trans (Nat.lt_of_lt_of_le (Heap.lt_size e) X.toInCall.fresh) hLc)) (X.toInCall.keep b o e)
  ·by_cases hkn:kk=x
   ·subst hkn
    rw [hc] at hk';(injection hk' with hk';subst hk')
    simpa using hc'
   ·have:=(X.cell kk c' hk').sameBut hs' fun e=>hkn (name_of_addr X.apart (mem_of_lookup hk') (e ▸ mem_of_lookup hc))
    simpa [hkn] using this
theorem Stored.seqs {x:Str} {v:Value} {h':Heap} {tk:Nat} {m' cm':Str→Option Value} {B:Addr} (S:Stored s₀ sc env m cm x v s h' tk m' cm' B) (off:Addr→Prop):Seqs off s.heap h':=fun a o e ⟨vs,nn,d⟩ _ =>
 S.but a o (by rintro rfl;exact S.noseq o e vs nn d) e
theorem Stored.plain {x:Str} {v:Value} {h':Heap} {tk:Nat} {m' cm':Str→Option Value} {B:Addr} (S:Stored s₀ sc env m cm x v s h' tk m' cm' B) {a:Addr} {vs:Array Value} (p:s.heap.PlainList a vs):h'.PlainList a vs:=by
 obtain ⟨nn,e⟩:=p
 exact ⟨nn,S.but a _ (by rintro rfl;exact S.noseq _ e _ _ rfl) e⟩
theorem zZ {x y:Str} {sl:Slt} {ρ:SRho}:(setS x sl ρ).lookup y=if y=x then some sl else ρ.lookup y:=by
 induction ρ with
 | nil =>
  by_cases h:y=x
  ·subst h;exact pZ.trans (if_pos rfl).symm
  ·exact (sJ h).trans (if_neg h).symm
 | cons p r ih =>
  obtain ⟨z,t⟩:=p
  unfold setS
  by_cases hz:x=z
  ·subst hz
   rw [beq_self_eq_true]
   dsimp only
   by_cases h:y=x
   ·subst h;rw [pZ,if_pos rfl]
   ·rw [sJ h,sJ h,if_neg h]
  ·rw [beq_eq_false_iff_ne.mpr hz]
   dsimp only
   by_cases h:y=z
   ·subst h;rw [pZ,pZ,if_neg (Ne.symm hz)]
   ·rw [sJ h,sJ h,ih]
theorem zJs {x:Str} {sl:Slt} {ρ:SRho}:∀ y,y∈(setS x sl ρ).map (·.1)→y=x∨y∈ρ.map (·.1):=by
 induction ρ with
 | nil=>exact fun y h=>.inl (List.mem_singleton.mp h)
 | cons p r ih =>
  intro y h
  obtain ⟨z,t⟩:=p
  unfold setS at h
  split at h
  ·exact .inr h
  ·exact (List.mem_cons.mp h).elim (fun h=>.inr (List.mem_cons.mpr (.inl h))) fun h=>(ih y h).imp _root_.id (List.mem_cons_of_mem _)
theorem xV {x:Str} {sl:Slt} {ρ:SRho} (h:(ρ.map (·.1)).Nodup):((setS x sl ρ).map (·.1)).Nodup:=by
 induction ρ with
 | nil=>exact List.nodup_cons.mpr ⟨fun h=>nm h,List.nodup_nil⟩
 | cons p r ih =>
  obtain ⟨z,t⟩:=p
  rw [List.map_cons,List.nodup_cons] at h
  unfold setS
  by_cases hz:x=z
  ·subst hz
   rw [beq_self_eq_true]
   exact List.nodup_cons.mpr h
  ·rw [beq_eq_false_iff_ne.mpr hz]
   exact List.nodup_cons.mpr ⟨fun q=>(zJs _ q).elim (fun q=>hz q.symm) h.1,ih h.2⟩
theorem Fr.setVal (F:Fr w k A s₀ sc env off₀ ρ m cm ad s) {x:Str} {X:V} {v:Value} {h':Heap} {tk:Nat} {m' cm':Str→Option Value} {B:Addr} (r:Rd s.heap (offF off₀ ρ ad) X v) (S:Stored s₀ sc env m cm x v s h' tk m' cm' B) :
  Fr w k A s₀ sc env off₀ (setS x (.val X) ρ) m' cm' ad { s with heap:=h',toks:=tk }:=by
 have le:∀ a,offF off₀ (setS x (.val X) ρ) ad a→offF off₀ ρ ad a:=fun a q=>q.imp _root_.id fun ⟨y,l,h1,h2⟩=>by
  rw [zZ] at h1
  split at h1
  ·cases h1
  ·exact ⟨y,l,h1,h2⟩
 refine ⟨F.room,F.en,S.call,F.glb,S.tab F.tab,F.old,fun y sl hy=>?_,xV F.nd,fun y z l l' h1 h2 e=>?_,F.hid⟩
 ·rw [zZ] at hy
  split at hy
  ·(injection hy with hy;subst hy);subst y;exact ⟨v,S.this,r.move (S.seqs _) le⟩
  ·rename_i hne
   have so:=F.slots y sl hy
   cases sl with
   | un=>trivial
   | val Y=>apply bc;intro hQ;rcases so with ⟨u,h3,h4⟩;refine hQ ?_;clear hQ;exact ⟨u,S.other y u hne h3,h4.move (S.seqs _) le⟩
   | own l=>apply bc;intro hQ;rcases so with ⟨h0,h3,items,h4,h5⟩;refine hQ ?_;clear hQ;exact ⟨h0,S.other y _ hne h3,items,S.plain h4,h5.move (S.seqs _) le⟩
 ·rw [zZ] at h1 h2
  split at h1
  ·cases h1
  ·split at h2
   ·cases h2
   ·exact F.inj y z l l' h1 h2 e
theorem Fr.setOwn (F:Fr w k A s₀ sc env off₀ ρ m cm ad s) {x:Str} {l:List V} {a:Addr} {items:Array Value} {h':Heap} {tk:Nat} {m' cm':Str→Option Value} {B:Addr} (hf:l.all vq=true) (hp:s.heap.PlainList a items) (hr:RdL s.heap (fun _=>False) l items.toList)
  (h0:s₀.heap.get? a=none) (hne:∀ y l',ρ.lookup y=some (.own l')→ad y≠a) (hno:∀ y Y u,ρ.lookup y=some (.val Y)→Has sc env m cm y u→Rd s.heap (offF off₀ ρ ad) Y u→Rd s.heap (fun b=>offF off₀ ρ ad b∨b=a) Y u)
  (hno':∀ y l' (vs:List Value),ρ.lookup y=some (.own l')→RdL s.heap (offF off₀ ρ ad) l' vs→RdL s.heap (fun b=>offF off₀ ρ ad b∨b=a) l' vs)
  (S:Stored s₀ sc env m cm x (.ref a) s h' tk m' cm' B) :
  Fr w k A s₀ sc env off₀ (setS x (.own l) ρ) m' cm' (fun y=>if y=x then a else ad y) { s with heap:=h',toks:=tk }:=by
 have le:∀ b,offF off₀ (setS x (.own l) ρ) (fun y=>if y=x then a else ad y) b→offF off₀ ρ ad b∨b=a:=fun b q=>by
  rcases q with q | ⟨y,l',h1,h2⟩
  ·exact .inl (.inl q)
  ·dsimp only at h2
   rw [zZ] at h1
   split at h1
   ·rename_i hy;rw [if_pos hy] at h2;exact .inr h2.symm
   ·rename_i hy;rw [if_neg hy] at h2;exact .inl (.inr ⟨y,l',h1,h2⟩)
 have flatL:∀ {l:List V} {vs:List Value} {h h':Heap} {o o':Addr→Prop},l.all vq=true→RdL h o l vs→RdL h' o' l vs:=by
  intro l
  induction l with
  | nil=>intro vs h h' o o' _ r;exact r
  | cons Y l ih =>
   intro vs h h' o o' hf r
   rw [List.all_cons,Bool.and_eq_true] at hf
   apply bc;intro hQ;rcases r with ⟨v,r',e1,e2,e3⟩;refine hQ ?_;clear hQ
   exact ⟨v,r',e1,sy hf.1 e2,ih hf.2 e3⟩
 refine ⟨F.room,F.en,S.call,F.glb,S.tab F.tab,F.old,fun y sl hy=>?_,xV F.nd,fun y z l1 l2 h1 h2 e=>?_,F.hid⟩
 ·rw [zZ] at hy
  split at hy
  ·rename_i hyx
   (injection hy with hy;subst hy);subst hyx
   refine ⟨by simpa using h0,by simpa using S.this,items,by simpa using S.plain hp,flatL hf hr⟩
  ·rename_i hyx
   have so:=F.slots y sl hy
   cases sl with
   | un=>trivial
   | val Y=>apply bc;intro hQ;rcases so with ⟨u,h3,h4⟩;refine hQ ?_;clear hQ;exact ⟨u,S.other y u hyx h3,(hno y Y u hy h3 h4).move (S.seqs _) le⟩
   | own l' =>
    apply bc;intro hQ;rcases so with ⟨g0,h3,items',h4,h5⟩;refine hQ ?_;clear hQ
    refine ⟨by simpa [hyx] using g0,by simpa [hyx] using S.other y _ hyx h3,items',by simpa [hyx] using S.plain h4,(hno' y l' _ hy h5).move (S.seqs _) le⟩
 ·rw [zZ] at h1 h2
  by_cases hy:y=x
  ·by_cases hz:z=x
   ·rw [hy,hz]
   ·rw [if_pos hy,if_neg hz] at e
    rw [if_neg hz] at h2
    exact absurd e.symm (hne z l2 h2)
  ·by_cases hz:z=x
   ·rw [if_neg hy,if_pos hz] at e
    rw [if_neg hy] at h1
    exact absurd e (hne y l1 h1)
   ·rw [if_neg hy,if_neg hz] at e
    rw [if_neg hy] at h1
    rw [if_neg hz] at h2
    exact F.inj y z l1 l2 h1 h2 e
structure Step (off:Addr→Prop) (h:Heap) (off':Addr→Prop) (h':Heap):Prop where
 tame:∀ I o,h.get? I=some o→Tame o→h'.get? I=some o
 seqs:Seqs off h h'
 offs:∀ a,off' a→off a∨h.get? a=none
 grow:∀ a o,h.get? a=some o→∃ o',h'.get? a=some o'
theorem Step.keep {off off':Addr→Prop} {h h':Heap} (e:Keep h h') (le:∀ a,off' a→off a):Step off h off' h':=⟨fun I o ho t=>e.obj I o ho t.firm,e.seqs,fun a q=>.inl (le a q),fun a o ho=>e.live a o ho⟩
theorem Step.trans {o1 o2 o3:Addr→Prop} {h1 h2 h3:Heap} (a:Step o1 h1 o2 h2) (b:Step o2 h2 o3 h3):Step o1 h1 o3 h3:=by
 refine ⟨fun I o ho t=>b.tame I o (a.tame I o ho t) t,fun x o ho sq no=>?_,fun x q=>?_,fun x o ho=>?_⟩
 ·have e:=a.seqs x o ho sq no
  exact b.seqs x o e sq fun q=>(a.offs x q).elim no fun z=>by rw [ho] at z;contradiction
 ·rcases b.offs x q with q | q
  ·exact a.offs x q
  ·refine .inr ?_
   cases e:h1.get? x with
   | none=>rfl
   | some o=>obtain ⟨o',e'⟩:=a.grow x o e;rw [q] at e';contradiction
 ·obtain ⟨o',e⟩:=a.grow x o ho
  exact b.grow x o' e
theorem Step.stored (F:Fr w k A s₀ sc env off₀ ρ m cm ad s) {x:Str} {v:Value} {h':Heap} {tk:Nat} {m' cm':Str→Option Value} {B:Addr} (S:Stored s₀ sc env m cm x v s h' tk m' cm' B) {off off':Addr→Prop} (le:∀ a,off' a→off a):Step off s.heap off' h':=by
 refine ⟨fun I o ho t=>S.but I o ?_ ho,S.seqs _,fun a q=>.inl (le a q),fun a o ho=>?_⟩
 ·obtain ⟨_,_,_,e3,_⟩:=t
  rintro rfl
  rcases S.kindB with rfl | ⟨v0,o2,e1,e2⟩
  ·obtain ⟨o2,es,ep,e1,e2,_⟩:=F.call.toInCall.ns
   rw [ho] at e1;(injection e1 with e1;subst e1);rw [e2] at e3;contradiction
  ·rw [ho] at e1;(injection e1 with e1;subst e1);rw [e2] at e3;contradiction
 ·by_cases hB:a=B
  ·rw [hB];exact S.growB
  ·exact ⟨o,S.but a o hB ho⟩
end
section
variable {w:World} {A:Around} {E:Value→Shared→Prop} {off₀:Addr→Prop} {s₀ s:Shared} {k n:Nat} {sc:Scope} {env:Env} {ρ:SRho} {c:Cx} {m cm:Str→Option Value} {ad:Str→Addr}
theorem Fr.other (F:Fr w k A s₀ sc env off₀ ρ m cm ad s) {C:Addr} {mC:Str→Option Value} {h':Heap} (hn:s.heap.Ns C mC) (hne:C≠env.locals) (h0:s₀.heap.get? C=none) (sb:Heap.SameBut C s.heap h') :
  Fr w k A s₀ sc env off₀ ρ m cm ad { s with heap:=h' }:=by
 have kb:∀ b o,b≠C→s.heap.get? b=some o→h'.get? b=some o:=fun b o hb e=>sb.extBut b o hb e
 have sq:∀ off,Seqs off s.heap h':=fun off=>uQ hn kb
 refine ⟨F.room,F.en,⟨⟨?_,F.call.toInCall.ns.at' fun o e=>kb _ o hne.symm e,fun b o e=>kb b o (by rintro rfl;rw [h0] at e;contradiction) (F.call.toInCall.keep b o e),F.call.toInCall.fresh⟩,fun kk cc hc=>?_,F.call.apart,F.call.above⟩,
  F.glb,F.tab.but (Soft.ns hn) kb,F.old,fun x sl hx=>?_,F.nd,F.inj,F.hid⟩
 ·obtain ⟨h₁,tk,e⟩:=F.call.toInCall.same
  exact ⟨h',tk,by rw [e]⟩
 ·have hi:=F.call.cell kk cc hc
  obtain ⟨o,h1,h2⟩:=id hi
  exact ⟨o,kb cc o (ak hn hi) h1,h2⟩
 ·have so:=F.slots x sl hx
  cases sl with
  | un=>trivial
  | val Y=>apply bc;intro hQ;rcases so with ⟨u,h3,h4⟩;refine hQ ?_;clear hQ;exact ⟨u,h3,h4.move (sq _) fun _ q=>q⟩
  | own l =>
   apply bc;intro hQ;rcases so with ⟨g0,h3,items,⟨nn,h4⟩,h5⟩;refine hQ ?_;clear hQ
   refine ⟨g0,h3,items,⟨nn,kb _ _ ?_ h4⟩,h5.move (sq _) fun _ q=>q⟩
   rintro rfl
   obtain ⟨o,es,ep,e1,e2,_⟩:=hn
   rw [h4] at e1;(injection e1 with e1;subst e1);contradiction
noncomputable def qW (vs:List Str) (X:V) (ρ:SRho):SRho:=match vq X || vs.isEmpty with | true=>ρ | false=>Mine.freeze vs ρ
theorem Fr.none0 (F:Fr w k A s₀ sc env off₀ ρ m cm ad s) {a:Addr} (h:s.heap.get? a=none):s₀.heap.get? a=none:=Option.eq_none_iff_forall_ne_some.mpr fun o e=>by
 rw [F.call.toInCall.keep a o e] at h;contradiction
theorem dq {x:Str} {a:Addr} (q:offF off₀ (setS x .un ρ) ad a):offF off₀ ρ ad a:=q.imp _root_.id fun ⟨y,l,h1,h2⟩=>by
 rw [zZ] at h1
 split at h1
 ·cases h1
 ·exact ⟨y,l,h1,h2⟩
theorem zv {x:Str} {X:V} {a:Addr} (q:offF off₀ (setS x (.val X) ρ) ad a):offF off₀ ρ ad a:=q.imp _root_.id fun ⟨y,l,h1,h2⟩=>by
 rw [zZ] at h1
 split at h1
 ·cases h1
 ·exact ⟨y,l,h1,h2⟩
theorem dz {vs:List Str} {X:V} {a:Addr} (q:offF off₀ (qW vs X ρ) ad a):offF off₀ ρ ad a:=by
 unfold qW at q
 split at q
 ·exact q
 ·exact uz (xX q)
theorem Step.trans_new {o1 o2:Addr→Prop} {h1 h2 h3:Heap} {C:Addr} {mC:Str→Option Value} (a:Step o1 h1 o2 h2) (hC:h1.get? C=none) (hn:h2.Ns C mC) (sb:Heap.SameBut C h2 h3):Step o1 h1 o2 h3:=by
 have kb:∀ b o,b≠C→h2.get? b=some o→h3.get? b=some o:=fun b o hb e=>sb.extBut b o hb e
 refine ⟨fun I o ho t=>kb I o (by rintro rfl;rw [hC] at ho;contradiction) (a.tame I o ho t),fun x o ho sq no=>kb x o (by rintro rfl;rw [hC] at ho;contradiction) (a.seqs x o ho sq no),a.offs,fun x o ho=>?_⟩
 obtain ⟨o',e⟩:=a.grow x o ho
 exact ⟨o',kb x o' (by rintro rfl;rw [hC] at ho;contradiction) e⟩
theorem Fr.held (F:Fr w k A s₀ sc env off₀ ρ m cm ad s) {vs:List Str} {X:V} {v:Value} (r:Rd s.heap (offV off₀ ρ ad vs) X v) :
  Fr w k A s₀ sc env off₀ (qW vs X ρ) m cm ad s∧Rd s.heap (offF off₀ (qW vs X ρ) ad) X v:=by
 unfold qW
 split
 ·rename_i h
  rw [Bool.or_eq_true] at h
  refine ⟨F,?_⟩
  rcases h with h | h
  ·exact sy h r
  ·refine r.move (Keep.refl _).seqs fun a q=>q.imp _root_.id fun ⟨x,l,h1,h2⟩=>⟨x,l,h1,h2,?_⟩
   have:vs=[]:=by simpa using h
   rw [this];rfl
 ·exact ⟨F.freeze vs,r.move (Keep.refl _).seqs fun a q=>xX q⟩
theorem zJt (S:∀ n,Snd w k c n) (F:Fr w k A s₀ sc env off₀ ρ m cm ad s) {vs:List Str} {x:Str} {p pos:Pos} {e:Expr} {K:Kp} {Q:Flow→Shared→Prop} (hx:uZ sc x=true) (hr:fX c sc x e=false) (kk:ew c sc n e (xy vs ρ) K)
  (q:∀ X m' cm' s',K X→Fr w k A s₀ sc env off₀ (setS x (.val X) (qW vs X ρ)) m' cm' ad s'→Step (offF off₀ ρ ad) s.heap (offF off₀ (setS x (.val X) (qW vs X ρ)) ad) s'.heap→Q .next s'):wpAny (model pw w) A (exec (.Assign [.Name x p] e pos) env) Q E s:=by
 have plain:swapsWith e (some (.Name x p)) pos.line env=pure false→wpAny (model pw w) A (exec (.Assign [.Name x p] e pos) env) Q E s:=fun hs=>by
  refine wpAny_Assign_Name ((S n).e (F.at' vs) kk fun X v h' tk kx e1 r1=>?_) hs
  obtain ⟨F1,r2⟩:=(F.keep (tk:=tk) e1).held r1
  exact F1.storeRaw hx fun h2 tk2 m' cm' B st=>q X m' cm' _ kx (F1.setVal r2 st) ((Step.keep e1 fun a z=>dz z).trans (Step.stored F1 st fun a z=>zv z))
 cases e with
 | ListComp elt gens sc' cpos =>
  have sw:∃ b,swapsWith (.ListComp elt gens sc' cpos) (some (.Name x p)) pos.line env=pure b∧(b=true→sc.names.lookup x=some .local):=by
   refine ⟨_,rfl,fun h=>?_⟩
   simp only [Bool.and_eq_true] at h
   have:=h.1.1.2
   unfold Env.kindOf at this
   rw [F.en.scope] at this
   simpa using this
  apply bc;intro hQ;rcases sw with ⟨b,hb,hl⟩;refine hQ ?_;clear hQ
  cases b with
  | false=>exact plain hb
  | true =>
   have hl':=hl rfl
   cases n with
   | zero=>exact kk.elim
   | succ n =>
    have hext:c.ext sc (.ListComp elt gens sc' cpos)=none:=by
     have hr':((c.ext sc (.ListComp elt gens sc' cpos)).isSome && sc.names.lookup x == some .local)=false:=hr
     rw [hl',beq_self_eq_true,Bool.and_true] at hr'
     simpa using hr'
    rcases onO.inv kk with ⟨f,hf,_⟩ | ⟨-,kk⟩
    ·rw [hext] at hf;contradiction
    generalize he:Expr.ListComp elt gens sc' cpos=e' at kk
    generalize ve e'=v at kk
    induction v with
    | lc elt' tg it ifs gs sc2 p2 =>
     cases he
     obtain ⟨hb2,kk'⟩:=onT.inv kk
     rw [Bool.and_eq_true] at hb2
     refine zWz (S n) (F.at' vs) hb2.1 (fun g hg=>by have:=List.all_eq_true.mp hb2.2 g hg;simpa using this) hb kk' fun acc D C h' tk mC kx hC hn ke r=>?_
     obtain ⟨F1,r2⟩:=(F.keep (tk:=tk) ke).held r
     have hCL:C≠env.locals:=by
      rintro rfl
      obtain ⟨o,_,_,ho,_⟩:=F.call.toInCall.ns
      rw [hC] at ho;contradiction
     refine F1.storeRaw hx fun h2 tk2 m' cm' B st=>?_
     have hBC:C≠B:=by
      rcases st.kindB with rfl | ⟨v0,hv0⟩
      ·exact hCL
      ·exact (ak hn hv0).symm
     have hn2:h2.Ns C mC:=hn.at' fun o e=>st.but C o hBC e
     refine ⟨mC,hn2,fun h3 sb=>q (.lst acc) m' cm' _ kx ((F1.setVal r2 st).other hn2 hCL ?_ sb) (((Step.keep ke fun a z=>dz z).trans (Step.stored F1 st fun a z=>zv z)).trans_new hC hn2 sb)⟩
     cases e:s₀.heap.get? C with
     | none=>rfl
     | some o=>have:=F.call.toInCall.keep C o e;rw [hC] at this;contradiction
    | _=>first | exact kk.elim | contradiction
 | SetComp=>contradiction
 | DictComp=>contradiction
 | _=>exact plain rfl
end
inductive Stores (M:Model) (env:Env):List Str→List (Value→Sem Unit)→Prop
 | nil:Stores M env [] []
 | cons {x:Str} {f:Value→Sem Unit} {xs fs}:(∀ {A:Around} {Q:Unit→Shared→Prop} {E:Value→Shared→Prop} {s:Shared} {v:Value},wpAny M A (storeName env x v) Q E s→wpAny M A (f v) Q E s)→Stores M env xs fs→Stores M env (x :: xs) (f :: fs)
section
variable {w:World} {A:Around} {E:Value→Shared→Prop} {off₀:Addr→Prop} {s₀ s:Shared} {k n:Nat} {sc:Scope} {env:Env} {ρ:SRho} {c:Cx} {m cm:Str→Option Value} {ad:Str→Addr}
theorem Stores.two {M:Model} {env:Env} {x y:Str} {fs:List (Value→Sem Unit)} (st:Stores M env [x,y] fs):∃ f g,fs=[f,g]∧(∀ {A:Around} {Q:Unit→Shared→Prop} {E:Value→Shared→Prop} {s:Shared} {v:Value},wpAny M A (storeName env x v) Q E s→wpAny M A (f v) Q E s) ∧
  (∀ {A:Around} {Q:Unit→Shared→Prop} {E:Value→Shared→Prop} {s:Shared} {v:Value},wpAny M A (storeName env y v) Q E s→wpAny M A (g v) Q E s):=by
 cases st with
 | cons h1 st=>cases st with
  | cons h2 st=>cases st;exact ⟨_,_,rfl,h1,h2⟩
theorem kJ {fs:List (Value→Sem Unit)} {names:List Str} (st:Stores (model pw w) env names fs):∀ {s:Shared} {ρ ρ':SRho} {m cm:Str→Option Value} {Xs:List V} {vals:List Value} {Q:Unit→Shared→Prop},
  (∀ x∈names,uZ sc x=true)→RdL s.heap (offF off₀ ρ ad) Xs vals→sk names Xs ρ=some ρ'→Fr w k A s₀ sc env off₀ ρ m cm ad s →
  (∀ m' cm' s',Fr w k A s₀ sc env off₀ ρ' m' cm' ad s'→Step (offF off₀ ρ ad) s.heap (offF off₀ ρ' ad) s'.heap→Q () s')→wpAny (model pw w) A (assignInOrder fs vals) Q E s:=by
 induction st with
 | nil =>
  intro s ρ ρ' m cm Xs vals Q _ r e F q
  cases Xs with
  | nil=>(injection e with e;subst e);exact assignInOrder_nil (q m cm s F (Step.keep (Keep.refl _) fun _ z=>z))
  | cons _ _=>contradiction
 | cons hf _ ih =>
  intro s ρ ρ' m cm Xs vals Q hv r e F q
  cases Xs with
  | nil=>contradiction
  | cons X Xs =>
   obtain ⟨v,vs,rfl,r1,r2⟩:=r
   refine assignInOrder_cons (hf (F.storeRaw (hv _ List.mem_cons_self) fun h' tk m' cm' B st=>?_))
   exact ih (fun x hx=>hv x (List.mem_cons_of_mem _ hx)) (r2.move (st.seqs _) fun a q=>zv q) e (F.setVal r1 st) fun m2 cm2 s2 F2 S2=>q m2 cm2 s2 F2 ((Step.stored F st fun a z=>zv z).trans S2)
theorem pq {ts:List Expr}:∀ {names:List Str},vY ts=some names→Stores (model pw w) env names ((assignEach ts env).map (·.2))∧(assignEach ts env).length=names.length∧(assignEach ts env).findIdx? (·.1)=none:=by
 induction ts with
 | nil=>intro names h;(injection h with h;subst h);exact ⟨.nil,rfl,rfl⟩
 | cons e es ih =>
  intro names h
  apply bc;intro hQ;rcases kQ h with ⟨x,p,ns,rfl,h1,rfl⟩;rcases ih h1 with ⟨g1,g2,g3⟩;refine hQ ?_;clear hQ
  refine ⟨.cons (fun h=>wpAny_assign_Name h) g1,congrArg (· + 1) g2,?_⟩
  show List.findIdx? (·.1) ((false,assign (.Name x p) env) :: assignEach es env)=none
  rw [List.findIdx?_cons,g3]
  rfl
theorem vz {names:List Str}:∀ {Xs:List V} {ρ ρ':SRho},sk names Xs ρ=some ρ'→names.length=Xs.length:=by
 induction names with
 | nil=>intro Xs ρ ρ' h;cases Xs with
  | nil=>rfl
  | cons=>contradiction
 | cons x xs ih=>intro Xs ρ ρ' h;cases Xs with
  | nil=>contradiction
  | cons X Xs=>exact congrArg (· + 1) (ih h)
theorem fV {tg:Expr} {X:V} {v:Value} {ρ':SRho} {Q:Unit→Shared→Prop} (F:Fr w k A s₀ sc env off₀ ρ m cm ad s) (hb:tK sc tg X ρ=some ρ') (r:Rd s.heap (offF off₀ ρ ad) X v)
  (q:∀ m' cm' s',Fr w k A s₀ sc env off₀ ρ' m' cm' ad s'→Step (offF off₀ ρ ad) s.heap (offF off₀ ρ' ad) s'.heap→Q () s'):wpAny (model pw w) A (assign tg env v) Q E s:=by
 unfold tK at hb
 generalize ve tg=v at hb
 induction v with
 | name x p =>
  apply bc;intro hQ;rcases vx hb with ⟨hv,rfl⟩;refine hQ ?_;clear hQ
  exact wpAny_assign_Name (F.storeRaw hv fun h' tk m' cm' B st=>q m' cm' _ (F.setVal r st) (Step.stored F st fun a z=>zv z))
 | tuple ts k' p =>
  apply bc;intro hQ;rcases Option.bind_eq_some_iff.mp hb with ⟨Xs,hX,hb1⟩;refine hQ ?_;clear hQ
  cases zZe hX
  apply bc;intro hQ;rcases Option.bind_eq_some_iff.mp hb1 with ⟨names,hn,hb2⟩;rcases Option.bind_eq_some_iff.mp hb2 with ⟨_,hc,hb⟩;refine hQ ?_;clear hQ
  have hc:=(vx hc).1
  rw [Bool.and_eq_true,List.all_eq_true] at hc
  apply bc;intro hQ;rcases r.tup_inv with ⟨t,vs,rfl,h6,h7,h8⟩;rcases pq (w:=w) (env:=env) hn with ⟨g1,g2,g3⟩;refine hQ ?_;clear hQ
  have hl:=h8.length
  rw [Array.length_toList] at hl
  refine wpAny_assign_Tuple F.room.hd h7 (by rw [g2,hl];exact vz hb) g3 fun h' he=>?_
  have kp:Keep s.heap h':=.of fun b o e=>he b o (Nat.ne_of_lt (Heap.lt_size e)) e
  exact kJ g1 hc.1 (h8.keep kp) hb (F.keep (tk:=s.toks) kp) fun m2 cm2 s2 F2 S2=>q m2 cm2 s2 F2 ((Step.keep kp fun _ z=>z).trans S2)
 | _=>contradiction
theorem Fr.setOwnIn (F:Fr w k A s₀ sc env off₀ ρ m cm ad s) {x:Str} {l l':List V} {h':Heap} {vs':Array Value} (hx:ρ.lookup x=some (.own l)) (hp:h'.PlainList (ad x) vs') (sb:Heap.SameBut (ad x) s.heap h')
  (hr:RdL s.heap (offF off₀ ρ ad) l' vs'.toList):Fr w k A s₀ sc env off₀ (setS x (.own l') ρ) m cm ad { s with heap:=h' }:=by
 have kb:∀ b o,b≠ad x→s.heap.get? b=some o→h'.get? b=some o:=fun b o hb e=>sb.extBut b o hb e
 have off_eq:∀ a,offF off₀ (setS x (.own l') ρ) ad a→offF off₀ ρ ad a:=fun a q=>q.imp _root_.id fun ⟨y,l1,h1,h2⟩=>by
  rw [zZ] at h1
  split at h1
  ·rename_i hy;subst hy;exact ⟨y,l,hx,h2⟩
  ·exact ⟨y,l1,h1,h2⟩
 have sq:Seqs (offF off₀ ρ ad) s.heap h':=fun a o e _ no=>kb a o (fun e=>no (.inr ⟨x,l,hx,e.symm⟩)) e
 apply bc;intro hQ;rcases F.slots x _ hx with ⟨g0,g1,items,⟨nn,g2⟩,g3⟩;refine hQ ?_;clear hQ
 have nl:ad x≠env.locals:=by
  intro e
  apply bc;intro hQ;rcases F.call.toInCall.ns with ⟨o,es,ep,e1,e2,_⟩;refine hQ ?_;clear hQ
  rw [← e,g2] at e1;(injection e1 with e1;subst e1);contradiction
 refine ⟨F.room,F.en,⟨⟨?_,F.call.toInCall.ns.at' fun o e=>kb _ o nl.symm e,fun b o e=>kb b o (by rintro rfl;rw [g0] at e;contradiction) (F.call.toInCall.keep b o e),F.call.toInCall.fresh⟩,fun kk cc hc=>?_,F.call.apart,F.call.above⟩,
  F.glb,F.tab.but (Soft.plain ⟨nn,g2⟩) kb,F.old,fun y sl hy=>?_,xV F.nd,fun y z l1 l2 h1 h2 e=>?_,F.hid⟩
 ·obtain ⟨h₁,tk,e⟩:=F.call.toInCall.same
  exact ⟨h',tk,by rw [e]⟩
 ·apply bc;intro hQ;rcases F.call.cell kk cc hc with ⟨o,h1,h2⟩;refine hQ ?_;clear hQ
  refine ⟨o,kb cc o ?_ h1,h2⟩
  rintro rfl
  rw [g2] at h1;(injection h1 with h1;subst h1);contradiction
 ·rw [zZ] at hy
  split at hy
  ·rename_i hyx
   (injection hy with hy;subst hy);subst hyx
   exact ⟨g0,g1,vs',hp,hr.move sq off_eq⟩
  ·rename_i hyx
   have so:=F.slots y sl hy
   cases sl with
   | un=>trivial
   | val Y=>apply bc;intro hQ;rcases so with ⟨u,h3,h4⟩;refine hQ ?_;clear hQ;exact ⟨u,h3,h4.move sq off_eq⟩
   | own l1 =>
    apply bc;intro hQ;rcases so with ⟨q0,h3,items',⟨n2,h4⟩,h5⟩;refine hQ ?_;clear hQ
    exact ⟨q0,h3,items',⟨n2,kb _ _ (fun e=>hyx (F.inj y x _ _ hy hx e)) h4⟩,h5.move sq off_eq⟩
 ·rw [zZ] at h1 h2
  have o1:∃ l,ρ.lookup y=some (.own l):=by
   split at h1
   ·rename_i hyx;subst hyx;exact ⟨_,hx⟩
   ·exact ⟨_,h1⟩
  have o2:∃ l,ρ.lookup z=some (.own l):=by
   split at h2
   ·rename_i hyx;subst hyx;exact ⟨_,hx⟩
   ·exact ⟨_,h2⟩
  obtain ⟨_,o1⟩:=o1;obtain ⟨_,o2⟩:=o2
  exact F.inj y z _ _ o1 o2 e
end
section
variable {w:World} {A:Around} {E:Value→Shared→Prop} {off₀:Addr→Prop} {s₀ s:Shared} {k n:Nat} {sc:Scope} {env:Env} {ρ:SRho} {c:Cx} {m cm:Str→Option Value} {ad:Str→Addr}
theorem Step.but {o1 o2:Addr→Prop} {h1 h2 h3:Heap} {C:Addr} (a:Step o1 h1 o2 h2) (hC:h1.get? C=none) (kb:∀ b o,b≠C→h2.get? b=some o→h3.get? b=some o):Step o1 h1 o2 h3:=by
 refine ⟨fun I o ho t=>kb I o (by rintro rfl;rw [hC] at ho;contradiction) (a.tame I o ho t),fun x o ho sq no=>kb x o (by rintro rfl;rw [hC] at ho;contradiction) (a.seqs x o ho sq no),a.offs,fun x o ho=>?_⟩
 obtain ⟨o',e⟩:=a.grow x o ho
 exact ⟨o',kb x o' (by rintro rfl;rw [hC] at ho;contradiction) e⟩
theorem Fr.iter (F:Fr w k A s₀ sc env off₀ ρ m cm ad s) {h':Heap} {tk:Nat} {I:Addr} {o:Obj} (ho:s.heap.get? I=some o) (ht:Tame o) (g0:s₀.heap.get? I=none)
  (kb:∀ b o,b≠I→s.heap.get? b=some o→h'.get? b=some o):Fr w k A s₀ sc env off₀ ρ m cm ad { s with heap:=h',toks:=tk }:=by
 have sq:∀ off,Seqs off s.heap h':=fun off=>tJ ho ht kb
 have hL:I≠env.locals:=iK F.call.toInCall.ns ho ht.nd
 have nd:∀ {b o'},s.heap.get? b=some o'→(∀ n vs,o'.data≠.fields vs)→b≠I:=fun {b o'} e hd q=>by
  rw [q,ho] at e;(injection e with e;subst e)
  obtain ⟨_,vs,_,e3,_⟩:=ht
  exact hd 0 vs e3
 refine ⟨F.room,F.en,⟨⟨?_,F.call.toInCall.ns.at' fun o' e=>kb _ _ hL.symm e,fun b o' e=>kb b o' (by rintro rfl;rw [g0] at e;contradiction) (F.call.toInCall.keep b o' e),F.call.toInCall.fresh⟩,fun kk cc hc=>?_,F.call.apart,F.call.above⟩,
  F.glb,F.tab.but (fun o' e=>by rw [ho] at e;(injection e with e;subst e);exact ht.soft) kb,F.old,fun x sl hx=>?_,F.nd,F.inj,F.hid⟩
 ·obtain ⟨h₁,tk',e⟩:=F.call.toInCall.same
  exact ⟨h',tk,by rw [e]⟩
 ·obtain ⟨o',h1,h2⟩:=F.call.cell kk cc hc
  exact ⟨o',kb cc o' (nd h1 fun _ vs d=>by rw [h2] at d;contradiction) h1,h2⟩
 ·have so:=F.slots x sl hx
  cases sl with
  | un=>trivial
  | val Y=>apply bc;intro hQ;rcases so with ⟨u,h3,h4⟩;refine hQ ?_;clear hQ;exact ⟨u,h3,h4.move (sq _) fun _ q=>q⟩
  | own l =>
   apply bc;intro hQ;rcases so with ⟨q0,h3,items,⟨nn,h4⟩,h5⟩;refine hQ ?_;clear hQ
   exact ⟨q0,h3,items,⟨nn,kb _ _ (nd h4 fun _ vs d=>by contradiction) h4⟩,h5.move (sq _) fun _ q=>q⟩
theorem pz {fg:List Str} {x:Str} {ρ:SRho}:(zK fg ρ).lookup x=(ρ.lookup x).map fun sl=>match fg.contains x with | true=>Slt.un | false=>sl :=
 zX6 (α:=Slt) (β:=Slt) (g:=fun x sl=>match fg.contains x with | true=>Slt.un | false=>sl) (fun _ _=>rfl) x ρ
theorem ox {fg:List Str} {x:Str} {l:List V} (h:(zK fg ρ).lookup x=some (.own l)):ρ.lookup x=some (.own l):=by
 rw [pz,Option.map_eq_some_iff] at h
 apply bc;intro hQ;rcases h with ⟨sl,h1,h2⟩;refine hQ ?_;clear hQ
 split at h2
 ·contradiction
 ·rw [h2] at h1;exact h1
theorem wx {fg:List Str} {a:Addr} (h:offF off₀ (zK fg ρ) ad a):offF off₀ ρ ad a:=h.imp _root_.id fun ⟨x,l,h1,h2⟩=>⟨x,l,ox h1,h2⟩
theorem Fr.forget (F:Fr w k A s₀ sc env off₀ ρ m cm ad s) (fg:List Str):Fr w k A s₀ sc env off₀ (zK fg ρ) m cm ad s:=by
 refine ⟨F.room,F.en,F.call,F.glb,F.tab,F.old,fun x sl hx=>?_,?_,fun x y l l' h1 h2 e=>F.inj x y l l' (ox h1) (ox h2) e,F.hid⟩
 ·rw [pz,Option.map_eq_some_iff] at hx
  apply bc;intro hQ;rcases hx with ⟨t,h1,h2⟩;refine hQ ?_;clear hQ
  have so:=F.slots x t h1
  split at h2
  ·subst h2;trivial
  ·subst h2
   cases t with
   | un=>trivial
   | val X=>apply bc;intro hQ;rcases so with ⟨v,h3,h4⟩;refine hQ ?_;clear hQ;exact ⟨v,h3,h4.move (Keep.refl _).seqs fun _ q=>wx q⟩
   | own l=>apply bc;intro hQ;rcases so with ⟨h0,h3,items,h4,h5⟩;refine hQ ?_;clear hQ;exact ⟨h0,h3,items,h4,h5.move (Keep.refl _).seqs fun _ q=>wx q⟩
 ·have e:(zK fg ρ).map (·.1)=ρ.map (·.1):=by
   unfold zK
   rw [List.map_map]
   rfl
  rw [e];exact F.nd
theorem dx {fg:List Str} {a:Addr} (h:offF off₀ (forgetQ fg ρ) ad a):offF off₀ ρ ad a:=by
 cases fg with
 | nil=>exact h
 | cons f fs=>exact wx h
theorem Fr.forgetQ (F:Fr w k A s₀ sc env off₀ ρ m cm ad s) (fg:List Str):Fr w k A s₀ sc env off₀ (Mine.forgetQ fg ρ) m cm ad s:=by
 cases fg with
 | nil=>exact F
 | cons f fs=>exact F.forget _
inductive OutN (w:World) (k:Nat) (A:Around) (s₀:Shared) (sc:Scope) (env:Env) (off₀:Addr→Prop) (off:Addr→Prop) (h:Heap) (K:SRho→Prop) (s':Shared):Prop where
 | mk (ρ':SRho) (m cm:Str→Option Value) (ad:Str→Addr) (k1:K ρ') (F:Fr w k A s₀ sc env off₀ ρ' m cm ad s') (st:Step off h (offF off₀ ρ' ad) s'.heap)
inductive OutR (s₀:Shared) (off₀:Addr→Prop) (Kr:V→Prop) (v:Value) (s':Shared):Prop where
 | mk (X:V) (k1:Kr X) (rd:Rd s'.heap off₀ X v) (h':Heap) (tk:Nat) (e:s'={ s₀ with heap:=h',toks:=tk }) (kp:∀ b o,s₀.heap.get? b=some o→h'.get? b=some o) (t:zW h')
noncomputable def Out (w:World) (k:Nat) (A:Around) (s₀:Shared) (sc:Scope) (env:Env) (off₀:Addr→Prop) (off:Addr→Prop) (h:Heap) (Kn:SRho→Prop) (Kr:V→Prop) (Kb:SRho→Prop):Flow→Shared→Prop
 | .next,s'=>OutN w k A s₀ sc env off₀ off h Kn s'
 | .brk,s'=>OutN w k A s₀ sc env off₀ off h Kb s'
 | .cont,_=>False
 | .ret v,s'=>OutR s₀ off₀ Kr v s'
theorem Out.from {off off':Addr→Prop} {h h':Heap} {Kn:SRho→Prop} {Kr:V→Prop} {Kb:SRho→Prop} {f:Flow} {s':Shared} (o:Out w k A s₀ sc env off₀ off' h' Kn Kr Kb f s') (st:Step off h off' h'):Out w k A s₀ sc env off₀ off h Kn Kr Kb f s':=by
 cases f with
 | next=>apply bc;intro hQ;rcases o with ⟨ρ',m,cm,ad,h1,h2,h3⟩;refine hQ ?_;clear hQ;exact ⟨ρ',m,cm,ad,h1,h2,st.trans h3⟩
 | brk=>apply bc;intro hQ;rcases o with ⟨ρ',m,cm,ad,h1,h2,h3⟩;refine hQ ?_;clear hQ;exact ⟨ρ',m,cm,ad,h1,h2,st.trans h3⟩
 | cont=>exact o
 | ret v=>exact o
noncomputable def XOk (w:World) (k:Nat) (c:Cx) (sc:Scope) (ow:List Str) (n:Nat):Prop :=
 ∀ {A E s₀ env off₀ ss ρ Kn Kr Kb m cm ad s Q},c.pa A env→Fr w k A s₀ sc env off₀ ρ m cm ad s→xs c sc ow n ss ρ Kn Kr Kb→(∀ f s',Out w k A s₀ sc env off₀ (offF off₀ ρ ad) s.heap Kn Kr Kb f s'→Q f s')→wpAny (model pw w) A (execs ss env) Q E s
noncomputable abbrev erQ (w:World) (A:Around) (R:Result→Shared→Prop) (env:Env):Value→Shared→Prop:=notedBy (model pw w) A env fun x s'=>R (.error x) s'
noncomputable def xZh (w:World) (A:Around) (R:Result→Shared→Prop) (c:Code):Flow→Shared→Prop:=fun f s'=>match f with
 | .next | .cont=>codeAny (model pw w) A c R s'
 | .brk=>R (.ok .next) s'
 | .ret v=>R (.ok (.ret v)) s'
noncomputable def forQ (w:World) (A:Around) (R:Result→Shared→Prop) (tg:Expr) (it:Value) (body orelse:List Stmt) (env:Env):Option Value→Shared→Prop:=fun r s'=>match r with
 | none=>codeAny (model pw w) A (.block orelse env) R s'
 | some v=>wpAny (model pw w) A (letOwnedTupleGo tg it v) (fun _ s'=>wpAny (model pw w) A (assign tg env v) (fun _ s'=>wpAny (model pw w) A (execs body env) (xZh w A R (.forLoop tg it body orelse env)) (erQ w A R env) s') (erQ w A R env) s') (erQ w A R env) s'
theorem wK {R:Result→Shared→Prop} {tg:Expr} {it:Value} {body orelse:List Stmt} (h:∀ E,wpAny (model pw w) A (pyNext it) (forQ w A R tg it body orelse env) E s):codeAny (model pw w) A (.forLoop tg it body orelse env) R s:=by
 refine codeAny_of_tree ?_
 show wpAny _ A ((forTurn tg it body orelse env).onRaise (fun x=>do noteFrame x env;theTreesLotGoes x)) _ _ s
 refine wpAny_noted ?_
 simp only [forTurn]
 refine wpAny_bind (wpAny_standAt (wpAny_bind (wpAny_onRaise (wpAny_mono (h _) (fun r s' q=>?_) fun _ _ x=>x))))
 cases r with
 | none=>exact wpAny_pure ⟨rfl,q⟩
 | some v =>
  refine wpAny_bind (wpAny_mono q (fun _ s' q=>wpAny_bind (wpAny_mono q (fun _ s' q=>wpAny_bind (wpAny_mono q (fun f s' q=>?_) fun _ _ x=>x)) fun _ _ x=>x)) fun _ _ x=>x)
  cases f with
  | next=>exact wpAny_pure ⟨rfl,q⟩
  | cont=>exact wpAny_pure ⟨rfl,q⟩
  | brk=>exact wpAny_pure q
  | ret v=>exact wpAny_pure q
theorem zW3 {ow:List Str} (X:XOk w k c sc ow n) (hp:c.pa A env) {tg:Expr} {body orelse:List Stmt} {I:Addr} {items:List V} {St:(Addr→Prop)→Nat→Heap→Prop} (It:Iter w I items St) (g0:s₀.heap.get? I=none) {Kn Kb:SRho→Prop} {Kr:V→Prop} {R:Result→Shared→Prop} {off:Addr→Prop} {h:Heap} (hI:h.get? I=none)
  (hR:∀ f s',Out w k A s₀ sc env off₀ off h Kn Kr Kb f s'→R (.ok f) s') :
  ∀ (rem:List V) (i:Nat) (s:Shared) (ρ:SRho) (m cm:Str→Option Value) (ad:Str→Addr),i≤items.length→items.drop i=rem→Fr w k A s₀ sc env off₀ ρ m cm ad s→St (offF off₀ ρ ad) i s.heap→Step off h (offF off₀ ρ ad) s.heap →
   forS (fun ρ' kn kb=>xs c sc ow n body ρ' kn Kr kb) (fun X ρ=>tK sc tg X (zK (c.fg tg) ρ)) (fun ρ'=>xs c sc ow n orelse (zK (c.fg tg) ρ') Kn Kr Kb) Kn rem ρ →
   codeAny (model pw w) A (.forLoop tg (.ref I) body orelse env) R s:=by
 intro rem
 induction rem with
 | nil =>
  intro i s ρ m cm ad hi hd F st stp kk
  rw [gY hd hi] at st
  refine wK fun _=>It.done A _ s _ _ F.room.hd st fun h' tk kb=>?_
  apply bc;intro hQ;rcases It.tame _ _ _ st with ⟨o,ho,ht⟩;refine hQ ?_;clear hQ
  exact codeAny_block (X hp ((F.iter (tk:=tk) ho ht g0 kb).forget (c.fg tg)) kk fun f s' o=>hR f s' (o.from ((stp.but hI kb).trans (Step.keep (Keep.refl _) fun _ q=>wx q))))
 | cons Y r ih =>
  intro i s ρ m cm ad hi hd F st stp kk
  refine wK fun _=>It.item A _ i s Y _ _ F.room.hd (sV hd) st fun v h1 tk1 r1 st1 kb1=>?_
  apply bc;intro hQ;rcases It.tame _ _ _ st with ⟨o,ho,ht⟩;refine hQ ?_;clear hQ
  have F1:=F.iter (tk:=tk1) ho ht g0 kb1
  apply bc;intro hQ;rcases It.tame _ _ _ st1 with ⟨o1,ho1,ht1⟩;refine hQ ?_;clear hQ
  refine tX ho1 ht1 ?_
  unfold forS at kk
  split at kk
  ·exact kk.elim
  ·rename_i ρ' hb
   refine fV (F1.forget (c.fg tg)) hb (r1.move (Keep.refl _).seqs fun _ q=>wx q) fun m2 cm2 s2 F2 stp2'=>?_
   have stp2:Step (offF off₀ ρ ad) _ (offF off₀ ρ' ad) s2.heap:=(Step.keep (Keep.refl _) fun _ q=>wx q).trans stp2'
   have st2:St (offF off₀ ρ' ad) (i + 1) s2.heap:=It.frame A _ _ _ _ _ F.room.hd st1 (fun o e=>stp2.tame I o e (by rw [ho1] at e;(injection e with e;subst e);exact ht1)) stp2.seqs stp2.offs
   refine X hp F2 kk fun f s3 out=>?_
   have stpA:=(stp.but hI kb1).trans stp2
   cases f with
   | next =>
    apply bc;intro hQ;rcases out with ⟨ρ3,m3,cm3,ad3,k3,F3,stp3⟩;refine hQ ?_;clear hQ
    refine ih (i + 1) s3 ρ3 m3 cm3 ad3 (lY hd) (vZ hd) F3 (It.frame A _ _ _ _ _ F.room.hd st2 (fun o e=>?_) stp3.seqs stp3.offs) (stpA.trans stp3) k3
    obtain ⟨o2,ho2,ht2⟩:=It.tame _ _ _ st2
    exact stp3.tame I o e (by rw [ho2] at e;(injection e with e;subst e);exact ht2)
   | brk =>
    apply bc;intro hQ;rcases out with ⟨ρ3,m3,cm3,ad3,k3,F3,stp3⟩;refine hQ ?_;clear hQ
    exact hR .next s3 ⟨ρ3,m3,cm3,ad3,k3,F3,stpA.trans stp3⟩
   | cont=>exact out.elim
   | ret u=>exact hR (.ret u) s3 out
end
section
variable {w:World} {A:Around} {E:Value→Shared→Prop} {off₀:Addr→Prop} {s₀ s:Shared} {k n:Nat} {sc:Scope} {env:Env} {ρ:SRho} {c:Cx} {m cm:Str→Option Value} {ad:Str→Addr}
theorem XOk.fin {ow:List Str} (X:XOk w k c sc ow n) (hp:c.pa A env) {ss:List Stmt} {Kn Kb:SRho→Prop} {Kr:V→Prop} {off:Addr→Prop} {h:Heap} {Q:Flow→Shared→Prop} (q:∀ f s',Out w k A s₀ sc env off₀ off h Kn Kr Kb f s'→Q f s') {f:Flow} {s':Shared}
  (o:Out w k A s₀ sc env off₀ off h (fun ρ'=>xs c sc ow n ss ρ' Kn Kr Kb) Kr Kb f s'):(match f with | .next=>wpAny (model pw w) A (execs ss env) Q E s' | f=>Q f s'):=by
 cases f with
 | next=>obtain ⟨ρ',m,cm,ad,h1,h2,h3⟩:=o;exact X hp h2 h1 fun f s'' o=>q f s'' (o.from h3)
 | brk=>exact q .brk s' o
 | cont=>exact o.elim
 | ret v=>exact q (.ret v) s' o
theorem yQu (S:∀ n,Snd w k c n) (F:Fr w k A s₀ sc env off₀ ρ m cm ad s) {e:Expr} {pos:Pos} {Kn Kb:SRho→Prop} {Kr:V→Prop} {off:Addr→Prop} {h:Heap} {Q:Flow→Shared→Prop} {vs:List Str} (kk:ew c sc n e (xy vs ρ) Kr)
  (q:∀ f s',Out w k A s₀ sc env off₀ off h Kn Kr Kb f s'→Q f s'):wpAny (model pw w) A (exec (.Return (some e) pos) env) Q E s:=by
 refine wpAny_Return_some ((S n).e (F.at' vs) kk fun X v h' tk kx e1 r1=>?_)
 have F1:=F.keep (tk:=tk) e1
 apply bc;intro hQ;rcases F1.call.done with ⟨h2,tk2,e2,k2⟩;refine hQ ?_;clear hQ
 have t:=F1.tab
 rw [e2] at t
 exact q (.ret v) _ ⟨X,kx,r1.move (Keep.refl _).seqs fun a z=>.inl z,h2,tk2,e2,k2,t⟩
theorem xZi {ow:List Str} (S:∀ n,Snd w k c n) (X:XOk w k c sc ow n) (hp:c.pa A env) (F:Fr w k A s₀ sc env off₀ ρ m cm ad s) {t:Expr} {b1 b2:List Stmt} {pos:Pos} {Kn Kb:SRho→Prop} {Kr:V→Prop} {Q:Flow→Shared→Prop} {vs:List Str}
  (kk:tw c sc n t (xy vs ρ) fun b=>match b with | true=>xs c sc ow n b1 ρ Kn Kr Kb | false=>xs c sc ow n b2 ρ Kn Kr Kb)
  (q:∀ f s',Out w k A s₀ sc env off₀ (offF off₀ ρ ad) s.heap Kn Kr Kb f s'→Q f s'):wpAny (model pw w) A (exec (.If t b1 b2 pos) env) Q E s:=by
 refine wpAny_If ((S n).t (F.at' vs) kk fun b h' tk kb e1=>?_)
 have F1:=F.keep (tk:=tk) e1
 have st:Step (offF off₀ ρ ad) s.heap (offF off₀ ρ ad) h':=Step.keep e1 fun _ z=>z
 cases b with
 | true=>exact X hp F1 kb fun f s' o=>q f s' (o.from st)
 | false=>exact X hp F1 kb fun f s' o=>q f s' (o.from st)
theorem zJu (S:∀ n,Snd w k c n) (F:Fr w k A s₀ sc env off₀ ρ m cm ad s) {t:Expr} {msg:Option Expr} {pos:Pos} {Kn Kb:SRho→Prop} {Kr:V→Prop} {Q:Flow→Shared→Prop} {vs:List Str}
  (kk:tw c sc n t (xy vs ρ) fun b=>b=true∧Kn ρ)
  (q:∀ f s',Out w k A s₀ sc env off₀ (offF off₀ ρ ad) s.heap Kn Kr Kb f s'→Q f s'):wpAny (model pw w) A (exec (.Assert t msg pos) env) Q E s:=by
 refine wpAny_Assert_holds ((S n).t (F.at' vs) kk fun b h' tk kb e1=>⟨kb.1,?_⟩)
 exact q .next _ ⟨ρ,m,cm,ad,kb.2,F.keep (tk:=tk) e1,Step.keep e1 fun _ z=>z⟩
theorem fW {vs:List Str} {a:Addr} (z:offF off₀ (Mine.freeze vs ρ) ad a):offF off₀ ρ ad a:=uz (xX z)
theorem yVx {ow:List Str} (S:∀ n,Snd w k c n) (X:XOk w k c sc ow n) (hp:c.pa A env) (F:Fr w k A s₀ sc env off₀ ρ m cm ad s) {tg it:Expr} {body orelse:List Stmt} {pos:Pos} {Kn Kb:SRho→Prop} {Kr:V→Prop} {Q:Flow→Shared→Prop} {vs:List Str}
  (kk:itw c sc n it (xy vs ρ) fun items=>forS (fun ρ' kn kb=>xs c sc ow n body ρ' kn Kr kb) (fun X ρ=>tK sc tg X (zK (c.fg tg) ρ)) (fun ρ'=>xs c sc ow n orelse (zK (c.fg tg) ρ') Kn Kr Kb) Kn items (Mine.freeze vs ρ))
  (q:∀ f s',Out w k A s₀ sc env off₀ (offF off₀ ρ ad) s.heap Kn Kr Kb f s'→Q f s'):wpAny (model pw w) A (exec (.For tg it body orelse pos) env) Q E s:=by
 refine wpAny_For ((S n).it (F.at' vs) kk fun items I h' tk St kx e1 fr It st=>?_) (sj kk env)
 have F1:=(F.keep (tk:=tk) e1).freeze vs
 have g0:s₀.heap.get? I=none:=F.none0 fr
 have st1:St (offF off₀ (Mine.freeze vs ρ) ad) 0 h':=It.frame A _ _ _ _ _ F.room.hd st (fun _ e=>e) (Keep.refl _).seqs fun a z=>.inl (xX z)
 exact zW3 X hp It g0 fr (fun f s' o=>q f s' o) items 0 _ _ m cm ad (Nat.zero_le _) rfl F1 st1 (Step.keep e1 fun a z=>fW z) kx
theorem zXg (S:∀ n,Snd w k c n) (F:Fr w k A s₀ sc env off₀ ρ m cm ad s) {vs:List Str} {x:Str} {p pos:Pos} {e:Expr} {Kn Kb:SRho→Prop} {Kr:V→Prop} {Q:Flow→Shared→Prop} (hx:uZ sc x=true) (hr:fX c sc x e=false)
  (kk:ew c sc n e (xy vs ρ) fun X=>onB (vq X || vs.isEmpty) (Kn (setS x (.val X) ρ)) (Kn (setS x (.val X) (Mine.freeze vs ρ))))
  (q:∀ f s',Out w k A s₀ sc env off₀ (offF off₀ ρ ad) s.heap Kn Kr Kb f s'→Q f s'):wpAny (model pw w) A (exec (.Assign [.Name x p] e pos) env) Q E s:=by
 refine zJt S F hx hr kk fun X m' cm' s' kx F' st=>q .next s' ⟨_,m',cm',ad,?_,F',st⟩
 unfold qW
 rcases onB.inv kx with ⟨h,kx⟩ | ⟨h,kx⟩
 ·rw [h];exact kx
 ·rw [h];exact kx
end
section
variable {w:World} {A:Around} {E:Value→Shared→Prop} {off₀:Addr→Prop} {s₀ s:Shared} {k n:Nat} {sc:Scope} {env:Env} {ρ:SRho} {c:Cx} {m cm:Str→Option Value} {ad:Str→Addr}
theorem wV (F:Fr w k A s₀ sc env off₀ ρ m cm ad s) {A':Around} {x:Str} {pos:Pos} {v:Value} {Q:Value→Shared→Prop} (h:Has sc env m cm x v) (q:Q v s):wpAny (model pw w) A' (eval (.Name x pos) env) Q E s:=by
 have hk:env.scope.kind=.function:=by rw [F.en.scope,F.en.kind]
 rcases h with ⟨h1,h2⟩ | ⟨h1,⟨cc,h2⟩,h3⟩
 ·exact wpAny_Name (wpAny_loadName_local hk (by unfold Env.kindOf;rw [F.en.scope];exact h1) F.call.toInCall.ns h2 q) (F.en.ne_dbg h1)
 ·exact wpAny_Name (wpAny_loadName_cell hk (by unfold Env.kindOf;rw [F.en.scope];exact h1) h2 (by have:=F.call.cell x cc h2;rw [h3] at this;exact this) q) (F.en.ne_dbg h1)
theorem Step.own (F:Fr w k A s₀ sc env off₀ ρ m cm ad s) {x:Str} {l l':List V} {h':Heap} {items:Array Value} (hx:ρ.lookup x=some (.own l)) (hp:h'.PlainList (ad x) items) (sb:Heap.SameBut (ad x) s.heap h') :
  Step (offF off₀ ρ ad) s.heap (offF off₀ (setS x (.own l') ρ) ad) h':=by
 have kb:∀ b o,b≠ad x→s.heap.get? b=some o→h'.get? b=some o:=fun b o hb e=>sb.extBut b o hb e
 apply bc;intro hQ;rcases F.slots x _ hx with ⟨g0,g1,items0,⟨nn,g2⟩,g3⟩;refine hQ ?_;clear hQ
 have le:∀ a,offF off₀ (setS x (.own l') ρ) ad a→offF off₀ ρ ad a:=fun a q=>q.imp _root_.id fun ⟨y,l1,h1,h2⟩=>by
  rw [zZ] at h1
  split at h1
  ·rename_i hy;subst hy;exact ⟨y,l,hx,h2⟩
  ·exact ⟨y,l1,h1,h2⟩
 refine ⟨fun I o ho t=>kb I o ?_ ho,fun a o e _ no=>kb a o (fun e=>no (.inr ⟨x,l,hx,e.symm⟩)) e,fun a q=>.inl (le a q),fun a o ho=>?_⟩
 ·rintro rfl
  rw [g2] at ho;(injection ho with ho;subst ho)
  obtain ⟨_,_,_,e3,_⟩:=t
  contradiction
 ·by_cases ha:a=ad x
  ·obtain ⟨n2,e⟩:=hp;rw [ha];exact ⟨_,e⟩
  ·exact ⟨o,kb a o ha ho⟩
theorem zJv (S:∀ n,Snd w k c n) (F:Fr w k A s₀ sc env off₀ ρ m cm ad s) {vs:List Str} {x:Str} {l:List V} {p ap cp pos:Pos} {e:Expr} {Kn Kb:SRho→Prop} {Kr:V→Prop} {Q:Flow→Shared→Prop}
  (hl:ρ.lookup x=some (.own l)) (hst:yY e=false) (hline:(ap.endLine == cp.line)=true)
  (kk:ew c sc n e (xy vs ρ) fun X=>onT (vq X || vs.isEmpty) (l.length≤sizeLine∧Kn (setS x (.own (l++[X])) ρ)))
  (q:∀ f s',Out w k A s₀ sc env off₀ (offF off₀ ρ ad) s.heap Kn Kr Kb f s'→Q f s'):wpAny (model pw w) A (exec (.Expr (.Call (.Attribute (.Name x p) "append" ap) [e] [] cp) pos) env) Q E s:=by
 apply bc;intro hQ;rcases F.slots x _ hl with ⟨g0,g1,items,g2,g3⟩;refine hQ ?_;clear hQ
 have hst':[e].any yY=false:=by simp [hst]
 refine wpAny_Expr ?_ (by unfold interactive;rw [F.en.scope,F.en.kind];rfl) rfl
 refine wpAny_Call_method_late rfl ?_ hline rfl (wV F g1 ?_)
 ·rw [Bool.and_eq_true,Bool.and_eq_true]
  exact ⟨⟨uK hst' cp env,rfl⟩,rfl⟩
 ·refine ⟨"list","list.append",PySem.F.plainAttrs_list,PySem.F.slot_list_append,PySem.F.type_list_append,g2.isList.typeIs,fun a ea=>by (injection ea with ea;subst ea);obtain ⟨nn,g2⟩:=g2;exact ⟨_,g2,rfl⟩,?_⟩
  refine yy hst' (args_cons ((S n).e (F.at' vs) kk fun X v h' tk kx e1 r1=>args_nil ?_) (zX hst [] env))
  have F1:=F.keep (tk:=tk) e1
  apply bc;intro hQ;rcases F1.slots x _ hl with ⟨g0',g1',items',g2',g3'⟩;refine hQ ?_;clear hQ
  have hlen:=g3'.length
  rw [Array.length_toList] at hlen
  obtain ⟨hf,kx⟩:=onT.inv kx
  ·refine wpAny_list_append_plain (s:={ s with heap:=h',toks:=tk }) g2' (fun h2 hp sb=>?_) (by rw [hlen];exact kx.1)
   have r2:=(F1.held (vs:=vs) r1).2
   have hh:qW vs X ρ=ρ:=by unfold qW;rw [hf]
   rw [hh] at r2
   have sq:Seqs (offF off₀ ρ ad) h' h2:=fun a o ea _ no=>sb.extBut a o (fun ee=>no (.inr ⟨x,l,hl,ee.symm⟩)) ea
   refine q .next _ ⟨_,m,cm,ad,kx.2,F1.setOwnIn hl hp sb ?_,(Step.keep e1 fun _ z=>z).trans (Step.own F1 hl hp sb)⟩
   rw [Array.toList_push]
   exact g3'.append (RdL.one r2)
theorem yVy {op:Operator} {X Y:V} {a b:Value} {K:Kp} {off:Addr→Prop} {Q:Value→Shared→Prop} (hx:Rd s.heap off X a) (hy:Rd s.heap off Y b) (kk:yZp op X Y K) (q:Res off s K Q):wpAny (model pw w) A (inplaceOp op a b) Q E s:=by
 cases op with
 | Add =>
  cases X <;> (try exact kk.elim) <;> cases Y <;> try exact kk.elim
  apply bc;intro hQ;rcases hx.int_inv with ⟨t,rfl⟩;rcases hy.int_inv with ⟨u,rfl⟩;refine hQ ?_;clear hQ
  exact iadd_int (q.int kk _ _)
 | Sub =>
  cases X <;> (try exact kk.elim) <;> cases Y <;> try exact kk.elim
  apply bc;intro hQ;rcases hx.int_inv with ⟨t,rfl⟩;rcases hy.int_inv with ⟨u,rfl⟩;refine hQ ?_;clear hQ
  exact isub_int (q.int kk _ _)
 | BitXor =>
  cases X <;> (try exact kk.elim) <;> cases Y <;> try exact kk.elim
  apply bc;intro hQ;rcases hx.int_inv with ⟨t,rfl⟩;rcases hy.int_inv with ⟨u,rfl⟩;refine hQ ?_;clear hQ
  exact ixor_int (q.int kk _ _)
 | _=>exact kk.elim
theorem fY (F:Fr w k A s₀ sc env off₀ ρ m cm ad s) {x:Str} {v:Value} {Q:Value→Shared→Prop} (h:Has sc env m cm x v) (q:Q v s):wpAny (model pw w) A (loadName env x) Q E s:=by
 have hk:env.scope.kind=.function:=by rw [F.en.scope,F.en.kind]
 rcases h with ⟨h1,h2⟩ | ⟨h1,⟨cc,h2⟩,h3⟩
 ·exact wpAny_loadName_local hk (by unfold Env.kindOf;rw [F.en.scope];exact h1) F.call.toInCall.ns h2 q
 ·exact wpAny_loadName_cell hk (by unfold Env.kindOf;rw [F.en.scope];exact h1) h2 (by have:=F.call.cell x cc h2;rw [h3] at this;exact this) q
theorem yVz (S:∀ n,Snd w k c n) (F:Fr w k A s₀ sc env off₀ ρ m cm ad s) {x:Str} {X0:V} {op:Operator} {p pos:Pos} {e:Expr} {Kn Kb:SRho→Prop} {Kr:V→Prop} {Q:Flow→Shared→Prop} (hv:uZ sc x=true)
  (hl:ρ.lookup x=some (.val X0))
  (kk:ew c sc n e (xy (owns ρ) ρ) fun X=>yZp op X0 X fun Y=>onT (vq Y) (Kn (setS x (.val Y) ρ)))
  (q:∀ f s',Out w k A s₀ sc env off₀ (offF off₀ ρ ad) s.heap Kn Kr Kb f s'→Q f s'):wpAny (model pw w) A (exec (.AugAssign (.Name x p) op e pos) env) Q E s:=by
 apply bc;intro hQ;rcases F.slots x _ hl with ⟨v0,g1,g2⟩;refine hQ ?_;clear hQ
 refine wpAny_AugAssign_Name (fY F g1 ((S n).e (F.at' _) kk fun X v h' tk kx e1 r1=>?_))
 refine yVy (s:={ s with heap:=h',toks:=tk }) (off:=offV off₀ ρ ad (owns ρ)) ((g2.keep e1).move (Keep.refl _).seqs fun a z=>uz z) r1 kx fun Y y h2 tk2 ky e2 r2=>?_
 have F2:=F.keep (tk:=tk2) (e1.trans e2)
 obtain ⟨hf,ky⟩:=onT.inv ky
 ·exact F2.storeRaw hv fun h3 tk3 m' cm' B st=>q .next _ ⟨_,m',cm',ad,ky,F2.setVal (sy hf r2) st,(Step.keep (e1.trans e2) fun _ z=>z).trans (Step.stored F2 st fun a z=>zv z)⟩
end
theorem mj {h h':Heap} {o o':Addr→Prop}:∀ {l:List V} {vs:List Value},l.all vq=true→RdL h o l vs→RdL h' o' l vs
 | [],_,_,r=>r
 | Y :: l,vs,hf,r=>by
  rw [List.all_cons,Bool.and_eq_true] at hf
  apply bc;intro hQ;rcases r with ⟨v,r',e1,e2,e3⟩;refine hQ ?_;clear hQ
  exact ⟨v,r',e1,sy hf.1 e2,mj hf.2 e3⟩
theorem zY {e:Expr} (h:zQb e=true) (t:Option Expr) (l:Nat) (env:Env):swapsWith e t l env=pure false:=by
 cases e <;> first | rfl | contradiction
section
variable {w:World} {A:Around} {E:Value→Shared→Prop} {off₀:Addr→Prop} {s₀ s:Shared} {k n:Nat} {sc:Scope} {env:Env} {ρ:SRho} {c:Cx} {m cm:Str→Option Value} {ad:Str→Addr}
theorem Step.widen {o1 o2 o3:Addr→Prop} {h1 h2:Heap} (a:Step o1 h1 o2 h2) (h:∀ b,o3 b→o1 b∨h1.get? b=none):Step o1 h1 o3 h2:=⟨a.tame,a.seqs,h,a.grow⟩
theorem Fr.newOwn (F:Fr w k A s₀ sc env off₀ ρ m cm ad s) {x:Str} {l:List V} {a:Addr} {items:Array Value} {h1 h':Heap} {tk1 tk:Nat} {m' cm':Str→Option Value} {B:Addr} (e1:Keep s.heap h1) (hf:l.all vq=true) {o:Addr→Prop}
  (hp:h1.PlainList a items) (hr:RdL h1 o l items.toList) (ha:s.heap.get? a=none) (S:Stored s₀ sc env m cm x (.ref a) { s with heap:=h1,toks:=tk1 } h' tk m' cm' B) :
  Fr w k A s₀ sc env off₀ (setS x (.own l) ρ) m' cm' (fun y=>if y=x then a else ad y) { s with heap:=h',toks:=tk }∧Step (offF off₀ ρ ad) s.heap (offF off₀ (setS x (.own l) ρ) (fun y=>if y=x then a else ad y)) h':=by
 have le:∀ b,offF off₀ (setS x (.own l) ρ) (fun y=>if y=x then a else ad y) b→offF off₀ ρ ad b∨b=a:=fun b q=>by
  rcases q with q | ⟨y,l',h1,h2⟩
  ·exact .inl (.inl q)
  ·dsimp only at h2
   rw [zZ] at h1
   split at h1
   ·rename_i hy;rw [if_pos hy] at h2;exact .inr h2.symm
   ·rename_i hy;rw [if_neg hy] at h2;exact .inl (.inr ⟨y,l',h1,h2⟩)
 have le':∀ b,offF off₀ (setS x (.own l) ρ) (fun y=>if y=x then a else ad y) b→offF off₀ ρ ad b∨s.heap.get? b=none:=fun b q=>(le b q).imp _root_.id fun e=>by rw [e];exact ha
 have sq:∀ off,Seqs off s.heap h':=fun off b o e d no=>S.seqs off b o (e1.seqs (off:=off) b o e d no) d no
 have h0:s₀.heap.get? a=none:=by
  cases e:s₀.heap.get? a with
  | none=>rfl
  | some o=>have:=F.call.toInCall.keep a o e;rw [ha] at this;contradiction
 have hne:∀ y l',ρ.lookup y=some (.own l')→ad y≠a:=fun y l' hy e=>by
  obtain ⟨_,_,vs,⟨nn,g⟩,_⟩:=F.slots y _ hy
  rw [e,ha] at g;contradiction
 have F1:Fr w k A s₀ sc env off₀ ρ m cm ad { s with heap:=h1,toks:=tk1 }:=F.keep e1
 refine ⟨⟨F.room,F.en,S.call,F.glb,S.tab F1.tab,F.old,fun y sl hy=>?_,xV F.nd,fun y z l1 l2 g1 g2 e=>?_,F.hid⟩,((Step.keep e1 fun _ z=>z).trans (Step.stored F1 S fun _ z=>z)).widen le'⟩
 ·rw [zZ] at hy
  split at hy
  ·rename_i hyx
   (injection hy with hy;subst hy);subst hyx
   refine ⟨by simpa using h0,by simpa using S.this,items,by simpa using S.plain hp,mj hf hr⟩
  ·rename_i hyx
   have so:=F.slots y sl hy
   cases sl with
   | un=>trivial
   | val Y=>apply bc;intro hQ;rcases so with ⟨u,h3,h4⟩;refine hQ ?_;clear hQ;exact ⟨u,S.other y u hyx h3,h4.move' (sq _) le'⟩
   | own l' =>
    apply bc;intro hQ;rcases so with ⟨g0,h3,items',h4,h5⟩;refine hQ ?_;clear hQ
    exact ⟨by simpa [hyx] using g0,by simpa [hyx] using S.other y _ hyx h3,items',by simpa [hyx] using S.plain (PlainList.keep h4 e1),h5.move' (sq _) le'⟩
 ·rw [zZ] at g1 g2
  by_cases hy:y=x
  ·by_cases hz:z=x
   ·rw [hy,hz]
   ·rw [if_pos hy,if_neg hz] at e
    rw [if_neg hz] at g2
    exact absurd e.symm (hne z l2 g2)
  ·by_cases hz:z=x
   ·rw [if_neg hy,if_pos hz] at e
    rw [if_neg hy] at g1
    exact absurd e (hne y l1 g1)
   ·rw [if_neg hy,if_neg hz] at e
    rw [if_neg hy] at g1
    rw [if_neg hz] at g2
    exact F.inj y z l1 l2 g1 g2 e
theorem Fr.atFlat (F:Fr w k A s₀ sc env off₀ ρ m cm ad s):At w k A sc env s (fun a=>∃ o,s.heap.get? a=some o) (uV ρ):=by
 refine ⟨F.room,F.en,F.glbs,fun a ha=>ha,⟨m,F.call.toInCall.ns,fun x X hX=>?_⟩,F.apart⟩
 apply bc;intro hQ;rcases sZ (fun p q e=>by
  obtain ⟨y,t⟩:=p
  dsimp only at e
  split at e
  ·split at e
   ·(injection e with e;subst e);rfl
   ·contradiction
  ·contradiction) hX with ⟨sl,h1,h2⟩;refine hQ ?_;clear hQ
 have so:=F.slots x sl (wJ F.nd h1)
 dsimp only at h2
 split at h2
 ·split at h2
  ·rename_i hf
   cases h2
   obtain ⟨v,h3,h4⟩:=so
   exact ⟨v,sy hf h4,fJ F h3⟩
  ·contradiction
 ·contradiction
theorem iw (S:∀ n,Snd w k c n) (F:Fr w k A s₀ sc env off₀ ρ m cm ad s) {x:Str} {p pos:Pos} {e:Expr} {Kn Kb:SRho→Prop} {Kr:V→Prop} {Q:Flow→Shared→Prop} (hx:uZ sc x=true) (hc:zQb e=true)
  (kk:ew c sc n e (uV ρ) fun X=>onS (lstV X) fun l=>onT (l.all vq) (Kn (setS x (.own l) ρ)))
  (q:∀ f s',Out w k A s₀ sc env off₀ (offF off₀ ρ ad) s.heap Kn Kr Kb f s'→Q f s'):wpAny (model pw w) A (exec (.Assign [.Name x p] e pos) env) Q E s:=by
 refine wpAny_Assign_Name ((S n).e F.atFlat kk fun X v h' tk kx e1 r1=>?_) (zY hc _ _ _)
 apply bc;intro hQ;rcases onS.inv kx with ⟨l,hX,kx⟩;rcases onT.inv kx with ⟨hf,kx⟩;refine hQ ?_;clear hQ
 rw [zZf hX] at r1
 apply bc;intro hQ;rcases r1.lst_plain with ⟨a,vs,rfl,hno,hp,hr⟩;refine hQ ?_;clear hQ
 have ha:s.heap.get? a=none:=by
  cases e:s.heap.get? a with
  | none=>rfl
  | some o=>exact absurd ⟨o,e⟩ hno
 refine (F.keep (tk:=tk) e1).storeRaw hx fun h2 tk2 m' cm' B st=>?_
 obtain ⟨F2,st2⟩:=F.newOwn e1 hf hp hr ha st
 exact q .next _ ⟨_,m',cm',_,kx,F2,st2⟩
end
section
variable {w:World} {A:Around} {E:Value→Shared→Prop} {off₀:Addr→Prop} {s₀ s:Shared} {k n:Nat} {sc:Scope} {env:Env} {ρ:SRho} {c:Cx} {m cm:Str→Option Value} {ad:Str→Addr}
theorem RdL.reverse {h:Heap} {off:Addr→Prop}:∀ {l:List V} {vs:List Value},RdL h off l vs→RdL h off l.reverse vs.reverse
 | [],vs,r=>by obtain rfl:=r;exact RdL.nil
 | X :: l,vs,r=>by
  obtain ⟨v,r',rfl,e2,e3⟩:=r
  rw [List.reverse_cons,List.reverse_cons]
  exact (RdL.reverse e3).append (RdL.one e2)
theorem zXh (F:Fr w k A s₀ sc env off₀ ρ m cm ad s) {x:Str} {l:List V} {p ap cp pos:Pos} {Kn Kb:SRho→Prop} {Kr:V→Prop} {Q:Flow→Shared→Prop}
  (hl:ρ.lookup x=some (.own l)) (hline:(ap.endLine == cp.line)=true) (hlen:l.length≤sizeLine) (kk:Kn (setS x (.own l.reverse) ρ))
  (q:∀ f s',Out w k A s₀ sc env off₀ (offF off₀ ρ ad) s.heap Kn Kr Kb f s'→Q f s'):wpAny (model pw w) A (exec (.Expr (.Call (.Attribute (.Name x p) "reverse" ap) [] [] cp) pos) env) Q E s:=by
 apply bc;intro hQ;rcases F.slots x _ hl with ⟨g0,g1,items,g2,g3⟩;refine hQ ?_;clear hQ
 have hlen':=g3.length
 rw [Array.length_toList] at hlen'
 refine wpAny_Expr ?_ (by unfold interactive;rw [F.en.scope,F.en.kind];rfl) rfl
 refine wpAny_Call_method_late rfl rfl hline rfl (wV F g1 ?_)
 refine ⟨"list","list.reverse",PySem.F.plainAttrs_list,PySem.F.slot_list_reverse,PySem.F.type_list_reverse,g2.isList.typeIs,fun a ea=>by (injection ea with ea;subst ea);obtain ⟨nn,g2⟩:=g2;exact ⟨_,g2,rfl⟩,?_⟩
 refine yy (args:=[]) rfl (args_nil ?_)
 obtain ⟨nn,e⟩:=id g2
 refine call_meets PySem.F.slot_list_reverse g2.isList.typeIs PySem.F.entry_list_reverse (PySem.F.args_list_reverse_1 _) (AutoListH.list_reverse_list_0 (ad x) items nn (by rw [hlen'];exact hlen)) ⟨e,?_⟩
 have hp:(s.heap.update (ad x) (Obj.mapSeq fun x=>x.reverse)).PlainList (ad x) items.reverse:=⟨_,Heap.get?_update_self _ e rfl⟩
 have sb:Heap.SameBut (ad x) s.heap (s.heap.update (ad x) (Obj.mapSeq fun x=>x.reverse)):=Heap.SameBut.update ..
 refine q .next _ ⟨_,m,cm,ad,kk,(F.setOwnIn hl hp sb ?_),Step.own F hl hp sb⟩
 rw [Array.toList_reverse]
 exact g3.reverse
end
theorem zXi {b1 b2 b3 b4 b5:Bool} {ns:List Str} {X:Sem (Option (List Str))} {r:Option (List Str)} (h:yZq b1 b2 b3 b4 b5 ns=some r) :
  (if b1=true then pure none else if b2=true then pure none else if b3=true then pure none else if b4=true then pure none else if b5=true then X else pure (some ns))=(pure r:Sem (Option (List Str))):=by
 cases b1 with
 | true=>exact congrArg pure (Option.some.inj h)
 | false=>cases b2 with
  | true=>exact congrArg pure (Option.some.inj h)
  | false=>cases b3 with
   | true=>exact congrArg pure (Option.some.inj h)
   | false=>cases b4 with
    | true=>exact congrArg pure (Option.some.inj h)
    | false=>cases b5 with
     | true=>exact nn h
     | false=>exact congrArg pure (Option.some.inj h)
theorem mv {sc:Scope} {env:Env} (H:EnvOk sc env) {ts:List Expr} {k:Nat} {p:Pos} {e:Expr} {r:Option (List Str)} (h:kX sc ts e=some r):swappedStores [.Tuple ts k p] e env=pure r:=by
 have hb:env.blockKind=.function:=by unfold Env.blockKind;rw [H.scope,H.kind];rfl
 cases e with
 | Tuple vs k' p' =>
  unfold swappedStores
  dsimp only
  rw [hb,show (ScopeKind.function != ScopeKind.function)=false from rfl,Bool.or_false]
  unfold Env.kindOf
  rw [H.scope]
  exact zXi h
 | _=>exact congrArg pure (Option.some.inj h)
section
variable {w:World} {A:Around} {E:Value→Shared→Prop} {off₀:Addr→Prop} {s₀ s:Shared} {k n:Nat} {sc:Scope} {env:Env} {ρ:SRho} {c:Cx} {m cm:Str→Option Value} {ad:Str→Addr}
theorem iy {ρ':SRho} (h:∀ y,ρ'.lookup y=ρ.lookup y):offF off₀ ρ' ad=offF off₀ ρ ad:=by
 funext a;unfold offF;simp only [h]
theorem Fr.congr {ρ':SRho} (F:Fr w k A s₀ sc env off₀ ρ m cm ad s) (h:∀ y,ρ'.lookup y=ρ.lookup y) (nd:(ρ'.map (·.1)).Nodup):Fr w k A s₀ sc env off₀ ρ' m cm ad s:=by
 refine ⟨F.room,F.en,F.call,F.glb,F.tab,F.old,fun x sl hx=>?_,nd,fun x y l l' h1 h2 e=>F.inj x y l l' (h x ▸ h1) (h y ▸ h2) e,F.hid⟩
 rw [iy h]
 exact F.slots x sl (h x ▸ hx)
theorem kK (ts:List Expr) (kk:Nat) (p:Pos) (e:Expr) (l:Nat) (env:Env):swapsWithSole [.Tuple ts kk p] e l env=pure false:=by
 cases e <;> rfl
theorem pk {names:List Str}:∀ {Xs:List V} {ρ ρ':SRho},names.Nodup→sk names Xs ρ=some ρ'→∀ y,ρ'.lookup y=match (names.zip Xs).lookup y with | some X=>some (.val X) | none=>ρ.lookup y:=by
 induction names with
 | nil =>
  intro Xs ρ ρ' _ h y
  cases Xs with
  | nil=>rw [← Option.some.inj h];rfl
  | cons X Xs=>exact nn h
 | cons x xs ih =>
  intro Xs ρ ρ' nd h y
  cases Xs with
  | nil=>exact nn h
  | cons X Xs =>
   rw [List.nodup_cons] at nd
   rw [ih nd.2 (show sk xs Xs (setS x (.val X) ρ)=some ρ' from h) y,List.zip_cons_cons]
   by_cases hy:y=x
   ·subst hy
    have hn:(xs.zip Xs).lookup y=none:=Option.eq_none_iff_forall_ne_some.mpr fun Z e=>nd.1 (List.of_mem_zip (ez e)).1
    rw [hn,pZ,zZ,if_pos rfl]
   ·rw [sJ hy,zZ,if_neg hy]
theorem yZt {α β:Type} {l:List α}:∀ {r:List β},l.length=r.length→l.reverse.zip r.reverse=(l.zip r).reverse:=by
 induction l with
 | nil=>intro r h;cases r with
  | nil=>rfl
  | cons y r=>exact absurd h (Nat.succ_ne_zero _).symm
 | cons x l ih=>intro r h;cases r with
  | nil=>exact absurd h (Nat.succ_ne_zero _)
  | cons y r =>
   have h':l.length=r.length:=Nat.succ.inj h
   rw [List.reverse_cons,List.reverse_cons,List.zip_cons_cons,List.reverse_cons,List.zip_append (by rw [List.length_reverse,List.length_reverse,h']),ih h']
   rfl
theorem dj {α:Type} {l:List α} (h:l.Nodup):l.reverse.Nodup:=List.pairwise_reverse.mpr (List.Pairwise.imp (fun h=>Ne.symm h) h)
theorem hZ {α:Type} {y:Str} {l:List (Str×α)} (nd:(l.map (·.1)).Nodup):l.reverse.lookup y=l.lookup y:=by
 have nd':(l.reverse.map (·.1)).Nodup:=by rw [List.map_reverse];exact dj nd
 cases e:l.lookup y with
 | some X=>exact wJ nd' (List.mem_reverse.mpr (yJ e))
 | none =>
  cases e':l.reverse.lookup y with
  | none=>rfl
  | some Z=>have:=wJ nd (List.mem_reverse.mp (yJ e'));rw [e] at this;contradiction
theorem kW:∀ {names:List Str} {Xs:List V} {ρ:SRho},names.length=Xs.length→∃ ρ',sk names Xs ρ=some ρ'
 | [],[],ρ,_=>⟨ρ,rfl⟩
 | [],_ :: _,_,h=>by contradiction
 | _ :: _,[],_,h=>by contradiction
 | x :: xs,X :: Xs,ρ,h=>by
  unfold sk
  exact kW (by simpa using h)
theorem dk {names:List Str}:∀ {Xs:List V} {ρ ρ':SRho},(ρ.map (·.1)).Nodup→sk names Xs ρ=some ρ'→(ρ'.map (·.1)).Nodup:=by
 induction names with
 | nil =>
  intro Xs ρ ρ' nd h
  cases Xs with
  | nil=>rw [← Option.some.inj h];exact nd
  | cons X Xs=>exact nn h
 | cons x xs ih =>
  intro Xs ρ ρ' nd h
  cases Xs with
  | nil=>exact nn h
  | cons X Xs=>exact ih (xV nd) h
theorem zXj {names:List Str} {Xs:List V} {ρ ρ' ρ'':SRho} (nd:names.Nodup) (h:sk names Xs ρ=some ρ') (h2:sk names.reverse Xs.reverse ρ=some ρ'') (y:Str):ρ'.lookup y=ρ''.lookup y:=by
 have hl:=vz h
 rw [pk nd h y,pk (dj nd) h2 y]
 have e:names.reverse.zip Xs.reverse=(names.zip Xs).reverse:=yZt hl
 rw [e,hZ]
 rw [List.map_fst_zip (by lia)];exact nd
end
theorem qY {sc:Scope} {ts:List Expr} {ys:List Str} (h:vY ts=some ys) (hl:(xx sc ts).length=ts.length):xx sc ts=ys:=by
 unfold xx at hl ⊢
 generalize (ts.head?.map (·.pos.line)).getD 0=line at hl ⊢
 induction ts generalizing ys with
 | nil=>cases h;rfl
 | cons e es ih =>
  apply bc;intro hQ;rcases kQ h with ⟨x,p,ns,rfl,h1,rfl⟩;refine hQ ?_;clear hQ
  have le:=List.length_filterMap_le (fun e=>match e with
   | .Name nm pos=>if (sc.names.lookup nm == some .local && pos.line == line)=true then some nm else none
   | _=>none) es
  rw [List.filterMap_cons] at hl ⊢
  dsimp only at hl ⊢
  by_cases hc:(sc.names.lookup x == some .local && p.line == line)=true
  ·rw [if_pos hc] at hl ⊢
   dsimp only at hl ⊢
   rw [ih h1 (Nat.succ.inj hl)]
  ·rw [if_neg hc] at hl
   exact absurd (Nat.le_trans (Nat.le_of_eq hl.symm) le) (Nat.not_succ_le_self _)
section
variable {w:World} {A:Around} {E:Value→Shared→Prop} {off₀:Addr→Prop} {s₀ s:Shared} {k n:Nat} {sc:Scope} {env:Env} {ρ:SRho} {c:Cx} {m cm:Str→Option Value} {ad:Str→Addr}
theorem kY:∀ (names:List Str),Stores (model pw w) env names (names.map fun n=>bindName env n)
 | []=>.nil
 | x :: xs=>.cons (fun h=>bindName_ h) (kY xs)
theorem zJw {b1 b2 b3 b4 b5:Bool} {ns names:List Str} (h:yZq b1 b2 b3 b4 b5 ns=some (some names)):names=ns∧b3=false:=by
 cases b1 with
 | true=>exact nn (Option.some.inj h)
 | false=>cases b2 with
  | true=>exact nn (Option.some.inj h)
  | false=>cases b3 with
   | true=>exact nn (Option.some.inj h)
   | false=>cases b4 with
    | true=>exact nn (Option.some.inj h)
    | false=>cases b5 with
     | true=>exact nn h
     | false=>exact ⟨(Option.some.inj (Option.some.inj h)).symm,rfl⟩
theorem dw {ts:List Expr} {e:Expr} {names:List Str} (h:kX sc ts e=some (some names)):names=xx sc ts∧(xx sc ts).length=ts.length:=by
 cases e with
 | Tuple vs =>
  obtain ⟨h1,h2⟩:=zJw h
  rw [Bool.or_eq_false_iff,bne_eq_false_iff_eq] at h2
  exact ⟨h1,h2.1⟩
 | _=>exact nn (Option.some.inj h)
theorem yV0 (S:∀ n,Snd w k c n) (F:Fr w k A s₀ sc env off₀ ρ m cm ad s) {vs:List Str} {ts:List Expr} {kt:Nat} {p pos:Pos} {e:Expr} {r:Option (List Str)} {Kn Kb:SRho→Prop} {Kr:V→Prop} {Q:Flow→Shared→Prop} (hsw:kX sc ts e=some r)
  (kk:ew c sc n e (xy vs ρ) fun X=>onS (tK sc (.Tuple ts kt p) X (Mine.freeze vs ρ)) Kn)
  (q:∀ f s',Out w k A s₀ sc env off₀ (offF off₀ ρ ad) s.heap Kn Kr Kb f s'→Q f s'):wpAny (model pw w) A (exec (.Assign [.Tuple ts kt p] e pos) env) Q E s:=by
 have sw:=mv F.en (k:=kt) (p:=p) hsw
 cases r with
 | none =>
  refine Assign_Tuple ((S n).e (F.at' vs) kk fun X v h' tk kx e1 r1=>?_) (kK _ _ _ _ _ _) sw
  have F1:=(F.keep (tk:=tk) e1).freeze vs
  apply bc;intro hQ;rcases onS.inv kx with ⟨ρ',hb,kx⟩;refine hQ ?_;clear hQ
  ·exact fV F1 hb (r1.move (Keep.refl _).seqs fun a z=>xX z) fun m' cm' s' F2 st=>q .next _ ⟨ρ',m',cm',ad,kx,F2,(Step.keep e1 fun a z=>fW z).trans st⟩
 | some names =>
  apply bc;intro hQ;rcases dw hsw with ⟨rfl,hlen⟩;refine hQ ?_;clear hQ
  refine Assign_Tuple_swapped ((S n).e (F.at' vs) kk fun X v h' tk kx e1 r1=>?_) (kK _ _ _ _ _ _) sw
  have F1:=(F.keep (tk:=tk) e1).freeze vs
  apply bc;intro hQ;rcases onS.inv kx with ⟨ρ',hb,kk'⟩;rcases Option.bind_eq_some_iff.mp hb with ⟨Xs,hX,hb1⟩;refine hQ ?_;clear hQ
  cases zZe hX
  apply bc;intro hQ;rcases Option.bind_eq_some_iff.mp hb1 with ⟨ys,hys,hb2⟩;rcases Option.bind_eq_some_iff.mp hb2 with ⟨_,hc,hb⟩;refine hQ ?_;clear hQ
  have hc:=(vx hc).1
  rw [Bool.and_eq_true,List.all_eq_true,decide_eq_true_eq] at hc
  have hn:=qY hys hlen
  apply bc;intro hQ;rcases (r1.move (off':=offF off₀ (Mine.freeze vs ρ) ad) (Keep.refl _).seqs fun a z=>xX z).tup_inv with ⟨t,items,rfl,h6,h7,h8⟩;refine hQ ?_;clear hQ
  have hl:=h8.length
  rw [Array.length_toList] at hl
  have hsz:(xx sc ts).length=items.size:=by rw [hn,hl];exact vz hb
  rw [hsz]
  refine wpAny_unpackItems_tuple (s:={ s with heap:=h',toks:=tk }) F.room.hd h7 fun h2 he=>?_
  have kp:Keep h' h2:=.of fun b o e=>he b o (Nat.ne_of_lt (Heap.lt_size e)) e
  obtain ⟨ρ2,hb2⟩:=kW (names:=ys.reverse) (Xs:=Xs.reverse) (ρ:=Mine.freeze vs ρ) (by simpa using vz hb)
  rw [hn]
  refine kJ (kY ys.reverse) (fun x hx=>hc.1 x (List.mem_reverse.mp hx)) (h8.keep kp).reverse hb2 (F1.keep (tk:=tk) kp) fun m' cm' s' F2 st=>?_
  have ce:=zXj hc.2 hb hb2
  have F3:=F2.congr ce (dk F1.nd hb)
  refine q .next _ ⟨ρ',m',cm',ad,kk',F3,?_⟩
  rw [iy ce]
  exact ((Step.keep e1 fun a z=>fW z).trans (Step.keep kp fun _ z=>z)).trans st
end
section
variable {w:World} {A:Around} {E:Value→Shared→Prop} {off₀:Addr→Prop} {s₀ s:Shared} {k n:Nat} {sc:Scope} {env:Env} {ρ:SRho} {c:Cx} {m cm:Str→Option Value} {ad:Str→Addr}
theorem RdL.erase {h:Heap} {off:Addr→Prop}:∀ {l:List V} {vs:List Value} {q:Nat},RdL h off l vs→RdL h off (l.eraseIdx q) (vs.eraseIdx q)
 | [],vs,q,r=>by obtain rfl:=r;simpa using RdL.nil
 | X :: l,vs,q,r=>by
  obtain ⟨v,r',rfl,e2,e3⟩:=r
  cases q with
  | zero=>simpa using e3
  | succ q=>simpa using RdL.cons e2 (RdL.erase e3)
theorem yV1 (S:∀ n,Snd w k c n) (F:Fr w k A s₀ sc env off₀ ρ m cm ad s) {x:Str} {l:List V} {p sp pos:Pos} {i:Expr} {Kn Kb:SRho→Prop} {Kr:V→Prop} {Q:Flow→Shared→Prop}
  (hl:ρ.lookup x=some (.own l))
  (kk:ew c sc n i (uV ρ) fun X=>onS (intV X) fun j=>onS (seqIndex? j l.length) fun q =>
   Builtin.List.listFitsIndex j=true∧l.length≤sizeLine∧Kn (setS x (.own (l.eraseIdx q)) ρ))
  (q:∀ f s',Out w k A s₀ sc env off₀ (offF off₀ ρ ad) s.heap Kn Kr Kb f s'→Q f s'):wpAny (model pw w) A (exec (.Delete [.Subscript (.Name x p) i sp] pos) env) Q E s:=by
 apply bc;intro hQ;rcases F.slots x _ hl with ⟨g0,g1,items,g2,g3⟩;refine hQ ?_;clear hQ
 refine wpAny_Delete (wpAny_deleteEach_cons (wpAny_delete_Subscript (wV F g1 ((S n).e F.atFlat kk fun X v h' tk kx e1 r1=>?_))))
 have F1:=F.keep (tk:=tk) e1
 apply bc;intro hQ;rcases onS.inv kx with ⟨j,hX,kx⟩;rcases onS.inv kx with ⟨qq,hq,kx⟩;refine hQ ?_;clear hQ
 rw [zW0 hX] at r1
 apply bc;intro hQ;rcases r1.int_inv with ⟨t,rfl⟩;rcases F1.slots x _ hl with ⟨g0',g1',items',g2',g3'⟩;refine hQ ?_;clear hQ
 have hlen:=g3'.length
 rw [Array.length_toList] at hlen
 refine wpAny_delItem_plain (s:={ s with heap:=h',toks:=tk }) g2' kx.1 (by rw [hlen];exact hq) (fun h2 hp sb=>wpAny_deleteEach_nil ?_) (by rw [hlen];exact kx.2.1)
 refine q .next _ ⟨_,m,cm,ad,kx.2.2,F1.setOwnIn hl hp sb ?_,(Step.keep e1 fun _ z=>z).trans (Step.own F1 hl hp sb)⟩
 have hqs:qq < items'.size:=by
  rw [hlen]
  exact PyProof.Rows.lt_of_seqIndex hq
 have he:(items'.eraseIdxIfInBounds qq).toList=items'.toList.eraseIdx qq:=by
  simp [Array.eraseIdxIfInBounds,hqs]
 rw [he]
 exact g3'.erase
theorem Has.unique {x:Str} {u v:Value} (a:Has sc env m cm x u) (b:Has sc env m cm x v):u=v:=by
 rcases a with ⟨a1,a2⟩ | ⟨a1,_,a2⟩ <;> rcases b with ⟨b1,b2⟩ | ⟨b1,_,b2⟩
 ·rw [a2] at b2;cases b2;rfl
 ·rw [a1] at b1;contradiction
 ·rw [a1] at b1;contradiction
 ·rw [a2] at b2;cases b2;rfl
theorem zJx (h:(owns ρ).isEmpty=true) {y:Str} {l:List V} (e:ρ.lookup y=some (.own l)):False:=by
 have:y∈owns ρ:=by
  exact List.mem_filterMap.mpr ⟨(y,.own l),yJ e,rfl⟩
 rw [List.isEmpty_iff.mp h] at this
 contradiction
inductive OwnVal (h0 h':Heap) (Y:V) (v:Value):Prop where
 | mk (t a:Addr) (items vs:Array Value) (v2:Value) (e:v=.ref t) (h7:h'.IsTuple t items) (hl:items.toList=[.ref a,v2]) (ha:h0.get? a=none) (hp:h'.PlainList a vs) (hr:RdL h' (fun _=>False) [] vs.toList) (r3:Rd h' (fun b=>∃ o,h0.get? b=some o) Y v2)
theorem zJy {h0 h':Heap} {X Y:V} {v:Value} (hX:kZ X=some Y) (r1:Rd h' (fun a=>∃ o,h0.get? a=some o) X v):OwnVal h0 h' Y v:=by
 rw [zQa hX] at r1
 apply bc;intro hQ;rcases r1.tup_inv with ⟨t,items,e,h6,h7,h8⟩;rcases h8.two_inv with ⟨v1,v2,hl,r2,r3⟩;rcases r2.lst_plain with ⟨a,vs,e2,ha,hp,hr⟩;refine hQ ?_;clear hQ
 refine ⟨t,a,items,vs,v2,e,h7,by rw [hl,e2],?_,hp,hr,r3⟩
 exact Option.eq_none_iff_forall_ne_some.mpr fun o e=>ha ⟨o,e⟩
theorem zJz {ts:List Expr} {x y:Str} (h:(vY ts).bind two2=some (x,y)):vY ts=some [x,y]:=by
 apply bc;intro hQ;rcases Option.bind_eq_some_iff.mp h with ⟨_,hvs,h2v⟩;refine hQ ?_;clear hQ
 rw [zW1 h2v] at hvs;exact hvs
theorem zXk (S:∀ n,Snd w k c n) (F:Fr w k A s₀ sc env off₀ ρ m cm ad s) {ts:List Expr} {kt:Nat} {p pos:Pos} {e:Expr} {ow:List Str} {Kn Kb:SRho→Prop} {Kr:V→Prop} {Q:Flow→Shared→Prop} (hsw:kX sc ts e=some none)
  (kk:ew c sc n e (uV ρ) fun X=>onS ((vY ts).bind two2) fun q=>onS (kZ X) fun Y=>onT (ow.contains q.1 && uZ sc q.1 && uZ sc q.2 && !(q.1 == q.2) && vq Y) (Kn (setS q.2 (.val Y) (setS q.1 (.own []) ρ))))
  (q:∀ f s',Out w k A s₀ sc env off₀ (offF off₀ ρ ad) s.heap Kn Kr Kb f s'→Q f s'):wpAny (model pw w) A (exec (.Assign [.Tuple ts kt p] e pos) env) Q E s:=by
 refine Assign_Tuple ((S n).e F.atFlat kk fun X v h' tk kx e1 r1=>?_) (kK _ _ _ _ _ _) (mv F.en (k:=kt) (p:=p) hsw)
 apply bc;intro hQ;rcases onS.inv kx with ⟨⟨x,y⟩,hxy,kx⟩;rcases onS.inv kx with ⟨Y,hX,kx⟩;rcases onT.inv kx with ⟨hc,kx⟩;refine hQ ?_;clear hQ
 simp only [Bool.and_eq_true] at hc
 apply bc;intro hQ;rcases zJy hX r1 with ⟨t,a,items,vs,v2,e,h7,hl,ha,hp,hr,r3⟩;rcases pq (w:=w) (env:=env) (zJz hxy) with ⟨g1,g2,g3⟩;refine hQ ?_;clear hQ
 rw [e]
 refine wpAny_assign_Tuple (s:={ s with heap:=h',toks:=tk }) F.room.hd h7 (by rw [g2,← Array.length_toList,hl];rfl) g3 fun h2 he=>?_
 have kp:Keep h' h2:=.of fun b o e=>he b o (Nat.ne_of_lt (Heap.lt_size e)) e
 rw [hl]
 generalize (assignEach ts env).map (·.2)=fs at g1
 apply bc;intro hQ;rcases g1.two with ⟨f,g,e,hf,hg⟩;refine hQ ?_;clear hQ
 rw [e]
 clear r1 g1 g2 g3 he e
 refine assignInOrder_cons (hf ((F.keep (tk:=tk) (e1.trans kp)).storeRaw hc.1.1.1.2 fun h3 tk3 m3 cm3 B3 st3=>?_))
 obtain ⟨F2,stp2⟩:=F.newOwn (l:=[]) (e1.trans kp) rfl (PlainList.keep hp kp) (hr.keep kp) ha st3
 refine assignInOrder_cons (hg (F2.storeRaw hc.1.1.2 fun h4 tk4 m4 cm4 B4 st4=>assignInOrder_nil ?_))
 exact q .next _ ⟨_,m4,cm4,_,kx,F2.setVal (X:=Y) (sy hc.2 r3) st4,stp2.trans (Step.stored F2 st4 fun a z=>zv z)⟩
theorem zXl {x y:Str} {Y:V} {l:List V} {a b:Addr} (own_no:∀ z l',(setS y (.val Y) ρ).lookup z=some (.own l')→False) (hb:offF off₀ (setS x (.own l) (setS y (.val Y) ρ)) (fun z=>if z=x then a else ad z) b):off₀ b∨b=a:=by
 rcases hb with hb | ⟨z,l',h1,h2⟩
 ·exact .inl hb
 ·dsimp only at h2
  rw [zZ] at h1
  split at h1
  ·rename_i hz;rw [if_pos hz] at h2;exact .inr h2.symm
  ·exact (own_no z l' h1).elim
theorem zJ0 (S:∀ n,Snd w k c n) (F:Fr w k A s₀ sc env off₀ ρ m cm ad s) {ts:List Expr} {kt:Nat} {p pos:Pos} {e:Expr} {r:List Str} {ow:List Str} {Kn Kb:SRho→Prop} {Kr:V→Prop} {Q:Flow→Shared→Prop} (hsw:kX sc ts e=some (some r))
  (kk:ew c sc n e (uV ρ) fun X=>onS ((vY ts).bind two2) fun q=>onS (kZ X) fun Y=>onT (ow.contains q.1 && uZ sc q.1 && uZ sc q.2 && !(q.1 == q.2) && vq Y && (owns ρ).isEmpty) (Kn (setS q.1 (.own []) (setS q.2 (.val Y) ρ))))
  (q:∀ f s',Out w k A s₀ sc env off₀ (offF off₀ ρ ad) s.heap Kn Kr Kb f s'→Q f s'):wpAny (model pw w) A (exec (.Assign [.Tuple ts kt p] e pos) env) Q E s:=by
 obtain ⟨er,hlen⟩:=dw hsw
 refine Assign_Tuple_swapped ((S n).e F.atFlat kk fun X v h' tk kx e1 r1=>?_) (kK _ _ _ _ _ _) (mv F.en (k:=kt) (p:=p) hsw)
 apply bc;intro hQ;rcases onS.inv kx with ⟨⟨x,y⟩,hxy,kx⟩;rcases onS.inv kx with ⟨Y,hX,kx⟩;rcases onT.inv kx with ⟨hc,kx⟩;refine hQ ?_;clear hQ
 simp only [Bool.and_eq_true] at hc
 apply bc;intro hQ;rcases zJy hX r1 with ⟨t,a,items,vs,v2,e,h7,hl,ha,hp,hr,r3⟩;refine hQ ?_;clear hQ
 rw [e,er,qY (zJz hxy) hlen,show [x,y].length=items.size by rw [← Array.length_toList,hl];rfl]
 refine wpAny_unpackItems_tuple (s:={ s with heap:=h',toks:=tk }) F.room.hd h7 fun h2 he=>?_
 have kp:Keep h' h2:=.of fun b o e=>he b o (Nat.ne_of_lt (Heap.lt_size e)) e
 have k2:=e1.trans kp
 rw [hl]
 clear r1 he e er hlen h7 hl hxy hX
 have F1:=F.keep (tk:=tk) k2
 refine assignInOrder_cons (bindName_ (F1.storeRaw hc.1.1.1.2 fun h3 tk3 m3 cm3 B3 st3=>?_))
 have F2:=F1.setVal (X:=Y) (sy hc.1.2 r3) st3
 refine assignInOrder_cons (bindName_ (F2.storeRaw hc.1.1.1.1.2 fun h4 tk4 m4 cm4 B4 st4=>assignInOrder_nil ?_))
 have own_no:∀ z l',(setS y (.val Y) ρ).lookup z=some (.own l')→False:=fun z l' hz=>by
  rw [zZ] at hz
  split at hz
  ·cases hz
  ·exact zJx hc.2 hz
 have F3:=F2.setOwn (x:=x) (l:=[]) (a:=a) (items:=vs) rfl (st3.plain (PlainList.keep hp kp)) (hr) (F.none0 ha) (fun z l' hz=>(own_no z l' hz).elim)
  (fun z Z u hz hu ru=>by
   rw [zZ] at hz
   split at hz
   ·cases hz;exact sy hc.1.2 ru
   ·rename_i hzy
    apply bc;intro hQ;rcases F.slots z _ hz with ⟨u',g1,g2⟩;refine hQ ?_;clear hQ
    rw [(st3.other z u' hzy g1).unique hu] at g2
    exact g2.move' (fun b o e d no=>st3.seqs _ b o (k2.seqs b o e d no) d no) fun b hb=>hb.imp zv fun (e:b=a)=>by rw [e];exact ha)
  (fun z l' vs hz _=>(own_no z l' hz).elim) st4
 exact q .next _ ⟨_,m4,cm4,_,kx,F3,(((Step.keep (off:=offF off₀ ρ ad) (off':=offF off₀ ρ ad) k2 fun _ z=>z).trans (Step.stored F1 st3 fun a z=>zv (x:=y) (X:=Y) z)).trans
  (Step.stored (off:=offF off₀ (setS y (.val Y) ρ) ad) (off':=offF off₀ (setS y (.val Y) ρ) ad) F2 st4 fun _ z=>z)).widen fun b hb=>(zXl own_no hb).imp .inl fun (e:b=a)=>by rw [e];exact ha⟩
end
noncomputable def SxOk (w:World) (k:Nat) (c:Cx) (sc:Scope):Prop :=
 ∀ {A E s₀ env off₀ st f ρ Kn Kr m cm ad s Q},c.pa A env→c.sx st=some f→Fr w k A s₀ sc env off₀ ρ m cm ad s→f ρ Kn Kr→(∀ f s',Out w k A s₀ sc env off₀ (offF off₀ ρ ad) s.heap Kn Kr (fun _=>False) f s'→Q f s')→wpAny (model pw w) A (exec st env) Q E s
theorem SxOk.none {w:World} {k:Nat} {c:Cx} {sc:Scope} (h:c.sx=fun _=>none):SxOk w k c sc:=fun _ e=>by rw [h] at e;contradiction
theorem Out.nobrk {w:World} {k:Nat} {A:Around} {off₀:Addr→Prop} {s₀:Shared} {sc:Scope} {env:Env} {off:Addr→Prop} {h:Heap} {Kn Kb:SRho→Prop} {Kr:V→Prop} {f:Flow} {s':Shared} (o:Out w k A s₀ sc env off₀ off h Kn Kr (fun _=>False) f s'):Out w k A s₀ sc env off₀ off h Kn Kr Kb f s':=by
 cases f with
 | brk=>obtain ⟨_,_,_,_,e,_⟩:=o;exact e.elim
 | _=>exact o
theorem yV2 {w:World} {k n:Nat} {c:Cx} {sc:Scope} {ow:List Str} {A:Around} {E:Value→Shared→Prop} {off₀:Addr→Prop} {s₀ s:Shared} {env:Env} {ρ:SRho} {m cm:Str→Option Value} {ad:Str→Addr} {Kx Kb:SRho→Prop} {Kr:V→Prop} {Q:Flow→Shared→Prop}
  (S:∀ n,Snd w k c n) (X:XOk w k c sc ow n) (hp:c.pa A env) (F:Fr w k A s₀ sc env off₀ ρ m cm ad s) {st:Stmt} (v:VS st) (kk:xsB c sc ow n (xs c sc ow n) ρ Kx Kr Kb v)
  (fin:∀ f s',Out w k A s₀ sc env off₀ (offF off₀ ρ ad) s.heap Kx Kr Kb f s'→Q f s'):wpAny (model pw w) A (exec st env) Q E s:=by
 induction v with
 | ret=>exact yQu S F kk fin
 | brk=>exact wpAny_Break (fin .brk s ⟨ρ,m,cm,ad,kk,F,Step.keep (Keep.refl _) fun _ z=>z⟩)
 | ife=>exact xZi S X hp F kk fin
 | asr=>exact zJu S F kk fin
 | asg x p e =>
  obtain ⟨hv,kk⟩:=onT.inv kk
  rw [Bool.and_eq_true,Bool.not_eq_true'] at hv
  rcases onB.inv kk with ⟨-,kk⟩ | ⟨-,kk⟩
  ·exact iw S F hv.1 (onT.inv kk).1 (onT.inv kk).2 fin
  ·exact zXg S F hv.1 hv.2 kk fin
 | tup ts k p e =>
  apply bc;intro hQ;rcases onS.inv kk with ⟨sw,hs,kk⟩;refine hQ ?_;clear hQ
  rcases onB.inv kk with ⟨-,kk⟩ | ⟨-,kk⟩
  ·cases sw with
   | some r=>exact zJ0 S F hs kk fin
   | none=>exact zXk S F hs kk fin
  ·exact yV0 S F hs kk fin
 | aug =>
  apply bc;intro hQ;rcases onT.inv kk with ⟨hv,kk⟩;rcases onS.inv kk with ⟨X0,hl,kk⟩;refine hQ ?_;clear hQ
  exact yVz S F hv (zW2 hl) kk fin
 | loop=>exact yVx S X hp F kk fin
 | meth x p m ap args =>
  obtain ⟨hv,kk⟩:=onT.inv kk
  rw [Bool.and_eq_true,Bool.and_eq_true,Bool.not_eq_true'] at hv
  obtain ⟨l,hl,kk⟩:=onS.inv kk
  cases args with
  | nil =>
   obtain ⟨hm,kk⟩:=onT.inv kk
   rw [decide_eq_true_eq] at hm
   subst hm
   exact zXh F (fZ hl) hv.2 kk.1 kk.2 fin
  | cons e es =>
   obtain ⟨hm,kk⟩:=onT.inv kk
   rw [Bool.and_eq_true,decide_eq_true_eq,List.isEmpty_iff] at hm
   obtain ⟨rfl,rfl⟩:=hm
   have he:=hv.1.2
   rw [List.any_cons,Bool.or_eq_false_iff] at he
   exact zJv S F (fZ hl) he.1 hv.2 kk fin
 | del =>
  apply bc;intro hQ;rcases onT.inv kk with ⟨hv,kk⟩;rcases onS.inv kk with ⟨l,hl,kk⟩;refine hQ ?_;clear hQ
  exact yV1 S F (fZ hl) kk fin
 | other=>exact kk.elim
theorem zW4 {w:World} {k n:Nat} {c:Cx} {sc:Scope} {ow:List Str} (S:∀ n,Snd w k c n) (Z:SxOk w k c sc) (X:XOk w k c sc ow n):XOk w k c sc ow (n + 1):=by
 intro A E s₀ env off₀ ss ρ Kn Kr Kb m cm ad s Q hp F kk q
 cases ss with
 | nil=>exact wpAny_execs_nil (q .next s ⟨ρ,m,cm,ad,kk,F,Step.keep (Keep.refl _) fun _ z=>z⟩)
 | cons st ss =>
  have kk:xsC c sc ow n (xs c sc ow n) st ss Kn Kr Kb (forgetQ (c.fs st) ρ):=kk
  have q:∀ f s',Out w k A s₀ sc env off₀ (offF off₀ (forgetQ (c.fs st) ρ) ad) s.heap Kn Kr Kb f s'→Q f s':=fun f s' o=>q f s' (o.from (Step.keep (Keep.refl _) fun _ z=>dx z))
  have F:=F.forgetQ (c.fs st)
  generalize forgetQ (c.fs st) ρ=ρ at kk q F
  refine wpAny_execs_cons ?_
  have fin:∀ f s',Out w k A s₀ sc env off₀ (offF off₀ ρ ad) s.heap (fun ρ'=>xs c sc ow n ss ρ' Kn Kr Kb) Kr Kb f s'→(match f with | .next=>wpAny (model pw w) A (execs ss env) Q E s' | f=>Q f s'):=fun f s' o=>by
   have h:=XOk.fin (E:=E) X hp q o
   cases f <;> exact h
  unfold xsC at kk
  revert fin
  generalize (fun ρ'=>xs c sc ow n ss ρ' Kn Kr Kb)=Kx at kk
  intro fin
  rcases onO.inv kk with ⟨f,hf,kk⟩ | ⟨-,kk⟩
  ·exact Z hp hf F kk fun f s' o=>fin f s' o.nobrk
  exact yV2 S X hp F (vs st) kk fin
theorem xok {w:World} {k:Nat} {c:Cx} {sc:Scope} {ow:List Str} (S:∀ n,Snd w k c n) (Z:SxOk w k c sc):∀ n,XOk w k c sc ow n
 | 0=>fun _ F kk q=>kk.elim
 | n + 1=>zW4 S Z (xok S Z n)
theorem len1 {α:Type} {l:List α} (h:l.length=1):∃ a,l=[a]:=List.length_eq_one_iff.mp h
theorem len2 {α:Type} {l:List α} (h:l.length=2):∃ a b,l=[a,b] :=
 match l,h with
 | a :: r,h=>let ⟨b,e⟩:=len1 (Nat.succ.inj h);⟨a,b,e ▸ rfl⟩
theorem len3 {α:Type} {l:List α} (h:l.length=3):∃ a b c,l=[a,b,c] :=
 match l,h with
 | a :: r,h=>let ⟨b,c,e⟩:=len2 (Nat.succ.inj h);⟨a,b,c,e ▸ rfl⟩
structure FnAt (w:World) (f:Str) (i:Nat) (a:Addr) (fd:FuncData):Prop where
 name:mgv w.params f=some (.ref a)
 obj:∃ o,(tG w.params).get a=some o∧o.data=.func fd
 code:∃ c o vs t,fd.code=.ref c∧(tG w.params).get c=some o∧o.cls=.type "code"∧o.data=.fields vs∧vs[1]?=some (.str fd.qualname t)
 body:fd.body=.stmts (fdB i)
 scope:fd.scope=fdSc i
 clo:fd.closure=[]
 glob:fd.globals=mainGlobals
 bui:fd.builtins=builtinsNs
noncomputable def fnSc (sc:Scope) (names locs:List Str):Bool :=
 sc.kind == .function && sc.isCoroutine == false && sc.isGenerator == false && sW sc && sc.names.all (fun p=>p.2 != .free) && names.all (uZ sc) && decide ((names++locs).Nodup)
theorem zw {x:Str} {k:NameKind}:∀ {l:List (Str×NameKind)},l.lookup x=some k→(x,k)∈l
 | [],h=>by contradiction
 | (y,b) :: r,h=>by
  by_cases hx:x=y
  ·subst hx;rw [List.lookup_cons,beq_self_eq_true] at h;(injection h with h;subst h);exact List.mem_cons_self
  ·rw [List.lookup_cons,beq_eq_false_iff_ne.mpr hx] at h;exact List.mem_cons_of_mem _ (zw h)
theorem pv {x:Str} (l:List (Str×NameKind)):∀ (n:Nat) (acc:List (Str×Addr)),((x,NameKind.cell)∈l∨∃ c,acc.lookup x=some c)→∃ c,(cellsFrom n l acc).lookup x=some c:=by
 induction l with
 | nil=>exact fun n acc h=>h.elim (fun h=>nm h) _root_.id
 | cons p r ih =>
  intro n acc h
  obtain ⟨y,k⟩:=p
  have h1:(x,NameKind.cell)=(y,k)∨(x,NameKind.cell)∈r∨∃ c,acc.lookup x=some c:=h.elim (fun h=>(List.mem_cons.mp h).imp _root_.id .inl) fun h=>.inr (.inr h)
  unfold cellsFrom
  by_cases hk:(k == NameKind.cell)=true
  ·rw [if_pos hk]
   refine ih (n + 1) _ ?_
   by_cases hx:x=y
   ·subst hx;exact .inr ⟨n,pZ⟩
   ·exact (h1.resolve_left fun e=>hx (congrArg (·.1) e)).imp _root_.id fun ⟨c,h⟩=>⟨c,(sJ hx).trans h⟩
  ·rw [if_neg hk]
   exact ih n acc (h1.resolve_left fun e=>hk (by injection e with _ e2;subst e2;rfl))
theorem dy {ko:Str→Option NameKind} {x:Str} {v:Value} (hk:ko x=some .local):∀ (l:List (Str×Value)) (m:Str→Option Value),(l.map (·.1)).Nodup→((x,v)∈l∨(x ∉ l.map (·.1)∧m x=some v))→bindL ko l m x=some v
 | [],m,_,h=>by
  rcases h with h | h
  ·contradiction
  ·exact h.2
 | (y,u) :: r,m,nd,h=>by
  rw [List.map_cons,List.nodup_cons] at nd
  refine dy hk r _ nd.2 ?_
  rcases h with h | h
  ·rcases List.mem_cons.mp h with h | h
   ·cases h;exact .inr ⟨nd.1,by rw [if_pos hk];exact if_pos rfl⟩
   ·exact .inl h
  ·rw [List.map_cons,List.mem_cons,not_or] at h
   refine .inr ⟨h.1.2,?_⟩
   by_cases hy:ko y=some .local
   ·rw [if_pos hy];exact (if_neg h.1.1).trans h.2
   ·rw [if_neg hy];exact h.2
theorem cQ {ko:Str→Option NameKind} {x:Str} {v:Value} (hk:ko x=some .cell):∀ (l:List (Str×Value)) (m:Str→Option Value),(l.map (·.1)).Nodup→((x,v)∈l∨(x ∉ l.map (·.1)∧m x=some v))→bindC ko l m x=some v
 | [],m,_,h=>by
  rcases h with h | h
  ·contradiction
  ·exact h.2
 | (y,u) :: r,m,nd,h=>by
  rw [List.map_cons,List.nodup_cons] at nd
  refine cQ hk r _ nd.2 ?_
  rcases h with h | h
  ·rcases List.mem_cons.mp h with h | h
   ·cases h;exact .inr ⟨nd.1,by rw [if_neg (by rw [hk];decide)];exact if_pos rfl⟩
   ·exact .inl h
  ·rw [List.map_cons,List.mem_cons,not_or] at h
   refine .inr ⟨h.1.2,?_⟩
   by_cases hy:ko y=some .local
   ·rw [if_pos hy];exact h.2
   ·rw [if_neg hy];exact (if_neg h.1.1).trans h.2
noncomputable def wW (names:List Str) (l:List V) (locs:List Str):SRho:=names.zip (l.map Slt.val)++locs.map fun x=>(x,Slt.un)
theorem zQc {names:List Str} {l:List V} {locs:List Str} (h:l.length=names.length):(wW names l locs).map (·.1)=names++locs:=by
 unfold wW
 rw [List.map_append,List.map_map]
 congr 1
 ·rw [List.map_fst_zip];simp [h]
 ·simp [Function.comp_def]
theorem yQv {h:Heap} {off:Addr→Prop} {x:Str} {sl:Slt} {names:List Str}:∀ {l:List V} {vs:List Value},RdL h off l vs→(x,sl)∈names.zip (l.map Slt.val)→∃ X v,sl=.val X∧(x,v)∈names.zip vs∧Rd h off X v:=by
 induction names with
 | nil=>exact fun _ h=>nm h
 | cons n ns ih =>
  intro l vs r hz
  cases l with
  | nil=>exact nm hz
  | cons X l =>
   obtain ⟨v,r',rfl,e1,e2⟩:=r
   rcases List.mem_cons.mp hz with hz | hz
   ·injection hz with h1 h2;exact ⟨X,v,h2,by rw [h1];exact List.mem_cons_self,e1⟩
   ·obtain ⟨Y,u,h1,h2,h3⟩:=ih e2 hz
    exact ⟨Y,u,h1,List.mem_cons_of_mem _ h2,h3⟩
noncomputable def FnOk (w:World) (k:Nat) (a:Addr) (g:List V→Kp→Prop):Prop :=
 ∀ (A:Around) (E:Value→Shared→Prop) (off:Addr→Prop) (s:Shared) (l:List V) (vs:List Value) (K:Kp) (Q:Value→Shared→Prop),Room k A→Glb w s.heap→Old off s.heap→RdL s.heap off l vs→g l K→Res off s K Q→wpAny (model pw w) A (call (.ref a) vs) Q E s
section
variable {w:World} {k:Nat}
noncomputable abbrev gh (s:Shared):Shared:={ s with heap:=hideAll s.heap [30,37] }
theorem zJ1 {b:Addr}:Hid b=true ↔ b∈[30,37]:=by unfold Hid;simp
theorem uv {s:Shared} {b:Addr} {o:Obj} (e:s.heap.get? b=some o) (h:Hid b=false):(gh s).heap.get? b=some o:=hideAll_get _ e fun q=>by rw [zJ1.mpr q] at h;contradiction
theorem yZu {s s₁:Shared} {L:Addr} {m cm:Str→Option Value} {cs:List (Str×Addr)} (X:InCallC s L m cs cm s₁):InCallC (gh s) L m cs cm s₁:=by
 refine ⟨⟨?_,X.toInCall.ns,fun b o e=>X.toInCall.keep b o (of_hideAll _ e),?_⟩,X.cell,X.apart,X.above⟩
 ·apply bc;intro hQ;rcases X.toInCall.same with ⟨h,tk,e⟩;refine hQ ?_;clear hQ
  exact ⟨h,tk,by rw [e]⟩
 ·rw [hideAll_size];exact X.toInCall.fresh
theorem zW5 {f:Str} {i:Nat} {a:Addr} {fd:FuncData} (H:FnAt w f i a fd) {names locs:List Str} (hsc:fnSc (fdSc i) names locs=true) {A:Around} {off:Addr→Prop} {s s₁:Shared} {l:List V} {vs:List Value} (room:Room k A) (G:Glb w s.heap) (ol:Old off s.heap) (r:RdL s.heap off l vs) (hl:l.length=names.length)
  (X:InCallC s (callEnvC fd s.heap.objs.size a).locals (bindL (callEnvC fd s.heap.objs.size a).kindOf (names.zip vs) fun _=>none) (callEnvC fd s.heap.objs.size a).cells (bindC (callEnvC fd s.heap.objs.size a).kindOf (names.zip vs) fun _=>none) s₁) :
  Fr w k A (gh s) (fdSc i) (callEnvC fd s.heap.objs.size a) off (wW names l locs) (bindL (callEnvC fd s.heap.objs.size a).kindOf (names.zip vs) fun _=>none) (bindC (callEnvC fd s.heap.objs.size a).kindOf (names.zip vs) fun _=>none) (fun _=>0) s₁:=by
 unfold fnSc at hsc
 simp only [Bool.and_eq_true] at hsc
 apply bc;intro hQ;rcases hsc with ⟨⟨⟨⟨⟨⟨h1,h2⟩,h3⟩,h4⟩,h5⟩,h6⟩,h7⟩;refine hQ ?_;clear hQ
 have nd:(names++locs).Nodup:=by simpa using h7
 have ndn:names.Nodup:=(List.nodup_append.mp nd).1
 have hlv:=r.length
 have keys:(names.zip vs).map (·.1)=names:=by rw [List.map_fst_zip];lia
 have no_own:∀ x l',(wW names l locs).lookup x=some (.own l')→False:=fun x l' e=>by
  have:=yJ e
  unfold wW at this
  rcases List.mem_append.mp this with h | h
  ·apply bc;intro hQ;rcases yQv r h with ⟨_,_,e,_⟩;refine hQ ?_;clear hQ;contradiction
  ·apply bc;intro hQ;rcases List.mem_map.mp h with ⟨_,_,e⟩;refine hQ ?_;clear hQ;cases e
 have hcell:∀ x,(fdSc i).names.lookup x=some .cell→∃ c,(callEnvC fd s.heap.objs.size a).cells.lookup x=some c:=fun x hx=>by
  show ∃ c,(cellsFrom _ fd.scope.names []).lookup x=some c
  rw [H.scope]
  exact pv _ _ _ (.inl (zw hx))
 refine ⟨room,⟨H.scope,by simpa using h1,H.glob,H.bui,h4,fun x hx=>?_⟩,yZu X,fun a o e=>?_,G.tab.all X.toInCall.keep,fun b hb=>?_,fun x sl hx=>?_,by rw [zQc hl];exact nd,fun x y l1 l2 e _ _=>(no_own x l1 e).elim,fun b hb=>hideAll_none _ (zJ1.mp hb)⟩
 ·rcases vk hx with hx | hx
  ·exact hcell x hx
  ·have:=List.all_eq_true.mp h5 _ (zw hx)
   simp at this
 ·cases hh:Hid a with
  | false =>
   have e1:=uv (G.at_ a o e (.inl hh)) hh
   exact ⟨by rw [hideAll_size];exact Heap.lt_size (of_hideAll _ e1),fun _=>e1⟩
  | true =>
   obtain ⟨ps,e1⟩:=yQ G.tab hh
   exact ⟨by rw [hideAll_size];exact Heap.lt_size e1,fun q=>by contradiction⟩
 ·obtain ⟨o,e⟩:=ol b hb
  cases hh:Hid b with
  | false=>exact .inl ⟨o,uv e hh⟩
  | true=>exact .inr rfl
 ·have hm:=yJ hx
  rcases List.mem_append.mp hm with h | h
  ·apply bc;intro hQ;rcases yQv r h with ⟨Y,v,rfl,g1,g2⟩;refine hQ ?_;clear hQ
   have hn:x∈names:=(List.of_mem_zip g1).1
   have hv:=fK (List.all_eq_true.mp h6 x hn)
   have sc:∀ x,(callEnvC fd s.heap.objs.size a).kindOf x=(fdSc i).names.lookup x:=fun x=>by
    show fd.scope.names.lookup x=_
    rw [H.scope]
   refine ⟨v,?_,g2.move' (Keep.seqs (.of X.toInCall.keep)) fun b q=>.inl (q.elim _root_.id fun ⟨y,l',e,_⟩=>(no_own y l' e).elim)⟩
   rcases hv with hv | hv
   ·exact .inl ⟨hv,dy (by rw [sc];exact hv) _ _ (by rw [keys];exact ndn) (.inl g1)⟩
   ·exact .inr ⟨hv,hcell x hv,cQ (by rw [sc];exact hv) _ _ (by rw [keys];exact ndn) (.inl g1)⟩
  ·apply bc;intro hQ;rcases List.mem_map.mp h with ⟨_,_,e⟩;refine hQ ?_;clear hQ
   cases e;trivial
theorem qx {f:Str} {i:Nat} {a:Addr} {fd:FuncData} (H:FnAt w f i a fd) {names locs:List Str} (hsc:fnSc (fdSc i) names locs=true)
  (hb:∀ vs:List Value,vs.length=names.length→bindArgs fd ⟨vs,[]⟩=pure (names.zip vs))
  {A:Around} {E:Value→Shared→Prop} {off:Addr→Prop} {s:Shared} {l:List V} {vs:List Value} {Q:Value→Shared→Prop} (room:Room (k + 1) A) (G:Glb w s.heap) (ol:Old off s.heap) (r:RdL s.heap off l vs) (hl:l.length=names.length)
  (h:∀ env m cm ad s₁,env=callEnvC fd s.heap.objs.size a→Fr w k (A.deeper env) (gh s) (fdSc i) env off (wW names l locs) m cm ad s₁ →
   wpAny (model pw w) (A.deeper env) (execs (fdB i) env) (fun f s'=>Q (match f with | .ret v=>v | _=>.none) s') (fun e s'=>wpAny (model pw w) (A.deeper env) (leaving env e) (fun _ s''=>E e s'') (fun e' s''=>E e' s'') s') s₁) :
  wpAny (model pw w) A (call (.ref a) vs) Q E s:=by
 apply bc;intro hQ;rcases H.obj with ⟨o,ho,hd⟩;rcases H.code with ⟨cc,co,cvs,ct,hc1,hc2,hc0,hc3,hc4⟩;refine hQ ?_;clear hQ
 have hsc':=hsc
 unfold fnSc at hsc'
 simp only [Bool.and_eq_true] at hsc'
 apply bc;intro hQ;rcases hsc' with ⟨⟨⟨⟨⟨⟨h1,h2⟩,h3⟩,h4⟩,h5⟩,h6⟩,h7⟩;refine hQ ?_;clear hQ
 have hlv:=r.length
 refine wpAny_call (codeAny_call_cells (by have:=room.dp;lia) (G.at_ _ _ ho (.nf fun vs d=>by rw [hd] at d;contradiction)) hd G.nolimit ⟨cc,co,cvs,ct,hc1,G.at_ _ _ hc2 (.ty hc0),hc3,hc4⟩ H.body (hb vs (by lia)) H.clo (fun x hx=>?_) (fun s₁ X=>?_) (by rw [H.scope];simpa using h2) (by rw [H.scope];simpa using h3) (by rw [H.scope];simpa using h1))
 ·have hn:x.1∈names:=by
   obtain ⟨x1,x2⟩:=x
   exact (List.of_mem_zip hx).1
  rw [H.scope]
  refine (fK (List.all_eq_true.mp h6 x.1 hn)).imp _root_.id fun hc=>⟨hc,?_⟩
  obtain ⟨c,e⟩:=pv (x:=x.1) (fdSc i).names (s.heap.objs.size + 1) [] (.inl (zw hc))
  rw [e];rfl
 ·exact h _ _ _ _ _ rfl (zW5 H hsc room.deeper G ol r hl X)
theorem kpt {s:Shared} (G:Glb w s.heap) (h':Heap) (kp:∀ b o,(gh s).heap.get? b=some o→h'.get? b=some o) (t:zW h'):Keep s.heap h':=by
 refine ⟨fun b o e f=>?_,fun b o e=>?_,fun _=>t⟩
 ·cases hh:Hid b with
  | false=>exact kp b o (uv e hh)
  | true =>
   obtain ⟨ps,e1⟩:=yQ G.tab hh
   rw [e] at e1;(injection e1 with e1;subst e1)
   rcases f with f | f
   ·rw [hh] at f;contradiction
   ·contradiction
 ·cases hh:Hid b with
  | false=>exact ⟨o,kp b o (uv e hh)⟩
  | true=>obtain ⟨ps,e1⟩:=yQ t hh;exact ⟨_,e1⟩
theorem qj {c:Cx} (S:∀ n,Snd w k c n) {f:Str} {i:Nat} {a:Addr} {fd:FuncData} (Z:SxOk w k c (fdSc i)) (H:FnAt w f i a fd) {names locs:List Str} (hsc:fnSc (fdSc i) names locs=true)
  (hb:∀ vs:List Value,vs.length=names.length→bindArgs fd ⟨vs,[]⟩=pure (names.zip vs)) {g:List V→Kp→Prop} (ow:List Str)
  (hg:∀ l K,g l K→l.length=names.length∧∃ n,xs c (fdSc i) ow n (fdB i) (wW names l locs) (fun _=>K .none) K (fun _=>False)) (hp:∀ A env,c.pa A env:=by intros;trivial):FnOk w (k + 1) a g:=by
 intro A E off s l vs K Q room G ol r kg q
 apply bc;intro hQ;rcases hg l K kg with ⟨hl,n,kk⟩;refine hQ ?_;clear hQ
 refine qx H hsc hb room G ol r hl fun env m cm ad s₁ _ F=>?_
 refine xok S Z n (hp _ _) F kk fun f s' o=>?_
 cases f with
 | next =>
  apply bc;intro hQ;rcases o with ⟨ρ',m',cm',ad',k1,F',_⟩;rcases F'.call.done with ⟨h',tk,rfl,kp⟩;refine hQ ?_;clear hQ
  exact q .none .none h' tk k1 (kpt G h' kp F'.tab) Rd.none
 | brk=>apply bc;intro hQ;rcases o with ⟨ρ',m',cm',ad',k1,_⟩;refine hQ ?_;clear hQ;exact k1.elim
 | cont=>exact o.elim
 | ret v =>
  apply bc;intro hQ;rcases o with ⟨X,k1,rd,h',tk,rfl,kp,t⟩;refine hQ ?_;clear hQ
  exact q X v h' tk k1 (kpt G h' kp t) rd
end
noncomputable section
noncomputable def fd2 (P:Params):FuncData:=match (oB21 P).data with | .func f=>f | _=>default
theorem at2 (w:World):FnAt w "_div2n1n" 2 21 (fd2 w.params) :=
 ⟨by rfl,⟨_,by rfl,by rfl⟩,⟨20,_,_,_,by rfl,by rfl,by rfl,by rfl,by rfl⟩,by rfl,by rfl,by rfl,by rfl,by rfl⟩
theorem xZj (P:Params) (vs:List Value) (h:vs.length=3):bindArgs (fd2 P) ⟨vs,[]⟩=pure ((["a","b","n"]:List Str).zip vs):=by
 apply bc;intro hQ;rcases len3 h with ⟨v0,v1,v2,rfl⟩;refine hQ ?_;clear hQ;rfl
noncomputable def fd4 (P:Params):FuncData:=match (oB35 P).data with | .func f=>f | _=>default
theorem at4 (w:World):FnAt w "_int2digits" 4 35 (fd4 w.params) :=
 ⟨by rfl,⟨_,by rfl,by rfl⟩,⟨34,_,_,_,by rfl,by rfl,by rfl,by rfl,by rfl⟩,by rfl,by rfl,by rfl,by rfl,by rfl⟩
theorem xZk (P:Params) (vs:List Value) (h:vs.length=2):bindArgs (fd4 P) ⟨vs,[]⟩=pure ((["a","n"]:List Str).zip vs):=by
 apply bc;intro hQ;rcases len2 h with ⟨v0,v1,rfl⟩;refine hQ ?_;clear hQ;rfl
noncomputable def fd5 (P:Params):FuncData:=match (oB42 P).data with | .func f=>f | _=>default
theorem at5 (w:World):FnAt w "_digits2int" 5 42 (fd5 w.params) :=
 ⟨by rfl,⟨_,by rfl,by rfl⟩,⟨41,_,_,_,by rfl,by rfl,by rfl,by rfl,by rfl⟩,by rfl,by rfl,by rfl,by rfl,by rfl⟩
theorem xZl (P:Params) (vs:List Value) (h:vs.length=2):bindArgs (fd5 P) ⟨vs,[]⟩=pure ((["digits","n"]:List Str).zip vs):=by
 apply bc;intro hQ;rcases len2 h with ⟨v0,v1,rfl⟩;refine hQ ?_;clear hQ;rfl
noncomputable def fd6 (P:Params):FuncData:=match (oB49 P).data with | .func f=>f | _=>default
theorem at6 (w:World):FnAt w "_divmod_pos" 6 49 (fd6 w.params) :=
 ⟨by rfl,⟨_,by rfl,by rfl⟩,⟨48,_,_,_,by rfl,by rfl,by rfl,by rfl,by rfl⟩,by rfl,by rfl,by rfl,by rfl,by rfl⟩
theorem xZm (P:Params) (vs:List Value) (h:vs.length=2):bindArgs (fd6 P) ⟨vs,[]⟩=pure ((["a","b"]:List Str).zip vs):=by
 apply bc;intro hQ;rcases len2 h with ⟨v0,v1,rfl⟩;refine hQ ?_;clear hQ;rfl
noncomputable def fd7 (P:Params):FuncData:=match (oB56 P).data with | .func f=>f | _=>default
theorem at7 (w:World):FnAt w "int_divmod" 7 56 (fd7 w.params) :=
 ⟨by rfl,⟨_,by rfl,by rfl⟩,⟨55,_,_,_,by rfl,by rfl,by rfl,by rfl,by rfl⟩,by rfl,by rfl,by rfl,by rfl,by rfl⟩
theorem zW6 (P:Params) (vs:List Value) (h:vs.length=2):bindArgs (fd7 P) ⟨vs,[]⟩=pure ((["a","b"]:List Str).zip vs):=by
 apply bc;intro hQ;rcases len2 h with ⟨v0,v1,rfl⟩;refine hQ ?_;clear hQ;rfl
noncomputable def fd10 (P:Params):FuncData:=match (oC64 P).data with | .func f=>f | _=>default
theorem at10 (w:World):FnAt w "pretty_flags" 10 64 (fd10 w.params) :=
 ⟨by rfl,⟨_,by rfl,by rfl⟩,⟨63,_,_,_,by rfl,by rfl,by rfl,by rfl,by rfl⟩,by rfl,by rfl,by rfl,by rfl,by rfl⟩
theorem yV3 (P:Params) (vs:List Value) (h:vs.length=1):bindArgs (fd10 P) ⟨vs,[]⟩=pure ((["flags"]:List Str).zip vs):=by
 apply bc;intro hQ;rcases len1 h with ⟨v0,rfl⟩;refine hQ ?_;clear hQ;rfl
noncomputable def fd11 (P:Params):FuncData:=match (oC71 P).data with | .func f=>f | _=>default
theorem at11 (w:World):FnAt w "_parse_varint" 11 71 (fd11 w.params) :=
 ⟨by rfl,⟨_,by rfl,by rfl⟩,⟨70,_,_,_,by rfl,by rfl,by rfl,by rfl,by rfl⟩,by rfl,by rfl,by rfl,by rfl,by rfl⟩
theorem yV4 (P:Params) (vs:List Value) (h:vs.length=1):bindArgs (fd11 P) ⟨vs,[]⟩=pure ((["iterator"]:List Str).zip vs):=by
 apply bc;intro hQ;rcases len1 h with ⟨v0,rfl⟩;refine hQ ?_;clear hQ;rfl
noncomputable def fd14 (P:Params):FuncData:=match (oC78 P).data with | .func f=>f | _=>default
theorem at14 (w:World):FnAt w "_ellipsis_match" 14 78 (fd14 w.params) :=
 ⟨by rfl,⟨_,by rfl,by rfl⟩,⟨77,_,_,_,by rfl,by rfl,by rfl,by rfl,by rfl⟩,by rfl,by rfl,by rfl,by rfl,by rfl⟩
theorem yV5 (P:Params) (vs:List Value) (h:vs.length=2):bindArgs (fd14 P) ⟨vs,[]⟩=pure ((["want","got"]:List Str).zip vs):=by
 apply bc;intro hQ;rcases len2 h with ⟨v0,v1,rfl⟩;refine hQ ?_;clear hQ;rfl
noncomputable def fd15 (P:Params):FuncData:=match (oC85 P).data with | .func f=>f | _=>default
theorem at15 (w:World):FnAt w "_strip_exception_details" 15 85 (fd15 w.params) :=
 ⟨by rfl,⟨_,by rfl,by rfl⟩,⟨84,_,_,_,by rfl,by rfl,by rfl,by rfl,by rfl⟩,by rfl,by rfl,by rfl,by rfl,by rfl⟩
theorem yV6 (P:Params) (vs:List Value) (h:vs.length=1):bindArgs (fd15 P) ⟨vs,[]⟩=pure ((["msg"]:List Str).zip vs):=by
 apply bc;intro hQ;rcases len1 h with ⟨v0,rfl⟩;refine hQ ?_;clear hQ;rfl
noncomputable def fd18 (P:Params):FuncData:=match (zX8 P).data with | .func f=>f | _=>default
theorem at18 (w:World):FnAt w "in_table_b1" 18 103 (fd18 w.params) :=
 ⟨by rfl,⟨_,by rfl,by rfl⟩,⟨102,_,_,_,by rfl,by rfl,by rfl,by rfl,by rfl⟩,by rfl,by rfl,by rfl,by rfl,by rfl⟩
theorem yV7 (P:Params) (vs:List Value) (h:vs.length=1):bindArgs (fd18 P) ⟨vs,[]⟩=pure ((["code"]:List Str).zip vs):=by
 apply bc;intro hQ;rcases len1 h with ⟨v0,rfl⟩;refine hQ ?_;clear hQ;rfl
noncomputable def fd20 (P:Params):FuncData:=match (yK6 P).data with | .func f=>f | _=>default
theorem at20 (w:World):FnAt w "map_table_b3" 20 149 (fd20 w.params) :=
 ⟨by rfl,⟨_,by rfl,by rfl⟩,⟨148,_,_,_,by rfl,by rfl,by rfl,by rfl,by rfl⟩,by rfl,by rfl,by rfl,by rfl,by rfl⟩
theorem yV8 (P:Params) (vs:List Value) (h:vs.length=1):bindArgs (fd20 P) ⟨vs,[]⟩=pure ((["code"]:List Str).zip vs):=by
 apply bc;intro hQ;rcases len1 h with ⟨v0,rfl⟩;refine hQ ?_;clear hQ;rfl
noncomputable def fd22 (P:Params):FuncData:=match (yK7 P).data with | .func f=>f | _=>default
theorem at22 (w:World):FnAt w "_law_unseen" 22 156 (fd22 w.params) :=
 ⟨by rfl,⟨_,by rfl,by rfl⟩,⟨155,_,_,_,by rfl,by rfl,by rfl,by rfl,by rfl⟩,by rfl,by rfl,by rfl,by rfl,by rfl⟩
theorem yV9 (P:Params) (vs:List Value) (h:vs.length=0):bindArgs (fd22 P) ⟨vs,[]⟩=pure (([]:List Str).zip vs):=by
 rw [List.length_eq_zero_iff.mp h];rfl
noncomputable def fd23 (P:Params):FuncData:=match (yK8 P).data with | .func f=>f | _=>default
theorem at23 (w:World):FnAt w "_law_name" 23 163 (fd23 w.params) :=
 ⟨by rfl,⟨_,by rfl,by rfl⟩,⟨162,_,_,_,by rfl,by rfl,by rfl,by rfl,by rfl⟩,by rfl,by rfl,by rfl,by rfl,by rfl⟩
theorem yWa (P:Params) (vs:List Value) (h:vs.length=3):bindArgs (fd23 P) ⟨vs,[]⟩=pure ((["letters","pick","noise"]:List Str).zip vs):=by
 apply bc;intro hQ;rcases len3 h with ⟨v0,v1,v2,rfl⟩;refine hQ ?_;clear hQ;rfl
noncomputable def fd24 (P:Params):FuncData:=match (yK9 P).data with | .func f=>f | _=>default
theorem at24 (w:World):FnAt w "_law_octets" 24 168 (fd24 w.params) :=
 ⟨by rfl,⟨_,by rfl,by rfl⟩,⟨167,_,_,_,by rfl,by rfl,by rfl,by rfl,by rfl⟩,by rfl,by rfl,by rfl,by rfl,by rfl⟩
theorem yWb (P:Params) (vs:List Value) (h:vs.length=1):bindArgs (fd24 P) ⟨vs,[]⟩=pure ((["numbers"]:List Str).zip vs):=by
 apply bc;intro hQ;rcases len1 h with ⟨v0,rfl⟩;refine hQ ?_;clear hQ;rfl
noncomputable def fd25 (P:Params):FuncData:=match (yVa P).data with | .func f=>f | _=>default
theorem at25 (w:World):FnAt w "_law_read" 25 175 (fd25 w.params) :=
 ⟨by rfl,⟨_,by rfl,by rfl⟩,⟨174,_,_,_,by rfl,by rfl,by rfl,by rfl,by rfl⟩,by rfl,by rfl,by rfl,by rfl,by rfl⟩
theorem yWc (P:Params) (vs:List Value) (h:vs.length=1):bindArgs (fd25 P) ⟨vs,[]⟩=pure ((["octets"]:List Str).zip vs):=by
 apply bc;intro hQ;rcases len1 h with ⟨v0,rfl⟩;refine hQ ?_;clear hQ;rfl
noncomputable def fd26 (P:Params):FuncData:=match (yVb P).data with | .func f=>f | _=>default
theorem at26 (w:World):FnAt w "_law_plain" 26 180 (fd26 w.params) :=
 ⟨by rfl,⟨_,by rfl,by rfl⟩,⟨179,_,_,_,by rfl,by rfl,by rfl,by rfl,by rfl⟩,by rfl,by rfl,by rfl,by rfl,by rfl⟩
theorem yWd (P:Params) (vs:List Value) (h:vs.length=2):bindArgs (fd26 P) ⟨vs,[]⟩=pure ((["word","letters"]:List Str).zip vs):=by
 apply bc;intro hQ;rcases len2 h with ⟨v0,v1,rfl⟩;refine hQ ?_;clear hQ;rfl
noncomputable def fd27 (P:Params):FuncData:=match (yVc P).data with | .func f=>f | _=>default
theorem at27 (w:World):FnAt w "_law_factors" 27 185 (fd27 w.params) :=
 ⟨by rfl,⟨_,by rfl,by rfl⟩,⟨184,_,_,_,by rfl,by rfl,by rfl,by rfl,by rfl⟩,by rfl,by rfl,by rfl,by rfl,by rfl⟩
theorem yWe (P:Params) (vs:List Value) (h:vs.length=1):bindArgs (fd27 P) ⟨vs,[]⟩=pure ((["word"]:List Str).zip vs):=by
 apply bc;intro hQ;rcases len1 h with ⟨v0,rfl⟩;refine hQ ?_;clear hQ;rfl
end
noncomputable def fits (x:Str):Prop:=x.length≤10000
theorem fits.line {x:Str} (h:fits x):x.length≤sizeLine:=Nat.le_trans h (by decide)
theorem fits.long {x:Str} (h:fits x):(x.length:Int) < 9223372036854775808:=by unfold fits at h;lia
noncomputable def cx0:Cx:=⟨fun _=>none,fun _=>none,fun _ _=>none,fun _=>none,fun _=>[],fun _=>[],fun _ _=>True⟩
theorem yZ (w:World) (k:Nat):CxOk w k cx0:=⟨fun _ _ e=>(nn e),fun _ _ e=>(nn e),fun _ _ _ e=>(nn e)⟩
noncomputable def isNm (sc:Scope) (x y:Str):Bool:=zz sc x && decide (x=y)
noncomputable def yZv:List V:=(List.range 16).map fun (i:Nat)=>V.int (65024 + i)
noncomputable def zQd (l c d:Nat) (g:Expr→Rho→Kp→Prop) (e:Expr):Option (Rho→Kp→Prop):=match e.pos.line == l && e.pos.col == c && e.pos.endCol == d with
 | true=>some (g e)
 | false=>none
theorem rQ {l c d:Nat} {g:Expr→Rho→Kp→Prop} {e:Expr} {f:Rho→Kp→Prop} (h:zQd l c d g e=some f):f=g e:=by
 unfold zQd at h
 cases hb:(e.pos.line == l && e.pos.col == c && e.pos.endCol == d) with
 | true=>rw [hb] at h;exact (Option.some.inj h).symm
 | false=>rw [hb] at h;contradiction
noncomputable def sxAt (l:Nat) (g:Stmt→SRho→(SRho→Prop)→(V→Prop)→Prop) (o:Option (SRho→(SRho→Prop)→(V→Prop)→Prop)) (st:Stmt):Option (SRho→(SRho→Prop)→(V→Prop)→Prop):=match st.pos.line == l with
 | true=>some (g st)
 | false=>o
theorem mw {l:Nat} {g:Stmt→SRho→(SRho→Prop)→(V→Prop)→Prop} {o:Option (SRho→(SRho→Prop)→(V→Prop)→Prop)} {st:Stmt} {f:SRho→(SRho→Prop)→(V→Prop)→Prop} (h:sxAt l g o st=some f):f=g st∨o=some f:=by
 unfold sxAt at h
 cases hb:st.pos.line == l with
 | true=>rw [hb] at h;exact .inl (Option.some.inj h).symm
 | false=>rw [hb] at h;exact .inr h
noncomputable def yWf (sc:Scope):Expr→Option (Rho→Kp→Prop):=zQd 152 79 104 fun e _ K =>
 (∃ p1 p2 p3 p4 pos pos2 n1 n2,e=.Call (.Name "list" p1) [.Call (.Name "range" p2) [.Constant (.int 65024) n1 p3,.Constant (.int 65040) n2 p4] [] pos] [] pos2)∧(zz sc "list"=true∧zz sc "range"=true)∧K (.lst yZv)
theorem ItemsOf.toRdL {h:Heap} {off:Addr→Prop} {f:Nat→V} {P:Nat→Value→Prop}:∀ (n:Nat) (vs:List Value),vs.length=n→(∀ j v,vs[j]?=some v→Rd h off (f j) v)→RdL h off ((List.range n).map f) vs:=by
 intro n
 induction n with
 | zero=>intro vs hl _;have:=List.eq_nil_of_length_eq_zero hl;subst this;exact RdL.nil
 | succ n ih =>
  intro vs hl hv
  have hne:vs≠[]:=by rintro rfl;contradiction
  rw [List.range_succ,List.map_append]
  have e:vs=vs.dropLast++[vs.getLast hne]:=(List.dropLast_concat_getLast hne).symm
  rw [e]
  refine (ih vs.dropLast (by simp [hl]) fun j v hj=>hv j v ?_).append (RdL.one (hv n _ ?_))
  ·have hlt:j < vs.dropLast.length:=(List.getElem?_eq_some_iff.mp hj).1
   rw [e,List.getElem?_append_left hlt];exact hj
  ·rw [List.getLast_eq_getElem]
   have:vs.length - 1=n:=by lia
   rw [← this]
   exact List.getElem?_eq_getElem _
section
variable {w:World} {A:Around} {E:Value→Shared→Prop} {off:Addr→Prop} {s:Shared} {sc:Scope} {env:Env} {ρ:Rho} {K:Kp} {Q:Value→Shared→Prop} {k:Nat}
theorem yZw (P:Params):mgv P ("list":Str)=none∧mbv P ("list":Str)=some (.type "list"):=⟨by kernel_rfl,by kernel_rfl⟩
theorem zJ2 {a b:Int} {n:Nat} {p1 p2 p3 p4 pos pos2:Pos} {n1 n2} (hs:Builtin.Range.small a b 1=true) (hn:Builtin.Range.rangeSize a b 1=n) (hl:n≤2 ^ 24) (h1:zz sc "list"=true) (h2:zz sc "range"=true) (room:Room k A) (en:EnvOk sc env) (G:Glb w s.heap) (ol:Old off s.heap)
  (q:∀ h' tk v,Keep s.heap h'→Rd h' off (.lst ((List.range n).map fun (i:Nat)=>V.int (a + i))) v→Q v { s with heap:=h',toks:=tk }) :
  wpAny (model pw w) A (eval (.Call (.Name "list" p1) [.Call (.Name "range" p2) [.Constant (.int a) n1 p3,.Constant (.int b) n2 p4] [] pos] [] pos2) env) Q E s:=by
 apply bc;intro hQ;rcases yZw w.params with ⟨l1,l2⟩;rcases zZc w.params with ⟨r1,r2⟩;refine hQ ?_;clear hQ
 refine Call_ (yV G en h1 l1 l2 (callWith_type1 (args_cons (Call_ (yV G en h2 r1 r2 (callWith_type1 (args_cons (wpAny_Constant_int (args_cons (wpAny_Constant_int (args_nil ?_)) (zX rfl _ _))) (zX rfl _ _)) (zX rfl _ _) (wz rfl _ _)))) (zX rfl _ _)) (zX rfl _ _) (wz rfl _ _)))
 refine call_range_2 (args_nil ?_)
 refine call_list_range (n:=n) room.hd (IsRange.new ..) hs hn hl fun h' tk acc c hk hS hit=>?_
 have kp:Keep s.heap h':=(Keep.push _ _).trans (.of hk)
 refine q _ tk _ kp ?_
 refine Rd.lstI (vs:=acc) (fun ho=>?_) ⟨c,hS⟩ ?_
 ·obtain ⟨o,e⟩:=ol _ ho
  exact absurd (Heap.lt_size e) (by rw [Heap.size_push];exact Nat.not_lt.mpr (Nat.le_succ _))
 ·refine ItemsOf.toRdL (P:=fun _ _=>True) n _ (by rw [Array.length_toList];exact hit.1) fun j v hj=>?_
  apply bc;intro hQ;rcases hit.2 j v (by simpa using hj) with ⟨t,rfl⟩;refine hQ ?_;clear hQ
  rw [Int.mul_one]
  exact Rd.int _ _
theorem zW7 {e:Expr} {f:Rho→Kp→Prop} (h:yWf sc e=some f) (room:Room k A) (en:EnvOk sc env) (G:Glb w s.heap) (ol:Old off s.heap) (kk:f ρ K) (q:Res off s K Q):wpAny (model pw w) A (eval e env) Q E s:=by
 cases rQ h
 apply bc;intro hQ;rcases kk with ⟨⟨_,_,_,_,_,_,_,_,rfl⟩,hg,kk⟩;refine hQ ?_;clear hQ
 exact zJ2 (n:=16) (by rfl) (by rfl) (by decide) hg.1 hg.2 room en G ol fun h' tk v kp r=>q _ _ _ tk kk kp r
noncomputable def b1L:List Int:=[173,847,6150,6155,6156,6157,8203,8204,8205,8288,65279]++(List.range 16).map fun (i:Nat)=>(65024 + i:Int)
noncomputable def yWg (sc:Scope):Expr→Option (Rho→Kp→Prop):=zQd 143 11 30 fun e ρ K =>
 (∃ p1 p2 p3 p4 p5,e=.Compare (.Call (.Name "ord" p1) [.Name "code" p2] [] p3) [.In] [.Name "b1_set" p4] p5)∧(zz sc "ord"=true∧zz sc "b1_set"=true)∧∃ z:Str,ρ.lookup ("code":Str)=some (.str z)∧z.length=1∧K (.bool (b1L.contains (z.cps.getD 0 0:Nat)))
theorem zJ3 (G:Glb w s.heap):s.heap.SetOf (intKind pw w) 93 (fun k=>b1L.contains k) 27:=by
 refine ⟨oD93 w.params,_,_,_,G.at_ 93 _ (by rfl) (.inl rfl),⟨rfl,rfl,rfl⟩,rfl,fun e he=>?_,fun k=>?_,by decide,by rfl,rfl⟩
 ·have h:((match (oD93 w.params).data with | .set es _ _=>es.toList | _=>[]).all fun e=>match e.2 with | .int k t=>e.1 == hashInt k && (Value.int k t).scannable | _=>false)=true:=by rfl
  have:=List.all_eq_true.mp h e he
  obtain ⟨e1,e2⟩:=e
  dsimp only at this ⊢
  cases e2 with
  | int k t =>
   dsimp only at this
   rw [Bool.and_eq_true] at this
   exact ⟨⟨k,intKind_is _ _ _ _,(beq_iff_eq.mp this.1:e1=hashInt k)⟩,this.2⟩
  | _=>contradiction
 ·have h1:∀ k:Int,b1L.contains k=true ↔ k∈(match (oD93 w.params).data with | .set es _ _=>es.toList.map (fun (e:Int×Value)=>match e.2 with | .int k _=>k | _=>0) | _=>[]):=by
   intro k
   have e:∀ l l':List Int,l.Perm l'→(l.contains k=true ↔ k∈l'):=fun l l' p=>by rw [List.contains_iff_mem];exact p.mem_iff
   refine e _ _ (List.isPerm_iff.mp ?_)
   kernel_rfl
  rw [h1]
  constructor
  ·intro h
   apply bc;intro hQ;rcases List.mem_map.mp h with ⟨e,he,hk⟩;refine hQ ?_;clear hQ
   refine ⟨e,he,?_⟩
   have hall:((match (oD93 w.params).data with | .set es _ _=>es.toList | _=>[]).all fun e=>match e.2 with | .int k t=>true | _=>false)=true:=by rfl
   have:=List.all_eq_true.mp hall e he
   obtain ⟨e1,e2⟩:=e
   cases e2 with
   | int k' t=>dsimp only at hk;subst hk;exact intKind_is _ _ _ _
   | _=>contradiction
  ·rintro ⟨e,he,hk⟩
   refine List.mem_map.mpr ⟨e,he,?_⟩
   obtain ⟨t,ht⟩:=Value.isInt_shape hk
   rw [ht]
theorem zW8 {e:Expr} {f:Rho→Kp→Prop} (h:yWg sc e=some f) (room:Room k A) (en:EnvOk sc env) (G:Glb w s.heap) (ol:Old off s.heap) (se:Sees sc env s.heap off ρ) (kk:f ρ K) (q:Res off s K Q):wpAny (model pw w) A (eval e env) Q E s:=by
 cases rQ h
 apply bc;intro hQ;rcases kk with ⟨⟨_,_,_,_,_,rfl⟩,hg,z,hz,kk⟩;rcases lk (x:="ord") (f:=.ord) w.params (by rfl) with ⟨b1,b2⟩;refine hQ ?_;clear hQ
 refine wpAny_Compare1 (Call_ (yV G en hg.1 b1 b2 (yy (first:=[]) rfl (args_cons (se.name en hz fun v r=>args_nil ?_))))) (by rfl)
 apply bc;intro hQ;rcases r.str_inv with ⟨t,rfl⟩;refine hQ ?_;clear hQ
 refine pX (k:=k) .ord (l:=[.str z]) room ol (RdL.one (Rd.str _ _)) (K:=fun X=>X=.int (z.cps.getD 0 0:Nat)) ⟨kk.1,rfl⟩ fun X v h' tk hX e1 r1=>?_
 subst hX
 apply bc;intro hQ;rcases r1.int_inv with ⟨u,rfl⟩;refine hQ ?_;clear hQ
 refine xq (s:={ s with heap:=h',toks:=tk }) (G.keep e1) en hg.2 (v:=.ref 93) (by rfl) ?_
 exact wpAny_inSet_of (s:={ s with heap:=h',toks:=tk }) (knd:=intKind pw w) (intKind_is _ _ _ _) (by rfl) (zJ3 (s:={ s with heap:=h',toks:=tk }) (G.keep e1)) ((q.keep e1).boolT kk.2 _)
theorem zW9 {x:Str} {p1 p2 pos:Pos} {z:Str} (h1:zz sc "ord"=true) (room:Room k A) (en:EnvOk sc env) (G:Glb w s.heap) (ol:Old off s.heap) (se:Sees sc env s.heap off ρ) (hz:ρ.lookup x=some (.str z)) (h:z.length=1)
  (q:∀ t h' tk,Keep s.heap h'→Q (.int (z.cps.getD 0 0:Nat) t) { s with heap:=h',toks:=tk }):wpAny (model pw w) A (eval (.Call (.Name "ord" p1) [.Name x p2] [] pos) env) Q E s:=by
 obtain ⟨b1,b2⟩:=lk (x:="ord") (f:=.ord) w.params (by rfl)
 refine Call_ (yV G en h1 b1 b2 (yy (first:=[]) rfl (args_cons (se.name en hz fun v r=>args_nil ?_) (zX rfl _ _))))
 apply bc;intro hQ;rcases r.str_inv with ⟨t,rfl⟩;refine hQ ?_;clear hQ
 refine pX (k:=k) .ord (l:=[.str z]) room ol (RdL.one (Rd.str _ _)) (K:=fun X=>X=.int (z.cps.getD 0 0:Nat)) ⟨h,rfl⟩ fun X v h' tk hX e1 r1=>?_
 subst hX
 apply bc;intro hQ;rcases r1.int_inv with ⟨u,rfl⟩;refine hQ ?_;clear hQ
 exact q u h' tk e1
noncomputable def zQe:Value→Str
 | .str x _=>x
 | _=>default
noncomputable def b3At (i:Int):Option Str:=(findBy Value.isInt sK.toArray i).map zQe
noncomputable def yWh (sc:Scope):Expr→Option (Rho→Kp→Prop):=zQd 146 8 36 fun e ρ K =>
 (∃ p1 p2 p3 p4 p5 p6,e=.Call (.Attribute (.Name "b3_exceptions" p1) "get" p2) [.Call (.Name "ord" p3) [.Name "code" p4] [] p5] [] p6∧(p2.endLine == p6.line)=true)∧(zz sc "ord"=true∧zz sc "b3_exceptions"=true) ∧
 ∃ z:Str,ρ.lookup ("code":Str)=some (.str z)∧z.length=1∧∀ o,b3At (z.cps.getD 0 0:Nat)=o→K (match o with | some t=>.str t | none=>.none)
theorem cZ {es:Array DictEntry} (h:(es.toList.all fun e=>match e.key with | .int k t=>e.hash == hashInt k | _=>false)=true):KeysOf (intKind pw w) es:=by
 intro e he
 have:=List.all_eq_true.mp h e (Array.mem_toList_iff.mpr he)
 apply bc;intro hQ;rcases e with ⟨hh,hk,hv⟩;refine hQ ?_;clear hQ
 cases hk with
 | int k t=>exact ⟨k,intKind_is _ _ _ _,(beq_iff_eq.mp this:hh=hashInt k)⟩
 | _=>contradiction
theorem yZx (G:Glb w s.heap):s.heap.MapOf (intKind pw w) 104 (findBy Value.isInt sK.toArray) :=
 ⟨yZa w.params,_,_,G.at_ 104 _ (by rfl) (.inl rfl),⟨rfl,rfl,rfl⟩,rfl,cZ (by kernel_rfl),fun k=>rfl⟩
theorem yWi {i:Int} {v:Value} (h:findBy Value.isInt sK.toArray i=some v):∃ t,v=.str (zQe v) t:=by
 have hall:(sK.all fun e=>match e.val with | .str _ _=>true | _=>false)=true:=by kernel_rfl
 unfold findBy at h
 rw [Option.map_eq_some_iff] at h
 apply bc;intro hQ;rcases h with ⟨e,h1,rfl⟩;refine hQ ?_;clear hQ
 have:=List.all_eq_true.mp hall e (by have:=Array.mem_of_find?_eq_some h1;simpa using this)
 cases hv:e.val with
 | str x t=>exact ⟨t,rfl⟩
 | _=>rw [hv] at this;contradiction
theorem zYa {e:Expr} {f:Rho→Kp→Prop} (h:yWh sc e=some f) (room:Room k A) (en:EnvOk sc env) (G:Glb w s.heap) (ol:Old off s.heap) (se:Sees sc env s.heap off ρ) (kk:f ρ K) (q:Res off s K Q):wpAny (model pw w) A (eval e env) Q E s:=by
 cases rQ h
 apply bc;intro hQ;rcases kk with ⟨⟨_,_,_,_,_,_,rfl,hl⟩,hg,z,hz,kk⟩;refine hQ ?_;clear hQ
 refine wpAny_Call_method_late rfl rfl hl rfl (xq G en hg.2 (v:=.ref 104) (by rfl) ?_)
 refine ⟨"dict","dict.get",PySem.F.plainAttrs_dict,PySem.F.slot_dict_get,PySem.F.type_dict_get,(yZx G).typeIs,(yZx G).noDict,?_⟩
 refine wpAny_dict_get1 (knd:=intKind pw w) rfl (zW9 hg.1 room en G ol se hz kk.1 fun t h' tk e1=>⟨_,_,intKind_is _ _ _ _,yZx (s:={ s with heap:=h',toks:=tk }) (G.keep e1),?_⟩)
 have k2:=kk.2 _ rfl
 unfold b3At at k2
 cases hf:findBy Value.isInt sK.toArray (z.cps.getD 0 0:Nat) with
 | some v =>
  rw [hf] at k2
  obtain ⟨u,hu⟩:=yWi hf
  rw [Option.getD_some,hu]
  exact (q.keep e1).str k2 _ _
 | none =>
  rw [hf] at k2
  exact q .none .none h' (tk + 1) k2 e1 Rd.none
noncomputable def cX:List DictEntry:=[ie 1 "OPTIMIZED" 271,ie 2 "NEWLOCALS" 273,ie 4 "VARARGS" 275,ie 8 "VARKEYWORDS" 277,ie 16 "NESTED" 279,ie 32 "GENERATOR" 281,ie 64 "NOFREE" 283,ie 128 "COROUTINE" 285,ie 256 "ITERABLE_COROUTINE" 287,ie 512 "ASYNC_GENERATOR" 289]
noncomputable def zJ4 (i:Int):Option Str:=(findBy Value.isInt cX.toArray i).map zQe
theorem yZy (G:Glb w s.heap):s.heap.MapOf (intKind pw w) 57 (findBy Value.isInt cX.toArray) :=
 ⟨oC57 w.params,_,_,G.at_ 57 _ (by rfl) (.inl rfl),⟨rfl,rfl,rfl⟩,rfl,cZ (by kernel_rfl),fun k=>rfl⟩
theorem yWj {i:Int} {v:Value} (h:findBy Value.isInt cX.toArray i=some v):∃ t,v=.str (zQe v) t:=by
 have hall:(cX.all fun e=>match e.val with | .str _ _=>true | _=>false)=true:=by kernel_rfl
 unfold findBy at h
 rw [Option.map_eq_some_iff] at h
 apply bc;intro hQ;rcases h with ⟨e,h1,rfl⟩;refine hQ ?_;clear hQ
 have:=List.all_eq_true.mp hall e (by have:=Array.mem_of_find?_eq_some h1;simpa using this)
 cases hv:e.val with
 | str x t=>exact ⟨t,rfl⟩
 | _=>rw [hv] at this;contradiction
noncomputable def yZz (sc:Scope):Expr→Option (Rho→Kp→Prop):=zQd 83 25 65 fun e ρ K =>
 (∃ p1 p2 p3 p4 p5 p6 p7,e=.Call (.Attribute (.Name "COMPILER_FLAG_NAMES" p1) "get" p2) [.Name "flag" p3,.Call (.Name "hex" p4) [.Name "flag" p5] [] p6] [] p7∧(p2.endLine == p7.line)=true)∧(zz sc "hex"=true∧zz sc "COMPILER_FLAG_NAMES"=true) ∧
 ∃ i:Int,ρ.lookup ("flag":Str)=some (.int i)∧(baseText "0x" 16 i).length≤sizeLine∧K (.str ((zJ4 i).getD (baseText "0x" 16 i)))
theorem zYb {e:Expr} {f:Rho→Kp→Prop} (h:yZz sc e=some f) (room:Room k A) (en:EnvOk sc env) (G:Glb w s.heap) (ol:Old off s.heap) (se:Sees sc env s.heap off ρ) (kk:f ρ K) (q:Res off s K Q):wpAny (model pw w) A (eval e env) Q E s:=by
 cases rQ h
 apply bc;intro hQ;rcases kk with ⟨⟨_,_,_,_,_,_,_,rfl,hl⟩,hg,i,hz,kk⟩;refine hQ ?_;clear hQ
 refine wpAny_Call_method_late rfl rfl hl rfl (xq G en hg.2 (v:=.ref 57) (by rfl) ?_)
 refine ⟨"dict","dict.get",PySem.F.plainAttrs_dict,PySem.F.slot_dict_get,PySem.F.type_dict_get,(yZy G).typeIs,(yZy G).noDict,?_⟩
 refine wpAny_dict_get2 (knd:=intKind pw w) rfl (se.name en hz fun v r=>?_)
 apply bc;intro hQ;rcases r.int_inv with ⟨t,rfl⟩;rcases lk (x:="hex") (f:=.hex) w.params (by rfl) with ⟨b1,b2⟩;refine hQ ?_;clear hQ
 refine Call_ (yV G en hg.1 b1 b2 (yy (first:=[]) rfl (args_cons (se.name en hz fun v r=>args_nil ?_) (zX rfl _ _))))
 apply bc;intro hQ;rcases r.int_inv with ⟨u,rfl⟩;refine hQ ?_;clear hQ
 refine pX (k:=k) .hex (l:=[.int i]) room ol (RdL.one (Rd.int _ _)) (K:=fun X=>X=.str (baseText "0x" 16 i)) ⟨kk.1,rfl⟩ fun X v h' tk hX e1 r1=>?_
 subst hX
 apply bc;intro hQ;rcases r1.str_inv with ⟨u2,rfl⟩;refine hQ ?_;clear hQ
 refine ⟨_,_,intKind_is _ _ _ _,yZy (s:={ s with heap:=h',toks:=tk }) (G.keep e1),?_⟩
 have k2:=kk.2
 unfold zJ4 at k2
 cases hf:findBy Value.isInt cX.toArray i with
 | some v =>
  rw [hf] at k2
  obtain ⟨u,hu⟩:=yWj hf
  rw [Option.getD_some,hu]
  exact (q.keep e1).str k2 _ _
 | none =>
  rw [hf] at k2
  exact (q.keep e1).str k2 _ _
end
noncomputable def cxE (x:Scope→Expr→Option (Rho→Kp→Prop)):Cx:=⟨fun _=>none,fun _=>none,x,fun _=>none,fun _=>[],fun _=>[],fun _ _=>True⟩
theorem yZ0 (w:World) (k:Nat):CxOk w k (cxE yWf):=⟨fun _ _ e=>(nn e),fun _ _ e=>(nn e),fun _ _ _ h A E off s env ρ K Q room en G ol se _ kk q=>zW7 h room en G ol kk q⟩
theorem yZ1 (w:World) (k:Nat):CxOk w k (cxE yWg):=⟨fun _ _ e=>(nn e),fun _ _ e=>(nn e),fun _ _ _ h A E off s env ρ K Q room en G ol se _ kk q=>zW8 h room en G ol se kk q⟩
theorem yZ2 (w:World) (k:Nat):CxOk w k (cxE yWh):=⟨fun _ _ e=>(nn e),fun _ _ e=>(nn e),fun _ _ _ h A E off s env ρ K Q room en G ol se _ kk q=>zYa h room en G ol se kk q⟩
theorem zQf (w:World) (k:Nat):CxOk w k (cxE yZz):=⟨fun _ _ e=>(nn e),fun _ _ e=>(nn e),fun _ _ _ h A E off s env ρ K Q room en G ol se _ kk q=>zYb h room en G ol se kk q⟩
noncomputable def cxG (g:Str→Option V):Cx:=⟨fun _=>none,g,fun _ _=>none,fun _=>none,fun _=>[],fun _=>[],fun _ _=>True⟩
noncomputable def gv2 (x:Str):Option V:=match decide (x="_DIV_LIMIT") with | true=>some (.int 4000) | false=>none
noncomputable def gv14 (x:Str):Option V:=match decide (x="ELLIPSIS_MARKER") with | true=>some (.str "...") | false=>none
theorem yWk (w:World) (k:Nat):CxOk w k (cxG gv2):=by
 refine ⟨fun _ _ e=>(nn e),fun x X e=>?_,fun _ _ _ e=>(nn e)⟩
 have e:gv2 x=some X:=e
 unfold gv2 at e
 split at e
 ·rename_i h;rw [decide_eq_true_eq] at h;subst h;(injection e with e;subst e)
  exact ⟨_,by rfl,fun h off=>Rd.int _ _⟩
 ·contradiction
theorem zQg (w:World) (k:Nat):CxOk w k (cxG gv14):=by
 refine ⟨fun _ _ e=>(nn e),fun x X e=>?_,fun _ _ _ e=>(nn e)⟩
 have e:gv14 x=some X:=e
 unfold gv14 at e
 split at e
 ·rename_i h;rw [decide_eq_true_eq] at h;subst h;(injection e with e;subst e)
  exact ⟨_,by rfl,fun h off=>Rd.str _ _⟩
 ·contradiction
theorem FnOk.le {w:World} {j k:Nat} {a:Addr} {g:List V→Kp→Prop} (h:FnOk w j a g) (l:j≤k):FnOk w k a g :=
 fun A E off s l' vs K Q r=>h A E off s l' vs K Q (r.le l)
noncomputable def fq:List V:=b1L.map V.int
noncomputable def kq (x:Str):Str :=
 let e1:Int:=if 0≤Txt.find x "\n" then Txt.find x "\n" else x.length
 let e2:Int:=if 0≤vV x ":" 0 e1 then vV x ":" 0 e1 else e1
 Txt.slice x (some (if 0≤qV x "." 0 e2 then qV x "." 0 e2 + 1 else 0)) (some e2)
theorem xs15 (x:Str) (hx:fits x) (K:Kp) (k:K (.str (kq x))) :
  xs cx0 (fdSc 15) [] 40 (fdB 15) (wW ["msg"] [.str x] ["start","end","i"]) (fun _=>K .none) K (fun _=>False):=by
 unfold kq at k
 dsimp only at k
 repeat' ((conv=>whnf);(first | (refine ⟨by first | assumption | exact fits.long ‹_› | exact fits.line ‹_› | (with_reducible rfl) | (show (_:Nat)≤_;exact Nat.le_of_ble_eq_true rfl),?_⟩) | split))
 all_goals (simp only [decide_eq_true_eq,decide_eq_false_iff_not] at *;simp only [*,if_true,if_false] at k;exact k)
inductive g15 (l:List V) (K:Kp):Prop where
 | mk (x:Str) (h0:l=[.str x]) (h1:fits x) (h2:K (.str (kq x)))
theorem f15 (w:World):FnOk w 1 85 g15 :=
 qj (snd (yZ w 0)) (SxOk.none rfl) (at15 w) (names:=["msg"]) (locs:=["start","end","i"]) (by rfl) (yV6 _) [] fun l K ⟨x,e,hx,k⟩=>by subst e;exact ⟨rfl,40,xs15 x hx K k⟩
theorem f22 (w:World):FnOk w 1 156 (fun l K=>l=[]∧K (.lst fq)) :=
 qj (snd (yZ0 w 0)) (SxOk.none rfl) (at22 w) (names:=[]) (locs:=[]) (by rfl) (yV9 _) [] fun l K ⟨e,k⟩=>by
  subst e
  refine ⟨rfl,40,?_⟩
  conv=>whnf
  refine ⟨by first | assumption | exact fits.long ‹_› | exact fits.line ‹_› | (with_reducible rfl) | (show (_:Nat)≤_;exact Nat.le_of_ble_eq_true rfl),⟨_,_,_,_,_,_,_,_,rfl⟩,⟨rfl,rfl⟩,?_⟩
  conv=>whnf
  refine ⟨by first | assumption | exact fits.long ‹_› | exact fits.line ‹_› | (with_reducible rfl) | (show (_:Nat)≤_;exact Nat.le_of_ble_eq_true rfl),?_⟩
  exact k
inductive g18 (l:List V) (K:Kp):Prop where
 | mk (z:Str) (h0:l=[.str z]) (h1:z.length=1) (h2:K (.bool (b1L.contains (z.cps.getD 0 0:Nat))))
theorem f18 (w:World):FnOk w 1 103 g18 :=
 qj (snd (yZ1 w 0)) (SxOk.none rfl) (at18 w) (names:=["code"]) (locs:=[]) (by rfl) (yV7 _) [] fun l K ⟨z,e,h,k⟩=>by
  subst e
  refine ⟨rfl,40,?_⟩
  conv=>whnf
  exact ⟨⟨_,_,_,_,_,rfl⟩,⟨rfl,rfl⟩,z,rfl,h,k⟩
inductive g20 (l:List V) (K:Kp):Prop where
 | mk (z:Str) (h0:l=[.str z]) (h1:z.length=1) (h2:(match b3At (z.cps.getD 0 0:Nat) with | some t=>K (.str t) | none=>tooLong (Txt.lower z).length=false∧K (.str (Txt.lower z))))
theorem f20 (w:World):FnOk w 1 149 g20 :=
 qj (snd (yZ2 w 0)) (SxOk.none rfl) (at20 w) (names:=["code"]) (locs:=["r"]) (by rfl) (yV8 _) [] fun l K ⟨z,e,h,k⟩=>by
  subst e
  refine ⟨rfl,40,?_⟩
  conv=>whnf
  refine ⟨⟨_,_,_,_,_,_,rfl,rfl⟩,⟨rfl,rfl⟩,z,rfl,h,fun o e=>?_⟩
  rw [e] at k
  cases o with
  | some t =>
   conv=>whnf
   exact ⟨rfl,k⟩
  | none =>
   conv=>whnf
   exact ⟨rfl,rfl,k⟩
inductive g2 (l:List V) (K:Kp):Prop where
 | mk (a b n:Int) (h0:l=[.int a,.int b,.int n]) (h1:(Builtin.Int.intBits a:Int) - n≤4000) (h2:b≠0) (h3:divisionGoesByPylong a b=false) (h4:K (.tup [.int (a.fdiv b),.int (a.fmod b)]))
theorem f2 (w:World):FnOk w 1 21 g2 :=
 qj (snd (yWk w 0)) (SxOk.none rfl) (at2 w) (names:=["a","b","n"]) (locs:=[]) (by rfl) (xZj _) [] fun l K ⟨a,b,n,e,h1,h2,h3,k⟩=>by
  subst e
  refine ⟨rfl,40,?_⟩
  conv=>whnf
  rw [decide_eq_true h1]
  exact ⟨h2,h3,k⟩
theorem yk {body:SRho→(SRho→Prop)→(SRho→Prop)→Prop} {bind:V→SRho→Option SRho} {done brk:SRho→Prop} (I:List V→SRho→Prop) (hd:∀ ρ,I [] ρ→done ρ)
  (step:∀ X Xs ρ,I (X :: Xs) ρ→∃ ρ',bind X ρ=some ρ'∧∀ kn:SRho→Prop,(∀ ρ'',I Xs ρ''→kn ρ'')→body ρ' kn brk):∀ (items:List V) (ρ:SRho),I items ρ→forS body bind done brk items ρ
 | [],ρ,h=>hd ρ h
 | X :: Xs,ρ,h=>by
  obtain ⟨ρ',h1,h2⟩:=step X Xs ρ h
  unfold forS
  rw [h1]
  exact h2 _ fun ρ'' h3=>yk I hd step Xs ρ'' h3
theorem uw {body:V→List V→(List V→Prop)→Prop} (f:V→V):∀ (items acc:List V) (K:List V→Prop),acc.length + items.length≤sizeLine→(∀ x∈items,∀ (acc:List V) (K':List V→Prop),acc.length≤sizeLine→K' (acc++[f x])→body x acc K')→K (acc++items.map f)→vX body items acc K
 | [],acc,K,_,_,k=>by unfold vX;simpa using k
 | x :: r,acc,K,hl,step,k=>by
  rw [List.length_cons] at hl
  refine step x List.mem_cons_self acc _ (by lia) (uw f r _ K (by rw [List.length_append,List.length_singleton];lia) (fun y hy=>step y (List.mem_cons_of_mem _ hy)) ?_)
  simpa using k
theorem qQ {body:V→List V→(List V→Prop)→Prop} (f:V→List V):∀ (items acc:List V) (K:List V→Prop),acc.length + (items.flatMap f).length≤sizeLine→(∀ x∈items,∀ (acc:List V) (K':List V→Prop),acc.length + (f x).length≤sizeLine→K' (acc++f x)→body x acc K')→K (acc++items.flatMap f)→vX body items acc K
 | [],acc,K,_,_,k=>by unfold vX;simpa using k
 | x :: r,acc,K,hl,step,k=>by
  rw [List.flatMap_cons,List.length_append] at hl
  refine step x List.mem_cons_self acc _ (by lia) (qQ f r _ K (by rw [List.length_append];lia) (fun y hy=>step y (List.mem_cons_of_mem _ hy)) ?_)
  simpa using k
theorem vw (n:Nat):pK (n:Int)=(List.range n).map fun (i:Nat)=>V.int i:=by unfold pK;simp
noncomputable def tx (l:List Nat):Str:=⟨l.toArray⟩
theorem zJ (l:List Nat):(tx l).length=l.length:=by unfold tx Str.length;simp
theorem hJ (a b:List Nat):tx a++tx b=tx (a++b):=by
 show Str.append _ _=_
 unfold tx Str.append;simp
theorem yWl {a b:List Nat} (h:tx a=tx b):a=b:=by
 unfold tx at h
 have:=congrArg Str.cps h
 simpa using this
theorem yZ3 (x:Str):tx x.cps.toList=x:=by unfold tx;simp
noncomputable def cut {α:Type} (l:List α) (a b:Nat):List α:=(l.take b).drop a
theorem oj {α:Type} (l:List α):∀ (n a:Nat),a + n≤l.length→((List.range' a n).filterMap (l[·]?))=(l.drop a).take n
 | 0,a,_=>by simp
 | n + 1,a,h=>by
  have ha:a < l.length:=by lia
  rw [List.range'_succ,List.filterMap_cons,List.getElem?_eq_getElem ha,oj l n (a + 1) (by lia),List.drop_eq_getElem_cons ha,List.take_succ_cons]
theorem cJ {α:Type} (l:List α) (a b:Nat) (h:l.length≤a∨b≤a):cut l a b=[]:=by
 unfold cut
 rw [List.drop_eq_nil_iff,List.length_take]
 exact h.elim (fun h=>Nat.le_trans (Nat.min_le_right _ _) h) fun h=>Nat.le_trans (Nat.min_le_left _ _) h
theorem zYc {α:Type} (l:List α) (a b:Nat):((List.range' a (min b l.length - a)).filterMap (l[·]?))=cut l a b:=by
 by_cases h:a≤min b l.length
 ·rw [oj l _ a (by rw [Nat.add_sub_cancel' h];exact Nat.min_le_right _ _),← List.drop_take,← List.take_eq_take_min];rfl
 ·have h:=Nat.le_of_lt (Nat.lt_of_not_le h)
  rw [Nat.sub_eq_zero_of_le h,cJ l a b ((Nat.le_total b l.length).elim (fun q=>.inr (by rwa [Nat.min_eq_left q] at h)) fun q=>.inl (by rwa [Nat.min_eq_right q] at h))]
  rfl
theorem zZg {α:Type} (l:List α) (a b:Nat):(List.range' (min a l.length) (min b l.length - min a l.length)).filterMap (l[·]?)=cut l a b:=by
 by_cases h:a≤l.length
 ·rw [Nat.min_eq_left h,zYc]
 ·have h:=Nat.le_of_lt (Nat.lt_of_not_le h)
  rw [Nat.min_eq_right h,Nat.sub_eq_zero_of_le (Nat.min_le_right _ _),cJ _ _ _ (.inl h)];rfl
theorem bnd (v:Option Nat) (d L:Nat) (hd:d≤L):(match v.map fun (n:Nat)=>(n:Int) with
  | none=>(d:Int)
  | some i=>if (1:Int) > 0 then max 0 (min (if i < 0 then i + (L:Int) else i) L) else max (-1) (min (if i < 0 then i + (L:Int) else i) ((L:Int) - 1)))=((min (v.getD d) L:Nat):Int):=by
 cases v with
 | none=>show (d:Int)=_;rw [Option.getD_none,Nat.min_eq_left hd]
 | some n =>
  show (if (1:Int) > 0 then max 0 (min (if (n:Int) < 0 then (n:Int) + (L:Int) else (n:Int)) (L:Int)) else _)=_
  rw [if_pos (by decide),if_neg (Int.not_lt.mpr (Int.natCast_nonneg _)),Option.getD_some,show min (n:Int) (L:Int)=((min n L:Nat):Int) from (Nat.le_total n L).elim (fun q=>by rw [Nat.min_eq_left q,Int.min_eq_left (Int.ofNat_le.mpr q)]) (fun q=>by rw [Nat.min_eq_right q,Int.min_eq_right (Int.ofNat_le.mpr q)]),Int.max_eq_right (Int.natCast_nonneg _)]
theorem ux (a b:Nat):sliceRange a b 1=List.range' a (b - a):=by
 unfold sliceRange
 have e:(if (1:Int) > 0 then (if (a:Int) < b then ((b:Int) - a + 1 - 1) / 1 else 0) else if (a:Int) > b then ((a:Int) - b - 1 - 1) / (-1) else 0).toNat=b - a:=by
  rw [if_pos (by decide)]
  split
  ·rw [Int.ediv_one];lia
  ·lia
 dsimp only
 rw [e,List.range'_eq_map_range]
 exact List.map_congr_left fun k _=>by lia
theorem kj (x:List Nat) (l u:Option Nat):Txt.slice (tx x) (l.map fun (n:Nat)=>(n:Int)) (u.map fun (n:Nat)=>(n:Int))=tx (cut x (l.getD 0) (u.getD x.length)):=by
 have e:strSliceIndices (l.map fun (n:Nat)=>(n:Int)) (u.map fun (n:Nat)=>(n:Int)) 1 x.length=List.range' (min (l.getD 0) x.length) (min (u.getD x.length) x.length - min (l.getD 0) x.length):=by
  rw [← ux]
  unfold strSliceIndices
  have h2:=bnd l 0 x.length (Nat.zero_le _)
  have h3:=bnd u x.length x.length (Nat.le_refl _)
  dsimp only at h2 h3 ⊢
  rw [if_pos (by decide),if_pos (by decide)]
  exact (congrArg (fun a=>sliceRange a _ 1) h2).trans (congrArg (fun b=>sliceRange _ b 1) h3)
 have e2:((strSliceIndices (l.map fun (n:Nat)=>(n:Int)) (u.map fun (n:Nat)=>(n:Int)) 1 x.length).filterMap (x[·]?))=cut x (l.getD 0) (u.getD x.length):=by
  rw [e,zZg]
 unfold Txt.slice
 rw [zJ]
 by_cases hc:((1:Int) == 1 && (strSliceIndices (l.map fun (n:Nat)=>(n:Int)) (u.map fun (n:Nat)=>(n:Int)) 1 x.length).length == x.length)=true
 ·rw [if_pos hc]
  rw [Bool.and_eq_true,beq_iff_eq,beq_iff_eq] at hc
  have hl:=hc.2
  rw [e,List.length_range'] at hl
  have:cut x (l.getD 0) (u.getD x.length)=x:=by
   unfold cut
   by_cases hx:x.length=0
   ·have:=List.eq_nil_of_length_eq_zero hx
    subst this;simp
   ·have hu:=Nat.le_trans (Nat.le_trans (Nat.le_of_eq hl.symm) (Nat.sub_le _ _)) (Nat.min_le_left _ _)
    have h0:min (l.getD 0) x.length=0:=(Nat.eq_zero_or_pos _).resolve_right fun hm=>absurd (Nat.le_trans (Nat.le_of_eq hl.symm) (Nat.sub_le_sub_right (Nat.min_le_right _ _) _)) (Nat.not_le.mpr (Nat.sub_lt (Nat.pos_of_ne_zero hx) hm))
    have h1:l.getD 0=0:=(Nat.le_total (l.getD 0) x.length).elim (fun h=>(Nat.min_eq_left h).symm.trans h0) fun h=>absurd ((Nat.min_eq_right h).symm.trans h0) hx
    rw [List.take_of_length_le hu,h1,List.drop_zero]
  rw [this]
 ·rw [if_neg hc]
  show tx _=_
  congr 1
  rw [← e2]
  unfold tx
  simp only [List.getElem?_toArray]
theorem oy (x:List Nat) (a:Nat):Txt.slice (tx x) (some (a:Int)) none=tx (x.drop a):=by
 have:=kj x (some a) none
 rw [show Option.map (fun (n:Nat)=>(n:Int)) (some a)=some (a:Int) from rfl] at this
 rw [show (none:Option Int)=Option.map (fun (n:Nat)=>(n:Int)) none from rfl,this]
 unfold cut;simp
theorem zZh (x:List Nat) (b:Nat):Txt.slice (tx x) none (some (b:Int))=tx (x.take b):=by
 have:=kj x none (some b)
 rw [show Option.map (fun (n:Nat)=>(n:Int)) (some b)=some (b:Int) from rfl] at this
 rw [show (none:Option Int)=Option.map (fun (n:Nat)=>(n:Int)) none from rfl,this]
 unfold cut;simp
theorem zXm (x:List Nat) (a b:Nat):Txt.slice (tx x) (some (a:Int)) (some (b:Int))=tx ((x.take b).drop a):=kj x (some a) (some b)
theorem zQh {x:List Nat} {k:Nat} (h:k < x.length):Txt.item (tx x) (k:Int)=tx [x[k]] :=
 PyProof.Rows.item_meets (Int.natCast_nonneg _) (by rw [Int.toNat_natCast];unfold tx;simp)
theorem qZ (x:List Nat):sQ (tx x)=x.map fun c=>.str (tx [c]):=by unfold sQ tx;simp
theorem oQ (l:List V) (a b:Option Nat):lz l (a.map fun (n:Nat)=>(n:Int)) (b.map fun (n:Nat)=>(n:Int)) none=cut l (a.getD 0) (b.getD l.length):=by
 have h2:=bnd a 0 l.length (Nat.zero_le _)
 have h3:=bnd b l.length l.length (Nat.le_refl _)
 have e:sliceBounds (a.map fun (n:Nat)=>(n:Int)) (b.map fun (n:Nat)=>(n:Int)) none l.length=(((min (a.getD 0) l.length:Nat):Int),((min (b.getD l.length) l.length:Nat):Int),1):=by
  unfold sliceBounds
  dsimp only [Option.getD_none] at h2 h3 ⊢
  rw [if_pos (by decide:(1:Int) > 0),if_pos (by decide:(1:Int) > 0)]
  exact Prod.ext h2 (Prod.ext h3 rfl)
 unfold lz
 rw [e]
 dsimp only
 rw [ux,zZg]
noncomputable def chB (p q:Nat) (b:Bool):Nat:=if b then q else p
noncomputable def wd (p q:Nat) (w:List Bool):Str:=tx (w.map (chB p q))
theorem yZ4 {p q:Nat} (h:p≠q) {a b:Bool} (e:chB p q a=chB p q b):a=b:=by
 unfold chB at e
 cases a <;> cases b <;> simp_all
theorem yWm {p q:Nat} (h:p≠q) {a b:List Bool} (e:wd p q a=wd p q b):a=b:=by
 have:=yWl e
 exact (List.map_inj_right fun x y=>yZ4 h).mp this
theorem zJ5 {p q:Nat} (h:p≠q) (a b:List Bool):(wd p q a == wd p q b)=(a == b):=by
 by_cases e:a=b
 ·subst e;rw [beq_self_eq_true,beq_self_eq_true]
 ·rw [beq_eq_false_iff_ne.mpr e,beq_eq_false_iff_ne.mpr fun x=>e (yWm h x)]
theorem yq (p q:Nat) (w:List Bool):(wd p q w).length=w.length:=by unfold wd;rw [zJ,List.length_map]
theorem cK (p q:Nat) (a b:List Bool):wd p q a++wd p q b=wd p q (a++b):=by unfold wd;rw [hJ,List.map_append]
theorem yZ5 {p q:Nat} {w:List Bool} {k:Nat} (h:k < w.length):Txt.item (wd p q w) (k:Int)=wd p q [w.getD k false]:=by
 unfold wd
 rw [zQh (by rw [List.length_map];exact h),List.getElem_map,List.getD_eq_getElem?_getD,List.getElem?_eq_getElem h];rfl
theorem zJ6 (p q:Nat) (w:List Bool) (a:Nat):Txt.slice (wd p q w) (some (a:Int)) none=wd p q (w.drop a):=by unfold wd;rw [oy,List.map_drop]
theorem yWn (p q:Nat) (w:List Bool) (a:Nat):Txt.slice (wd p q w) none (some (a:Int))=wd p q (w.take a):=by unfold wd;rw [zZh,List.map_take]
noncomputable def zYd (w:List Bool) (b:Bool) (ws:List Int) (k:Nat):Int:=ws.getD (k + 1) 0 + (if w.getD k false == b then ws.getD k 0 else 0)
noncomputable def kw (w:List Bool) (ws:List Int) (b:Bool):List Int:=1 :: (List.range w.length).map (zYd w b ws)
noncomputable def jQ (w:List Bool) (ls:List Bool):Int:=(ls.foldl (kw w) (1 :: List.replicate w.length 0)).getD w.length 0
theorem zQi (w:List Bool) (ws:List Int) (b:Bool):(kw w ws b).length=w.length + 1:=by unfold kw;simp
noncomputable def cx26:Cx:={ cx0 with fg:=fgOf [("letter",["letter"])] }
theorem yZ6 (w:World) (k:Nat):CxOk w k cx26:=⟨(yZ w k).fn,(yZ w k).gv,(yZ w k).ext⟩
noncomputable def letV (p q:Nat) (ls:List Bool):List V:=ls.map fun b=>V.str (wd p q [b])
noncomputable abbrev S26 (p q:Nat) (w ls:List Bool) (ws:List Int) (x:Slt):SRho:=[("word",.val (.str (wd p q w))),("letters",.val (.lst (letV p q ls))),("ways",.val (.lst (ws.map V.int))),("letter",x)]
noncomputable def I26 (p q:Nat) (w ls:List Bool) (rest:List V) (ρ:SRho):Prop :=
 ∃ a r ws x,ls=a++r∧rest=letV p q r∧ws=a.foldl (kw w) (1 :: List.replicate w.length 0)∧ws.length=w.length + 1∧ρ=S26 p q w ls ws x
theorem rZ {ws:List Int} {k:Nat} (h:k < ws.length):(ws.map V.int)[k]?=some (V.int (ws.getD k 0)):=by
 rw [List.getElem?_map,List.getElem?_eq_getElem h,List.getD_eq_getElem?_getD,List.getElem?_eq_getElem h];rfl
theorem xs26 (p q:Nat) (hpq:p≠q) (w ls:List Bool) (hw:w.length≤100) (K:Kp) (k:K (.int (jQ w ls))) :
  xs cx26 (fdSc 26) [] 40 (fdB 26) (wW ["word","letters"] [.str (wd p q w),.lst (letV p q ls)] ["ways","letter"]) (fun _=>K .none) K (fun _=>False):=by
 have hwl:=yq p q w
 conv=>whnf
 refine ⟨Nat.le_of_ble_eq_true rfl,?_⟩
 conv=>whnf
 refine ⟨Nat.le_of_ble_eq_true rfl,?_⟩
 conv=>whnf
 refine ⟨by rw [hwl];lia,?_⟩
 conv=>whnf
 refine ⟨by rw [hwl];lia,by rw [hwl];lia,by rw [hwl];show 1 * _≤_;lia,?_⟩
 conv=>whnf
 have hrep:(List.replicate ((wd p q w).length:Int).toNat [V.int 0]).flatten=(List.replicate w.length (0:Int)).map V.int:=by
  rw [hwl,Int.toNat_natCast,List.map_replicate]
  generalize w.length=m
  induction m with
  | zero=>rfl
  | succ m ih=>rw [List.replicate_succ,List.flatten_cons,ih,List.replicate_succ];rfl
 rw [hrep]
 refine ⟨by rw [List.length_map,List.length_replicate,sizeLine_eq];show 1 + _≤_;lia,?_⟩
 conv=>whnf
 refine yk (I26 p q w ls) (fun ρ hI=>?_) (fun X Xs ρ hI=>?_) _ _ ?_
 ·apply bc;intro hQ;rcases hI with ⟨a,r,ws,x,e1,e2,e3,e4,rfl⟩;refine hQ ?_;clear hQ
  have:r=[]:=List.map_eq_nil_iff.mp e2.symm
  subst this
  rw [List.append_nil] at e1
  subst e1
  conv=>whnf
  refine ⟨by decide,by decide,w.length,.int (ws.getD w.length 0),?_,rZ (by lia),?_⟩
  ·show seqIndex? (-1) (ws.map V.int).length=_
   rw [List.length_map,e4]
   exact PyProof.Rows.seqIndex?_neg_one (Nat.succ_pos _)
  ·rw [e3];exact k
 ·apply bc;intro hQ;rcases hI with ⟨a,r,ws,x,e1,e2,e3,e4,rfl⟩;refine hQ ?_;clear hQ
  cases r with
  | nil=>contradiction
  | cons b r =>
   unfold letV at e2
   rw [List.map_cons,List.cons.injEq] at e2
   apply bc;intro hQ;rcases e2 with ⟨rfl,rfl⟩;refine hQ ?_;clear hQ
   refine ⟨S26 p q w ls ws (.val (.str (wd p q [b]))),rfl,fun kn hk=>?_⟩
   conv=>whnf
   refine ⟨Nat.le_of_ble_eq_true rfl,?_⟩
   conv=>whnf
   refine ⟨by rw [hwl];lia,?_⟩
   conv=>whnf
   refine ⟨by rw [hwl];lia,by rw [hwl];lia,?_⟩
   rw [hwl,vw]
   refine uw (fun v=>match v with | .int k=>.int (zYd w b ws k.toNat) | _=>.none) _ _ _ (by simp only [List.length_append,List.length_cons,List.length_nil,List.length_map,List.length_range,zJ,sizeLine_eq];lia) (fun v hv acc K' hacc k'=>?_) ?_
   ·apply bc;intro hQ;rcases List.mem_map.mp hv with ⟨m,hm,rfl⟩;refine hQ ?_;clear hQ
    rw [List.mem_range] at hm
    conv=>whnf
    have hm1:((m:Int) + 1)=((m + 1:Nat):Int):=by lia
    refine ⟨by lia,by lia,m + 1,.int (ws.getD (m + 1) 0),?_,rZ (by lia),?_⟩
    ·rw [List.length_map,hm1];exact seqIndex_of (Int.natCast_nonneg _) (by lia)
    conv=>whnf
    refine ⟨by unfold fitsSsize;simp;lia,by lia,by rw [hwl];lia,?_⟩
    rw [yZ5 hm]
    conv=>whnf
    rw [zJ5 hpq]
    have hbb:(false != ([w.getD m false] == [b]))=(w.getD m false == b):=by
     rw [Bool.false_bne]
     cases w.getD m false <;> cases b <;> rfl
    rw [hbb]
    have k2:K' (acc++[.int (ws.getD (m + 1) 0 + (if w.getD m false == b then ws.getD m 0 else 0))]):=k'
    cases hc:(w.getD m false == b) with
    | true =>
     rw [hc] at k2
     conv=>whnf
     refine ⟨by lia,by lia,m,.int (ws.getD m 0),?_,rZ (by lia),?_⟩
     ·rw [List.length_map];exact seqIndex_of (Int.natCast_nonneg _) (by lia)
     exact ⟨hacc,k2⟩
    | false =>
     rw [hc] at k2
     conv=>whnf
     exact ⟨hacc,k2⟩
   ·conv=>whnf
    have hcut:([]:List V)++((List.range w.length).map fun (i:Nat)=>V.int i).map (fun v=>match v with | .int k=>.int (zYd w b ws k.toNat) | _=>.none)=((List.range w.length).map (zYd w b ws)).map V.int:=by
     rw [List.nil_append,List.map_map,List.map_map]
     exact List.map_congr_left fun k _=>rfl
    rw [hcut]
    refine ⟨by rw [List.length_map,List.length_map,List.length_range,sizeLine_eq];show 1 + _≤_;omega,?_⟩
    refine hk _ ⟨a++[b],r,kw w ws b,.val (.str (wd p q [b])),by rw [e1];simp,rfl,by rw [e3,List.foldl_append];rfl,zQi _ _ _,?_⟩
    rfl
 ·exact ⟨[],ls,_,.un,rfl,rfl,rfl,by simp,rfl⟩
inductive g26 (l:List V) (K:Kp):Prop where
 | mk (p q:Nat) (wo ls:List Bool) (h0:p≠q) (h1:l=[.str (wd p q wo),.lst (letV p q ls)]) (h2:wo.length≤100) (h3:K (.int (jQ wo ls)))
theorem f26 (w:World):FnOk w 1 180 g26 :=
 qj (snd (yZ6 w 0)) (SxOk.none rfl) (at26 w) (names:=["word","letters"]) (locs:=["ways","letter"]) (by rfl) (yWd _) [] fun l K ⟨p,q,wo,ls,h,e,h1,k⟩=>by subst e;exact ⟨rfl,40,xs26 p q h wo ls h1 K k⟩
inductive IsRet27:Stmt→Prop where
 | mk {p1 p2 p3 p4 n0 p5 p6 p7 p8}:IsRet27 (.Return (some (.Call (.Name "sorted" p1) [.Name "factors" p2] [⟨some "key",.Name "len" p3,p4⟩,⟨some "reverse",.Constant (.bool true) n0 p5,p6⟩] p7)) p8)
noncomputable def xZn (st:Stmt) (ρ:SRho) (_:SRho→Prop) (Kr:V→Prop):Prop :=
 IsRet27 st ∧
 ∃ ss:List Str,ρ.lookup ("factors":Str)=some (.own (ss.map V.str))∧ss.length < 64∧(∀ s∈ss,s.length < 2 ^ 62)∧∀ ss':List Str,ss'.Perm ss→ss'.Pairwise (fun a b=>b.length≤a.length)→Kr (.lst (ss'.map V.str))
noncomputable def sx27 (st:Stmt):Option (SRho→(SRho→Prop)→(V→Prop)→Prop):=sxAt 187 xZn none st
noncomputable def cx27:Cx:={ cx0 with sx:=sx27,fg:=fgOf [("turn",["turn"])] }
theorem yZ7 (w:World) (k:Nat):CxOk w k cx27:=⟨(yZ w k).fn,(yZ w k).gv,(yZ w k).ext⟩
theorem zJ7 {ps:List (Int×Value)} {sp:List (Str×Tok)} (hp:ps.Perm ((sp.map fun p=>((p.1.length:Nat):Int)).zip (strValues sp))) (hs:ps.Pairwise (fun p q=>q.1≤p.1)) :
  ∃ sp':List (Str×Tok),ps.map Prod.snd=strValues sp'∧(sp'.map (·.1)).Perm (sp.map (·.1))∧(sp'.map (·.1)).Pairwise (fun a b=>b.length≤a.length):=by
 have e:((sp.map fun p=>((p.1.length:Nat):Int)).zip (strValues sp))=sp.map fun p=>(((p.1.length:Nat):Int),Value.str p.1 p.2):=by
  unfold strValues
  rw [List.zip_map']
 rw [e] at hp
 have hm:∀ x∈ps,∃ p:Str×Tok,x=(((p.1.length:Nat):Int),Value.str p.1 p.2):=fun x hx=>by
  apply bc;intro hQ;rcases List.mem_map.mp (hp.mem_iff.mp hx) with ⟨p,_,rfl⟩;refine hQ ?_;clear hQ
  exact ⟨p,rfl⟩
 have hex:∀ (qs:List (Int×Value)),(∀ x∈qs,∃ p:Str×Tok,x=(((p.1.length:Nat):Int),Value.str p.1 p.2))→∃ sp':List (Str×Tok),qs=sp'.map fun p=>(((p.1.length:Nat):Int),Value.str p.1 p.2):=by
  intro qs
  induction qs with
  | nil=>exact fun _=>⟨[],rfl⟩
  | cons x r ih =>
   intro h
   apply bc;intro hQ;rcases h x List.mem_cons_self with ⟨p,rfl⟩;rcases ih fun y hy=>h y (List.mem_cons_of_mem _ hy) with ⟨sp',rfl⟩;refine hQ ?_;clear hQ
   exact ⟨p :: sp',rfl⟩
 apply bc;intro hQ;rcases hex ps hm with ⟨sp',rfl⟩;refine hQ ?_;clear hQ
 refine ⟨sp',by rw [List.map_map];rfl,?_,?_⟩
 ·have h1:=hp.map fun x=>zQe x.2
  rw [List.map_map,List.map_map] at h1
  exact h1
 ·rw [List.pairwise_map] at hs ⊢
  exact hs.imp fun h=>by dsimp only at h;lia
theorem cV {h₀ h:Heap} {L P:Addr} {m:Str→Option Value} {ln cl:Nat} {qn:Str} (F:PyProof.Rows.Fr h₀ L h m) (hh:h₀.get? P=none) (t:Inv1 P ln cl qn h) :
  ∃ news:List (Addr×Obj),News h₀ L h news∧∀ h',PyProof.Rows.Fr h₀ L h' m→(∀ p∈news,h'.get? p.1=some p.2)→Inv1 P ln cl qn h':=by
 have nl:∀ {b:Addr} {o:Obj} {vs:Array Value},h.get? b=some o→o.data=.fields vs→b≠L:=fun e d q=>by
  apply bc;intro hQ;rcases F.ns with ⟨o',es,ep,h1,h2,_⟩;refine hQ ?_;clear hQ
  rw [q,h1] at e;(injection e with e;subst e);rw [h2] at d;contradiction
 apply bc;intro hQ;rcases t with ⟨ps,h1,h2⟩;refine hQ ?_;clear hQ
 have hP:h.get? P=some (tabO ps)∧P≠L∧h₀.get? P=none:=⟨h1,nl h1 rfl,hh⟩
 rcases h2 with h2 | ⟨c,e1,e2,c',o,vs,t,e3,e4,e5,e6⟩
 ·exact ⟨[(P,tabO ps)],fun p hp=>by rw [List.mem_singleton.mp hp];exact hP,fun h' F' k=>⟨ps,k _ List.mem_cons_self,.inl h2⟩⟩
 ·cases ho:h₀.get? c' with
  | some o' =>
   have e7:=F.keep _ _ ho
   rw [e4] at e7;(injection e7 with e7;subst e7)
   exact ⟨[(P,tabO ps)],fun p hp=>by rw [List.mem_singleton.mp hp];exact hP,fun h' F' k=>⟨ps,k _ List.mem_cons_self,.inr ⟨c,e1,e2,c',o,vs,t,e3,F'.keep _ _ ho,e5,e6⟩⟩⟩
  | none =>
   refine ⟨[(P,tabO ps),(c',o)],fun p hp=>?_,fun h' F' k=>⟨ps,k _ List.mem_cons_self,.inr ⟨c,e1,e2,c',o,vs,t,e3,k _ (List.mem_cons_of_mem _ List.mem_cons_self),e5,e6⟩⟩⟩
   rcases List.mem_cons.mp hp with rfl | hp
   ·exact hP
   ·rw [List.mem_singleton.mp hp];exact ⟨e4,nl e4 e5,ho⟩
theorem zYe {h₀ h:Heap} {L:Addr} {m:Str→Option Value} (F:PyProof.Rows.Fr h₀ L h m) (hh:∀ b,Hid b=true→h₀.get? b=none) (t:zW h) :
  ∃ news:List (Addr×Obj),News h₀ L h news∧∀ h',PyProof.Rows.Fr h₀ L h' m→(∀ p∈news,h'.get? p.1=some p.2)→zW h':=by
 apply bc;intro hQ;rcases cV F (hh 30 rfl) t.1 with ⟨n1,a1,b1⟩;rcases cV F (hh 37 rfl) t.2 with ⟨n2,a2,b2⟩;refine hQ ?_;clear hQ
 exact ⟨n1++n2,fun p hp=>(List.mem_append.mp hp).elim (a1 p) (a2 p),fun h' F' k=>⟨b1 h' F' fun p hp=>k p (List.mem_append_left _ hp),b2 h' F' fun p hp=>k p (List.mem_append_right _ hp)⟩⟩
theorem yZ8 (w:World) (k:Nat):SxOk w k cx27 (fdSc 27):=by
 intro A E s₀ env off₀ st f ρ Kn Kr m cm ad s Q _ h F kk q
 rcases mw h with rfl | h
 ·apply bc;intro hQ;rcases kk with ⟨⟨⟩,ss,hl,h64,hlen,kr⟩;rcases F.slots _ _ hl with ⟨g0,g1,items,g2,g3⟩;rcases RdL.strs g3 with ⟨sp,hsp,hss⟩;refine hQ ?_;clear hQ
  have X:=F.call.toInCall
  have hss2:ss.length < 64:=h64
  obtain ⟨b1,b2⟩:mgv w.params "sorted"=none∧mbv w.params "sorted"=some (.builtin "sorted"):=⟨by kernel_rfl,by kernel_rfl⟩
  obtain ⟨b3,b4⟩:=lk (x:="len") (f:=.len) w.params (by rfl)
  refine wpAny_Return_some ?_
  refine wpAny_bind (yV F.glbs F.en (by rfl) b1 b2 (callWith_kw (args_cons (wV F g1 (args_nil ?_)))))
  refine kws_cons (yV F.glbs F.en (by rfl) b3 b4 (kws_cons (wpAny_Constant_bool (kws_nil ?_))))
  have hil:s.heap.IsList (ad "factors") (strValues sp).toArray:=by rw [← hsp,Array.toArray_toList];exact g2.isList
  have FF:PyProof.Rows.Fr s₀.heap env.locals s.heap m:=⟨X.ns,X.keep,X.fresh⟩
  apply bc;intro hQ;rcases zYe FF F.hid F.tab with ⟨nws,hn1,hn2⟩;refine hQ ?_;clear hQ
  refine ksk_sorted (h₀:=s₀.heap) (L:=env.locals) (m:=m) (news:=nws) (b:=true) (kz:=sp.map fun p=>((p.1.length:Nat):Int)) (f:=.builtin "len") FF hn1 hil (by unfold strValues;rw [List.length_map,List.length_map]) (by unfold strValues;rw [List.length_map,← List.length_map (f:=(·.1)),hss];exact h64)
   (ksk_s2 _ _ _) (fun x=>ksk_l2 _ _ _) (fun x=>ksk_t5 _ _ _) (fun i v kz hv hk h tk own F' N'=>?_) (fun D h' tk out c F' N' _ ko=>?_)
  ·unfold strValues at hv
   rw [List.getElem?_map] at hv hk
   cases hi:sp[i]? with
   | none=>rw [hi] at hv;cases hv
   | some p =>
    rw [hi] at hv hk
    cases hv;cases hk
    have hp:p.1∈ss:=by rw [← hss];exact List.mem_map.mpr ⟨p,List.mem_of_getElem? hi,rfl⟩
    have hlp:=hlen _ hp
    exact call_len_gives (s:={ s with heap:=h,toks:=tk }) (typeIs_str _ _ _) PySem.F.slot_str_len PySem.F.entry_str_len (PySem.F.args_str_len_1 _) (gives_str_len p.1 p.2) (by lia) (by lia) (KskEnd.intro F' N' fun p hp=>hp)
  ·apply bc;intro hQ;rcases ko with ⟨ps,hp,ho,hs⟩;rcases zJ7 hp hs with ⟨sp',h1,h2,h3⟩;refine hQ ?_;clear hQ
   rw [hss] at h2
   have hD:=N' _ List.mem_cons_self
   apply bc;intro hQ;rcases X.same with ⟨h₁,tk₁,es⟩;refine hQ ?_;clear hQ
   refine q (.ret (.ref D)) _ ⟨.lst ((sp'.map (·.1)).map V.str),kr _ h2 h3,?_,h',tk,by rw [es],F'.keep,hn2 h' F' fun p hp=>(N' p (List.mem_cons_of_mem _ hp)).1⟩
   ·refine Rd.lstI (vs:=out) (fun hoff=>?_) ⟨c,hD.1⟩ ?_
    ·rcases F.old D hoff with ⟨o,eo⟩ | hh
     ·rw [hD.2.2] at eo;cases eo
     ·obtain ⟨ps,e⟩:=yQ (hn2 h' F' fun p hp=>(N' p (List.mem_cons_of_mem _ hp)).1) hh
      have hD1:h'.get? D=some (seqObj "list" out c):=hD.1
      rw [hD1] at e;cases e
    ·rw [ho,h1];exact RdL.of_strs rfl
 ·cases h
theorem yQw {p q:Nat} (h:p < q) (x y:Bool):chB p q x < chB p q y ↔ x=false∧y=true:=by
 cases x <;> cases y <;> unfold chB
 ·exact iff_of_false (Nat.lt_irrefl _) (by decide)
 ·exact iff_of_true h ⟨rfl,rfl⟩
 ·exact iff_of_false (Nat.lt_asymm h) (by decide)
 ·exact iff_of_false (Nat.lt_irrefl _) (by decide)
theorem yQx {p q:Nat} (h:p < q) (x y:Bool):chB p q x=chB p q y ↔ x=y:=by
 cases x <;> cases y <;> unfold chB
 ·exact iff_of_true rfl rfl
 ·exact iff_of_false (Nat.ne_of_lt h) (by decide)
 ·exact iff_of_false (Nat.ne_of_gt h) (by decide)
 ·exact iff_of_true rfl rfl
theorem xZo {p q:Nat} (h:p < q) (a:List Bool):∀ b:List Bool,(a.map (chB p q) < b.map (chB p q)) ↔ (a.map (chB 0 1) < b.map (chB 0 1)):=by
 induction a with
 | nil=>intro b;cases b with
  | nil=>exact Iff.rfl
  | cons y b=>exact iff_of_true (List.nil_lt_cons _ _) (List.nil_lt_cons _ _)
 | cons x a ih=>intro b;cases b with
  | nil=>exact iff_of_false (List.not_lt_nil _) (List.not_lt_nil _)
  | cons y b=>rw [List.map_cons,List.map_cons,List.map_cons,List.map_cons,List.cons_lt_cons_iff,List.cons_lt_cons_iff,ih,yQw h,yQw Nat.zero_lt_one,yQx h,yQx Nat.zero_lt_one]
theorem oZ {f g:Nat→Nat→Bool}:∀ (k:Nat),(∀ i j,i≤k→j≤k→f i j=g i j)→argBest f k=argBest g k∧argBest f k≤k
 | 0,_=>⟨rfl,Nat.le_refl _⟩
 | k + 1,h=>by
  obtain ⟨h1,h2⟩:=oZ k fun i j hi hj=>h i j (by lia) (by lia)
  unfold argBest
  rw [← h1,h _ _ (Nat.le_refl _) (by lia)]
  split
  ·exact ⟨rfl,Nat.le_refl _⟩
  ·exact ⟨rfl,by lia⟩
noncomputable def minL (l:List (List Bool)):List Bool:=l.getD (argBest (fun i j=>decide ((l.getD i []).map (chB 0 1) < (l.getD j []).map (chB 0 1))) (l.length - 1)) []
theorem yZ9 {p q:Nat} (h:p < q) {l:List (List Bool)} (hl:l≠[]):minS (l.map (wd p q))=wd p q (minL l):=by
 have hpos:0 < l.length:=List.length_pos_iff.mpr hl
 have hg:∀ i,i≤l.length - 1→(l.map (wd p q)).getD i default=wd p q (l.getD i []):=fun i hi=>by
  have hlt:i < l.length:=by omega
  rw [List.getD_eq_getElem?_getD,List.getD_eq_getElem?_getD,List.getElem?_map,List.getElem?_eq_getElem hlt];rfl
 obtain ⟨h1,h2⟩:=oZ (f:=ltAt (l.map (wd p q))) (g:=fun i j=>decide ((l.getD i []).map (chB 0 1) < (l.getD j []).map (chB 0 1))) (l.length - 1) fun i j hi hj=>by
  unfold ltAt
  rw [hg i hi,hg j hj]
  refine decide_eq_decide.mpr ?_
  show (tx _).cps.toList < (tx _).cps.toList ↔ _
  exact xZo h _ _
 unfold minS minL
 rw [List.length_map,← h1,hg _ h2]
noncomputable def rX (r:List Bool):List Bool:=minL ((List.range r.length).map fun k=>r.drop k)
theorem cW (r:List Bool):(rX r).length≤r.length:=by
 unfold rX minL
 rw [List.getD_eq_getElem?_getD,List.getElem?_map]
 cases h:(List.range r.length)[argBest _ _]? with
 | none=>simp
 | some k=>simp
noncomputable def jZ (s:List (List Bool)×List Bool):List (List Bool)×List Bool:=if s.2=[] then s else (s.1++[rX s.2],s.2.take (s.2.length - (rX s.2).length))
noncomputable def facN (w:List Bool):Nat→List (List Bool)×List Bool
 | 0=>([],w)
 | n + 1=>jZ (facN w n)
theorem zJ8 (w:List Bool) (n:Nat):(facN w n).2.length≤w.length∧(facN w n).1.length≤n∧∀ f∈(facN w n).1,f.length≤w.length:=by
 induction n with
 | zero=>exact ⟨Nat.le_refl _,Nat.le_refl _,fun f h=>nm h⟩
 | succ n ih =>
  unfold facN jZ
  split
  ·exact ⟨ih.1,by omega,ih.2.2⟩
  ·refine ⟨?_,?_,fun f hf=>?_⟩
   ·rw [List.length_take];omega
   ·rw [List.length_append];show _ + 1≤_;omega
   ·rcases List.mem_append.mp hf with hf | hf
    ·exact ih.2.2 f hf
    ·rw [List.mem_singleton.mp hf];exact Nat.le_trans (cW _) ih.1
noncomputable def facs (w:List Bool):List (List Bool):=(facN w w.length).1
noncomputable def wdV (p q:Nat) (l:List (List Bool)):List V:=l.map fun w=>V.str (wd p q w)
noncomputable abbrev S27 (p q:Nat) (w:List Bool) (s:List (List Bool)×List Bool) (x:Slt):SRho:=[("word",.val (.str (wd p q w))),("factors",.own (wdV p q s.1)),("rest",.val (.str (wd p q s.2))),("turn",x)]
noncomputable def I27 (p q:Nat) (w:List Bool) (rest:List V) (ρ:SRho):Prop :=
 ∃ n x,n + rest.length=w.length∧(∀ v∈rest,∃ c,v=.str (tx [c]))∧ρ=S27 p q w (facN w n) x
theorem xs27 (p q:Nat) (hpq:p < q) (w:List Bool) (hw:w.length≤60) (K:Kp) (k:∀ l:List (List Bool),l.Perm (facs w)→l.Pairwise (fun a b=>b.length≤a.length)→K (.lst (wdV p q l))) :
  xs cx27 (fdSc 27) ["factors"] 40 (fdB 27) (wW ["word"] [.str (wd p q w)] ["factors","rest","turn"]) (fun _=>K .none) K (fun _=>False):=by
 have hwl:=yq p q w
 conv=>whnf
 refine ⟨Nat.le_of_ble_eq_true rfl,?_⟩
 conv=>whnf
 refine ⟨Nat.le_of_ble_eq_true rfl,?_⟩
 conv=>whnf
 refine ⟨by rw [hwl,sizeLine_eq];lia,?_⟩
 refine yk (I27 p q w) (fun ρ hI=>?_) (fun X Xs ρ hI=>?_) _ _ ?_
 ·apply bc;intro hQ;rcases hI with ⟨n,x,e1,e2,rfl⟩;refine hQ ?_;clear hQ
  have:n=w.length:=e1
  subst this
  conv=>whnf
  have hle:=zJ8 w w.length
  refine ⟨⟨⟩,(facs w).map (wd p q),congrArg (fun l=>some (Slt.own l)) (show wdV p q (facN w w.length).1=_ by rw [List.map_map];rfl),by rw [List.length_map];show (facN w w.length).1.length < 64;lia,fun s hs=>?_,fun ss' h1 h2=>?_⟩
  ·apply bc;intro hQ;rcases List.mem_map.mp hs with ⟨f,hf,rfl⟩;refine hQ ?_;clear hQ
   have:=hle.2.2 f hf
   rw [yq];lia
  ·obtain ⟨l,rfl⟩:∃ l:List (List Bool),ss'=l.map (wd p q):=by
    have hm:∀ s∈ss',∃ f,s=wd p q f:=fun s hs=>by
     apply bc;intro hQ;rcases List.mem_map.mp (h1.mem_iff.mp hs) with ⟨f,_,rfl⟩;refine hQ ?_;clear hQ
     exact ⟨f,rfl⟩
    clear h1 h2
    induction ss' with
    | nil=>exact ⟨[],rfl⟩
    | cons s r ih =>
     apply bc;intro hQ;rcases hm s List.mem_cons_self with ⟨f,rfl⟩;rcases ih fun y hy=>hm y (List.mem_cons_of_mem _ hy) with ⟨l,rfl⟩;refine hQ ?_;clear hQ
     exact ⟨f :: l,rfl⟩
   have h3:l.Perm (facs w):=by
    have:=h1.map fun s:Str=>s.cps.toList.map (· == q)
    rw [List.map_map,List.map_map] at this
    have e:((fun s:Str=>s.cps.toList.map (· == q)) ∘ wd p q)=_root_.id:=by
     funext w
     show ((tx (w.map (chB p q))).cps.toList).map (· == q)=w
     unfold tx
     rw [List.toList_toArray,List.map_map]
     conv=>rhs;rw [← List.map_id w]
     refine List.map_congr_left fun b _=>?_
     show (chB p q b == q)=b
     cases b
     ·exact beq_eq_false_iff_ne.mpr (Nat.ne_of_lt hpq)
     ·exact beq_self_eq_true q
    rw [e,List.map_id,List.map_id] at this
    exact this
   have h4:l.Pairwise (fun a b=>b.length≤a.length):=by
    rw [List.pairwise_map] at h2
    exact h2.imp fun h=>by rw [yq,yq] at h;exact h
   have:=k l h3 h4
   unfold wdV at this
   rw [List.map_map]
   exact this
 ·apply bc;intro hQ;rcases hI with ⟨n,x,e1,e2,rfl⟩;refine hQ ?_;clear hQ
  rw [List.length_cons] at e1
  apply bc;intro hQ;rcases e2 _ List.mem_cons_self with ⟨c,rfl⟩;refine hQ ?_;clear hQ
  have hle:=zJ8 w n
  generalize hs:facN w n=s at hle
  obtain ⟨fs,r⟩:=s
  dsimp only at hle
  refine ⟨S27 p q w (fs,r) (.val (.str (tx [c]))),rfl,fun kn hk=>?_⟩
  have fin:∀ s',s'=jZ (fs,r)→kn (S27 p q w s' (.val (.str (tx [c])))):=fun s' h=>by
   refine hk _ ⟨n + 1,.val (.str (tx [c])),by lia,fun v hv=>e2 v (List.mem_cons_of_mem _ hv),?_⟩
   unfold facN;rw [hs,h]
  conv=>whnf
  rw [show (wd p q r == Str.ofString "")=(r == []) from zJ5 (Nat.ne_of_lt hpq) r []]
  have hrl:=yq p q r
  by_cases hr:r=[]
  ·rw [show (true != (r == []))=false by rw [hr];rfl]
   conv=>whnf
   exact fin _ (by unfold jZ;rw [if_pos hr])
  ·rw [show (true != (r == []))=true by rw [beq_eq_false_iff_ne.mpr hr];rfl]
   conv=>whnf
   refine ⟨by rw [hrl];lia,?_⟩
   conv=>whnf
   refine ⟨by rw [hrl];lia,by rw [hrl];lia,?_⟩
   rw [hrl,vw]
   have hfin:kn (S27 p q w (fs++[rX r],r.take (r.length - (rX r).length)) (.val (.str (tx [c])))):=fin _ (by unfold jZ;rw [if_neg hr])
   have hml:=cW r
   refine uw (fun v=>match v with | .int k=>.str (wd p q (r.drop k.toNat)) | _=>.none) _ _ _ (by simp only [List.length_append,List.length_cons,List.length_nil,List.length_map,List.length_range,zJ,sizeLine_eq];lia) (fun v hv acc K' hacc k'=>?_) ?_
   ·apply bc;intro hQ;rcases List.mem_map.mp hv with ⟨m,hm,rfl⟩;refine hQ ?_;clear hQ
    conv=>whnf
    refine ⟨by rw [hrl,sizeLine_eq];lia,hacc,?_⟩
    rw [zJ6]
    exact k'
   ·conv=>whnf
    refine ⟨((List.range r.length).map fun k=>r.drop k).map (wd p q),?_,?_,?_⟩
    ·rw [List.nil_append,List.map_map,List.map_map,List.map_map]
     exact List.map_congr_left fun k _=>rfl
    ·intro h
     have:=congrArg List.length h
     simp only [List.length_map,List.length_range,List.length_nil] at this
     exact hr (List.eq_nil_of_length_eq_zero this)
    rw [yZ9 hpq (by
     intro h
     have:=congrArg List.length h
     simp only [List.length_map,List.length_range,List.length_nil] at this
     exact hr (List.eq_nil_of_length_eq_zero this))]
    conv=>whnf
    refine ⟨by unfold wdV;rw [List.length_map,sizeLine_eq];show fs.length≤_;lia,?_⟩
    conv=>whnf
    refine ⟨by rw [hrl];lia,?_⟩
    conv=>whnf
    refine ⟨by decide,by decide,fs.length,.str (wd p q (rX r)),?_,?_,?_⟩
    ·show seqIndex? (-1) (wdV p q fs++[_]).length=_
     rw [List.length_append]
     unfold wdV
     rw [List.length_map]
     exact PyProof.Rows.seqIndex?_neg_one (Nat.succ_pos _)
    ·show (wdV p q fs++[V.str (wd p q (rX r))])[fs.length]?=_
     unfold wdV
     rw [List.getElem?_append_right (by rw [List.length_map];exact Nat.le_refl _),List.length_map,Nat.sub_self];rfl
    conv=>whnf
    refine ⟨by rw [yq];lia,?_⟩
    conv=>whnf
    refine ⟨by rw [hrl,sizeLine_eq];lia,?_⟩
    rw [hrl,yq,isub ‹(rX r).length≤r.length›,yWn]
    have e:wdV p q (fs++[rX r])=wdV p q fs++[V.str (wd p q (rX r))]:=by unfold wdV;rw [List.map_append];rfl
    unfold S27 at hfin
    rw [e] at hfin
    exact hfin
 ·refine ⟨0,.un,?_,fun v hv=>?_,rfl⟩
  ·unfold wd;rw [qZ];simp
  ·unfold wd at hv;rw [qZ] at hv
   apply bc;intro hQ;rcases List.mem_map.mp hv with ⟨c,_,rfl⟩;refine hQ ?_;clear hQ
   exact ⟨c,rfl⟩
inductive g27 (l:List V) (K:Kp):Prop where
 | mk (p q:Nat) (wo:List Bool) (h0:p < q) (h1:l=[.str (wd p q wo)]) (h2:wo.length≤60) (h3:∀ l:List (List Bool),l.Perm (facs wo)→l.Pairwise (fun a b=>b.length≤a.length)→K (.lst (wdV p q l)))
theorem f27 (w:World):FnOk w 1 185 g27 :=
 qj (snd (yZ7 w 0)) (yZ8 w 0) (at27 w) (names:=["word"]) (locs:=["factors","rest","turn"]) (by rfl) (yWe _) ["factors"] fun l K ⟨p,q,wo,h,e,h1,k⟩=>by subst e;exact ⟨rfl,40,xs27 p q h wo h1 K k⟩
structure FnIn (w:World) (k:Nat) (f:Str) (g:List V→Kp→Prop):Prop where
 ok:∃ i a fd,FnAt w f i a fd∧FnOk w k a g
theorem FnIn.use {w:World} {k:Nat} {f:Str} {g:List V→Kp→Prop} (h:FnIn w k f g):∃ a o fd,mgv w.params f=some (.ref a)∧(tG w.params).get a=some o∧o.data=.func fd∧FnOk w k a g:=by
 apply bc;intro hQ;rcases h.ok with ⟨i,a,fd,h1,h2⟩;rcases h1.obj with ⟨o,h3,h4⟩;refine hQ ?_;clear hQ
 exact ⟨a,o,fd,h1.name,h3,h4,h2⟩
noncomputable def fnOf:List (Str×(List V→Kp→Prop))→Str→Option (List V→Kp→Prop)
 | [],_=>none
 | (x,g) :: r,y=>match decide (y=x) with | true=>some g | false=>fnOf r y
theorem jX {w:World} {k:Nat}:∀ {l:List (Str×(List V→Kp→Prop))},(∀ p∈l,FnIn w k p.1 p.2)→∀ f g,fnOf l f=some g→FnIn w k f g
 | [],_,f,g,h=>by contradiction
 | (x,g') :: r,hl,f,g,h=>by
  unfold fnOf at h
  split at h
  ·rename_i e
   rw [decide_eq_true_eq] at e
   subst e;(injection h with h;subst h)
   exact hl _ List.mem_cons_self
  ·exact jX (fun p hp=>hl p (List.mem_cons_of_mem _ hp)) f g h
noncomputable def g22:List V→Kp→Prop:=fun l K=>l=[]∧K (.lst fq)
noncomputable def b1N:List Nat:=[173,847,6150,6155,6156,6157,8203,8204,8205,8288,65279]++(List.range 16).map fun (i:Nat)=>65024 + i
theorem nQ:fq=b1N.map fun (n:Nat)=>V.int n:=by rfl
noncomputable def cY:List Nat:=[119808,119860,119912,120016,120172,120224,120276,120328,120380,120432]
noncomputable def jJ (P:Nat):Nat:=[1,5,7,11].getD (P / 12 % 4) 0
noncomputable def rJ (P k:Nat):Nat:=(P + jJ P * k) % 12
noncomputable def wq (c f:Nat):Nat:=if f=0 then c else if f=1 then c - 32 else cY.getD (f - 2) 0 + c - 97
noncomputable def xZ (N k:Nat):List Nat:=if N / 2 ^ k % 2=1 then [b1N.getD ((N / 32 + 5 * k) % 27) 0] else []
noncomputable def yx (cs:List Nat) (P N:Nat):Nat→List Nat
 | 0=>[]
 | k + 1=>yx cs P N k++xZ N k++[wq (cs.getD k 0) (rJ P k)]
theorem jK (cs:List Nat) (P N k:Nat):(yx cs P N k).length≤2 * k:=by
 induction k with
 | zero=>exact Nat.le_refl _
 | succ k ih =>
  unfold yx
  rw [List.length_append,List.length_append]
  have:(xZ N k).length≤1:=by unfold xZ;split <;> simp
  show _ + 1≤_;lia
noncomputable def cx23:Cx:={ cx0 with fn:=fnOf [("_law_unseen",g22)],fg:=fgOf [("k",["k","form","own"])] }
theorem yXa (w:World) (k:Nat):CxOk w (k + 1) cx23:=⟨fun f g h=>(jX (fun p hp=>by
 rcases List.mem_singleton.mp hp with rfl
 exact ⟨22,156,_,at22 w,(f22 w).le (by lia)⟩) f g h).use,(yZ w (k + 1)).gv,(yZ w (k + 1)).ext⟩
noncomputable abbrev S23 (cs:List Nat) (P N:Nat) (nm:Str) (x y z:Slt):SRho:=[("letters",.val (.lst (cs.map fun c=>V.str (tx [c])))),("pick",.val (.int P)),("noise",.val (.int N)),("great",.val (.tup (cY.map fun (n:Nat)=>V.int n))),("name",.val (.str nm)),("k",x),("form",y),("own",z)]
noncomputable def I23 (cs:List Nat) (P N:Nat) (rest:List V) (ρ:SRho):Prop :=
 ∃ k x y z,k + rest.length=5∧rest=(List.range' k rest.length).map (fun (j:Nat)=>V.int j)∧ρ=S23 cs P N (tx (yx cs P N k)) x y z
noncomputable def xZp:List Stmt:=(yZr ((fdB 23).getD 2 default)).drop 1
theorem xs23 (cs:List Nat) (P N:Nat) (hc:cs.length=5) (hcs:∀ c∈cs,97≤c∧c≤122) (K:Kp) (k:K (.str (tx (yx cs P N 5)))) :
  xs cx23 (fdSc 23) [] 60 (fdB 23) (wW ["letters","pick","noise"] [.lst (cs.map fun c=>V.str (tx [c])),.int P,.int N] ["great","name","k","form","own"]) (fun _=>K .none) K (fun _=>False):=by
 conv=>whnf
 refine ⟨Nat.le_of_ble_eq_true rfl,?_⟩
 conv=>whnf
 refine ⟨by decide,?_⟩
 conv=>whnf
 refine ⟨by decide,?_⟩
 refine yk (I23 cs P N) (fun ρ hI=>?_) (fun X Xs ρ hI=>?_) _ _ ?_
 ·apply bc;intro hQ;rcases hI with ⟨m,x,y,z,e1,e2,rfl⟩;refine hQ ?_;clear hQ
  have:m=5:=e1
  subst this
  exact k
 ·apply bc;intro hQ;rcases hI with ⟨m,x,y,z,e1,e2,rfl⟩;refine hQ ?_;clear hQ
  rw [List.length_cons] at e1 e2
  rw [List.range'_succ,List.map_cons,List.cons.injEq] at e2
  apply bc;intro hQ;rcases e2 with ⟨rfl,e2⟩;refine hQ ?_;clear hQ
  have hm:m < 5:=by lia
  refine ⟨S23 cs P N (tx (yx cs P N m)) (.val (.int m)) .un .un,rfl,fun kn hk=>?_⟩
  have hnl:=jK cs P N m
  have hcm:=hcs (cs.getD m 0) (by rw [List.getD_eq_getElem?_getD,List.getElem?_eq_getElem (by lia)];exact List.getElem_mem _)
  have fin:∀ u s x y,u=xZ N m→s=wq (cs.getD m 0) (rJ P m)→kn (S23 cs P N (tx (yx cs P N m++u++[s])) (.val (.int m)) x y):=fun u s x y h1 h2=>by
   refine hk _ ⟨m + 1,.val (.int m),x,y,by lia,e2,?_⟩
   rw [h1,h2];rfl
  conv=>whnf
  refine ⟨Int.natCast_nonneg _,?_⟩
  have hbit:(Builtin.bitAnd (Int.fdiv (N:Int) (2 ^ Int.toNat (m:Int))) 1 != 0)=decide (N / 2 ^ m % 2=1):=by
   rw [Int.toNat_natCast,Int.fdiv_eq_ediv_of_nonneg _ (by exact Int.le_of_lt (Int.pow_pos (by decide))),bitAnd_m1]
   have e:(N:Int) / 2 ^ m % 2=((N / 2 ^ m % 2:Nat):Int):=by norm_cast
   rw [e]
   by_cases h:N / 2 ^ m % 2=1
   ·rw [decide_eq_true h,h];rfl
   ·rw [decide_eq_false h,show N / 2 ^ m % 2=0 by lia];rfl
  conv=>whnf
  rw [hbit]
  have cont:∀ u,u=xZ N m→xs cx23 (fdSc 23) [] 56 xZp (S23 cs P N (tx (yx cs P N m++u)) (.val (.int m)) .un .un) kn K (fun _=>False):=fun u hu=>by
   have hul:u.length≤1:=by rw [hu];unfold xZ;split <;> simp
   conv=>whnf
   refine ⟨Nat.le_of_ble_eq_true rfl,?_⟩
   conv=>whnf
   refine ⟨by decide,?_⟩
   conv=>whnf
   refine ⟨rfl,?_⟩
   conv=>whnf
   refine ⟨by decide,?_⟩
   conv=>whnf
   have hi:Int.fmod (Int.fdiv (P:Int) 12) 4=((P / 12 % 4:Nat):Int):=by
    rw [Int.fdiv_eq_ediv_of_nonneg _ (by decide),Int.fmod_eq_emod_of_nonneg _ (by decide)];norm_cast
   rw [hi]
   have hlt:P / 12 % 4 < 4:=Nat.mod_lt _ (by decide)
   refine ⟨nlo _,nhi (Nat.lt_trans hlt (by decide)),P / 12 % 4,.int (jJ P:Nat),seqIndex_of (Int.natCast_nonneg _) (Int.ofNat_lt.mpr hlt),?_,?_⟩
   ·unfold jJ
    rw [show [V.int 1,V.int 5,V.int 7,V.int 11]=[1,5,7,11].map (fun (n:Nat)=>V.int n) from rfl,List.getElem?_map,List.getElem?_eq_getElem (by show _ < 4;exact hlt),List.getD_eq_getElem?_getD,List.getElem?_eq_getElem (by show _ < 4;exact hlt)];rfl
   conv=>whnf
   have hst:jJ P≤11:=by
    have:∀ i:Fin 4,[1,5,7,11].getD i.val 0≤11:=by decide
    exact this ⟨_,hlt⟩
   refine ⟨IntMulOk.of_left (by
    have:∀ i:Fin 12,Builtin.Int.intBits ((i.val:Nat):Int)≤64:=by decide
    exact this ⟨jJ P,by lia⟩),?_⟩
   conv=>whnf
   refine ⟨by decide,?_⟩
   conv=>whnf
   have hf:Int.fmod ((P:Int) + (jJ P:Int) * (m:Int)) 12=((rJ P m:Nat):Int):=by
    rw [Int.fmod_eq_emod_of_nonneg _ (by decide)];norm_cast
   have hgm:cs[m]?=some (cs.getD m 0):=by rw [List.getD_eq_getElem?_getD,List.getElem?_eq_getElem (by lia)];rfl
   refine ⟨nlo _,nhi (Nat.lt_trans hm (by decide)),m,.str (tx [cs.getD m 0]),?_,?_,?_⟩
   ·rw [List.length_map,hc];exact seqIndex_of (Int.natCast_nonneg _) (by lia)
   ·rw [List.getElem?_map,hgm];rfl
   conv=>whnf
   refine ⟨rfl,?_⟩
   conv=>whnf
   rw [hf]
   have hfl:rJ P m < 12:=Nat.mod_lt _ (by decide)
   generalize rJ P m=f at fin hfl ⊢
   generalize cs.getD m 0=c at fin hcm ⊢
   have e0:(false != ((f:Int) == 0))=decide (f=0):=by
    rw [Bool.false_bne]
    by_cases h:f=0
    ·subst h;rfl
    ·rw [decide_eq_false h,beq_eq_false_iff_ne];lia
   have e1:(false != ((f:Int) == 1))=decide (f=1):=by
    rw [Bool.false_bne]
    by_cases h:f=1
    ·subst h;rfl
    ·rw [decide_eq_false h,beq_eq_false_iff_ne];lia
   rw [e0]
   have lst:∀ s:Nat,s=wq c f→(tx (yx cs P N m++u)).length + 1≤sizeLine∧kn (S23 cs P N (tx (yx cs P N m++u)++⟨#[s]⟩) (.val (.int m)) (.val (.int f)) (.val (.int ((tx [c]).cps.getD 0 0:Nat)))):=fun s hs=>by
    refine ⟨by rw [zJ,List.length_append,sizeLine_eq];lia,?_⟩
    have:=fin u s (.val (.int f)) (.val (.int ((tx [c]).cps.getD 0 0:Nat))) hu hs
    rw [← hJ] at this
    exact this
   have hown:(tx [c]).cps.getD 0 0=c:=rfl
   by_cases f0:f=0
   ·rw [decide_eq_true f0]
    conv=>whnf
    refine ⟨Int.natCast_nonneg _,by rw [hown];lia,?_⟩
    conv=>whnf
    exact lst _ (by rw [hown];unfold wq;rw [if_pos f0];rfl)
   ·rw [decide_eq_false f0]
    conv=>whnf
    rw [e1]
    by_cases f1:f=1
    ·rw [decide_eq_true f1]
     conv=>whnf
     refine ⟨by rw [hown];lia,by rw [hown];lia,?_⟩
     conv=>whnf
     exact lst _ (by rw [hown];unfold wq;rw [if_neg f0,if_pos f1];exact Int.toNat_sub _ 32)
    ·rw [decide_eq_false f1]
     conv=>whnf
     have hg:∀ i:Fin 10,cY.getD i.val 0≤200000:=by decide
     have hg2:=hg ⟨f - 2,by lia⟩
     dsimp only at hg2
     refine ⟨by lia,by lia,f - 2,.int ((cY.getD (f - 2) 0:Nat):Int),?_,?_,?_⟩
     ·rw [show ((f:Int) - 2)=((f - 2:Nat):Int) from isub (b:=2) (Nat.lt_of_le_of_ne (Nat.pos_of_ne_zero f0) (Ne.symm f1))]
      exact seqIndex_of (Int.natCast_nonneg _) (Int.ofNat_lt.mpr (by show _ < 10;lia))
     ·show (cY.map fun (n:Nat)=>V.int n)[f - 2]?=_
      rw [List.getElem?_map,List.getElem?_eq_getElem (by show _ < 10;lia),List.getD_eq_getElem?_getD,List.getElem?_eq_getElem (by show _ < 10;lia)];rfl
     conv=>whnf
     refine ⟨by rw [hown];lia,by rw [hown];lia,?_⟩
     conv=>whnf
     exact lst _ (by rw [hown];unfold wq;rw [if_neg f0,if_neg f1];exact Int.toNat_sub (_ + _) 97)
  by_cases hb:N / 2 ^ m % 2=1
  ·rw [decide_eq_true hb]
   conv=>whnf
   refine ⟨rfl,?_⟩
   conv=>whnf
   refine ⟨by decide,?_⟩
   conv=>whnf
   refine ⟨rfl,?_⟩
   conv=>whnf
   refine ⟨IntMulOk.of_left (Nat.le_of_ble_eq_true rfl),?_⟩
   conv=>whnf
   refine ⟨by decide,?_⟩
   conv=>whnf
   have hi:Int.fmod (Int.fdiv (N:Int) 32 + 5 * (m:Int)) 27=(((N / 32 + 5 * m) % 27:Nat):Int):=by
    rw [Int.fdiv_eq_ediv_of_nonneg _ (by decide),Int.fmod_eq_emod_of_nonneg _ (by decide)];norm_cast
   rw [hi]
   have hlt:(N / 32 + 5 * m) % 27 < 27:=Nat.mod_lt _ (by decide)
   refine ⟨nlo _,nhi (Nat.lt_trans hlt (by decide)),(N / 32 + 5 * m) % 27,.int ((b1N.getD ((N / 32 + 5 * m) % 27) 0:Nat):Int),seqIndex_of (Int.natCast_nonneg _) (Int.ofNat_lt.mpr (Nat.mod_lt _ (by decide))),?_,?_⟩
   ·rw [nQ,List.getElem?_map,List.getElem?_eq_getElem (by show _ < 27;exact hlt),List.getD_eq_getElem?_getD,List.getElem?_eq_getElem (by show _ < 27;exact hlt)];rfl
   have hall:∀ i:Fin 27,b1N.getD i.val 0≤1114111:=by decide
   have hi2:=hall ⟨_,hlt⟩
   conv=>whnf
   refine ⟨Int.natCast_nonneg _,by dsimp only at hi2;lia,?_⟩
   conv=>whnf
   refine ⟨by rw [zJ,sizeLine_eq];show _ + 1≤_;lia,?_⟩
   have:=cont [b1N.getD ((N / 32 + 5 * m) % 27) 0] (by unfold xZ;rw [if_pos hb])
   rw [← hJ] at this
   rw [Int.toNat_natCast]
   exact this
  ·rw [decide_eq_false hb]
   conv=>whnf
   refine ⟨by rw [zJ,sizeLine_eq];show _ + 0≤_;lia,?_⟩
   have:=cont [] (by unfold xZ;rw [if_neg hb])
   rw [← hJ] at this
   exact this
 ·exact ⟨0,.un,.un,.un,rfl,rfl,rfl⟩
inductive g23 (l:List V) (K:Kp):Prop where
 | mk (cs:List Nat) (P N:Nat) (h0:l=[.lst (cs.map fun c=>V.str (tx [c])),.int (P:Nat),.int (N:Nat)]) (h1:cs.length=5) (h2:(∀ c∈cs,97≤c∧c≤122)) (h3:K (.str (tx (yx cs P N 5))))
theorem f23 (w:World):FnOk w 2 163 g23 :=
 qj (snd (yXa w 0)) (SxOk.none rfl) (at23 w) (names:=["letters","pick","noise"]) (locs:=["great","name","k","form","own"]) (by rfl) (yWa _) [] fun l K ⟨cs,P,N,e,h,h1,k⟩=>by subst e;exact ⟨rfl,60,xs23 cs P N h h1 K k⟩
noncomputable def seek (got:Str) (ep:Int):Int→List Str→Bool
 | _,[]=>true
 | sp,w :: r=>if vV got w sp ep < 0 then false else seek got ep (vV got w sp ep + w.length) r
noncomputable def ellR (got ahead:Str) (mid:List Str) (after:Str):Bool :=
 if (got.length:Int) - after.length < ahead.length then false
 else seek got ((got.length:Int) - after.length) ahead.length ((if ahead.length=0 then [ahead] else [])++mid++(if after.length=0 then [after] else []))
noncomputable def cx14:Cx:={ cxG gv14 with fg:=fgOf [("w",["w"])] }
theorem zYf (w:World) (k:Nat):CxOk w k cx14:=⟨(zQg w k).fn,(zQg w k).gv,(zQg w k).ext⟩
noncomputable abbrev S14 (want got:Str) (ws:Slt) (sp ep:Int) (x:Slt):SRho:=[("want",.val (.str want)),("got",.val (.str got)),("ws",ws),("startpos",.val (.int sp)),("endpos",.val (.int ep)),("w",x)]
theorem zYg (l:List Str):(l.map V.str).all vq=true:=by induction l with | nil=>rfl | cons x r ih=>rw [List.map_cons,List.all_cons,ih];rfl
theorem yQy (want got:Str) (r:List Str) (sp ep:Int) (x:V) (hr:r.length≤200) (hfl:∀ w∈r,fits w) (K:Kp) (k:K (.bool (if ep < sp then false else seek got ep sp r))) :
  xs cx14 (fdSc 14) ["ws"] 52 ((fdB 14).drop 8) (S14 want got (.own (r.map V.str)) sp ep (.val x)) (fun _=>K .none) K (fun _=>False):=by
 conv=>whnf
 by_cases h:ep < sp
 ·rw [if_pos h] at k
  rw [decide_eq_true h]
  exact k
 ·rw [if_neg h] at k
  rw [decide_eq_false h]
  conv=>whnf
  refine no_implicit_lambda% (yk (fun rest ρ=>∃ r' sp' x',rest=r'.map V.str∧(∀ w∈r',fits w)∧seek got ep sp' r'=seek got ep sp r∧ρ=S14 want got (.val (.lst (r.map V.str))) sp' ep x') (fun ρ hI=>?_) (fun X Xs ρ hI=>?_) _ _ ?_)
  ·apply bc;intro hQ;rcases hI with ⟨r',sp',x',e1,e2,e3,rfl⟩;refine hQ ?_;clear hQ
   have:r'=[]:=List.map_eq_nil_iff.mp e1.symm
   subst this
   have e3:true=seek got ep sp r:=e3
   rw [← e3] at k
   exact k
  ·apply bc;intro hQ;rcases hI with ⟨r',sp',x',e1,e2,e3,rfl⟩;refine hQ ?_;clear hQ
   cases r' with
   | nil=>contradiction
   | cons y r' =>
    rw [List.map_cons,List.cons.injEq] at e1
    apply bc;intro hQ;rcases e1 with ⟨rfl,rfl⟩;refine hQ ?_;clear hQ
    refine ⟨S14 want got (.val (.lst (r.map V.str))) sp' ep (.val (.str y)),rfl,fun kn hk=>?_⟩
    rw [show seek got ep sp' (y :: r')=(if vV got y sp' ep < 0 then false else seek got ep (vV got y sp' ep + y.length) r') from rfl] at e3
    conv=>whnf
    by_cases hn:vV got y sp' ep < 0
    ·rw [decide_eq_true hn]
     rw [if_pos hn] at e3
     rw [← e3] at k
     exact k
    ·rw [decide_eq_false hn]
     rw [if_neg hn] at e3
     conv=>whnf
     refine ⟨(e2 y List.mem_cons_self).long,?_⟩
     exact hk _ ⟨r',vV got y sp' ep + y.length,.val (.str y),rfl,fun w hw=>e2 w (List.mem_cons_of_mem _ hw),e3,rfl⟩
  ·exact ⟨r,sp,.val x,rfl,hfl,rfl,rfl⟩
theorem yWo (want got ahead' after:Str) (pre:List Str) (sp:Int) (x:V) (hf:fits got) (hfb:fits after) (hpre:pre.length≤150) (hfl:∀ w∈pre,fits w) (hen:after.length≠0→Txt.endswith got after=true) (K:Kp)
  (k:K (.bool (if (got.length:Int) - after.length < sp then false else seek got ((got.length:Int) - after.length) sp (pre++if after.length=0 then [after] else [])))) :
  xs cx14 (fdSc 14) ["ws"] 54 ((fdB 14).drop 6) (S14 want got (.own ((pre++[after]).map V.str)) sp got.length (.val x)) (fun _=>K .none) K (fun _=>False):=by
 have hn:seqIndex? (-1) ((pre++[after]).map V.str).length=some pre.length:=by
  rw [List.length_map,List.length_append]
  exact PyProof.Rows.seqIndex?_neg_one (Nat.succ_pos _)
 conv=>whnf
 refine ⟨by decide,by decide,pre.length,.str after,hn,by rw [List.getElem?_map,List.getElem?_append_right (Nat.le_refl _),Nat.sub_self];rfl,?_⟩
 conv=>whnf
 refine ⟨hfb.long,?_⟩
 by_cases ha:after.length=0
 ·rw [if_pos ha,ha] at k
  rw [show ((after.length:Int) != 0)=false by rw [ha];rfl]
  refine yQy want got (pre++[after]) sp got.length (.str after) (by rw [List.length_append];show _ + 1≤_;lia) (fun w hw=>?_) K ?_
  ·rcases List.mem_append.mp hw with h | h
   ·exact hfl w h
   ·rw [List.mem_singleton.mp h];exact hfb
  ·simpa using k
 ·rw [if_neg ha] at k
  rw [show ((after.length:Int) != 0)=true by rw [bne_iff_ne];lia]
  conv=>whnf
  rw [hen ha]
  conv=>whnf
  refine ⟨hfb.long,?_⟩
  conv=>whnf
  rw [hn]
  refine ⟨rfl,by rw [List.length_map,List.length_append,sizeLine_eq];show _ + 1≤_;lia,?_⟩
  have he:((pre++[after]).map V.str).eraseIdx pre.length=(pre.map V.str):=by
   rw [List.map_append,List.eraseIdx_append_of_length_le (by rw [List.length_map];exact Nat.le_refl _),List.length_map,Nat.sub_self]
   simp
  rw [he]
  refine yQy want got pre sp ((got.length:Int) - after.length) (.str after) (by lia) hfl K ?_
  simpa using k
theorem xs14 (want got ahead after:Str) (mid:List Str) (hf:fits got) (hfw:fits want) (hfa:fits ahead) (hfb:fits after) (hm:mid.length≤100) (hfm:∀ w∈mid,fits w) (hc:Txt.contains want "..."=true) (hs:Txt.split want "..."=ahead :: (mid++[after])) (hst:ahead.length≠0→Txt.startswith got ahead=true) (hen:after.length≠0→Txt.endswith got after=true)
  (K:Kp) (k:K (.bool (ellR got ahead mid after))) :
  xs cx14 (fdSc 14) ["ws"] 60 (fdB 14) (wW ["want","got"] [.str want,.str got] ["ws","startpos","endpos","w"]) (fun _=>K .none) K (fun _=>False):=by
 unfold ellR at k
 conv=>whnf
 rw [show Txt.contains want (Str.ofString "...")=true from hc]
 conv=>whnf
 refine ⟨rfl,hfw.line,by rw [show Txt.split want (Str.ofString "...")=_ from hs,List.length_cons,List.length_append,sizeLine_eq];show _ + 1 + 1≤_;lia,?_⟩
 rw [show Txt.split want (Str.ofString "...")=_ from hs]
 show onT ((List.map V.str (ahead :: (mid++[after]))).all vq) _
 rw [zYg]
 have hl:(List.map V.str (ahead :: (mid++[after]))).length=mid.length + 2:=by simp
 conv=>whnf
 refine ⟨by rw [hl];lia,?_⟩
 conv=>whnf
 refine ⟨by rw [hl];exact decide_eq_true (by lia),?_⟩
 conv=>whnf
 refine ⟨hf.long,?_⟩
 conv=>whnf
 refine ⟨Nat.le_of_ble_eq_true rfl,?_⟩
 conv=>whnf
 refine ⟨by decide,by decide,0,.str ahead,by rw [hl];exact PyProof.Rows.seqIndex?_zero (Nat.succ_pos _),rfl,?_⟩
 conv=>whnf
 refine ⟨hfa.long,?_⟩
 by_cases ha:ahead.length=0
 ·rw [show ((ahead.length:Int) != 0)=false by rw [ha];rfl]
  rw [if_pos ha,ha] at k
  refine no_implicit_lambda% (yWo want got ahead after (ahead :: mid) 0 (.str ahead) hf hfb (by rw [List.length_cons];lia) (fun w hw=>?_) hen K (by simpa using k))
  rcases List.mem_cons.mp hw with rfl | h
  ·exact hfa
  ·exact hfm w h
 ·rw [show ((ahead.length:Int) != 0)=true by rw [bne_iff_ne];lia]
  rw [if_neg ha] at k
  conv=>whnf
  rw [hst ha]
  conv=>whnf
  refine ⟨hfa.long,?_⟩
  conv=>whnf
  rw [hl,show seqIndex? 0 (mid.length + 2)=some 0 from PyProof.Rows.seqIndex?_zero (Nat.succ_pos _)]
  refine ⟨rfl,by rw [sizeLine_eq];lia,?_⟩
  exact no_implicit_lambda% (yWo want got ahead after mid ahead.length (.str ahead) hf hfb (by lia) hfm hen K (by simpa using k))
inductive g14 (l:List V) (K:Kp):Prop where
 | mk (want got ahead after:Str) (mid:List Str) (e:l=[.str want,.str got]) (h1:fits got) (h2:fits want) (h3:fits ahead) (h4:fits after) (h5:mid.length≤100) (h6:∀ w∈mid,fits w) (h7:Txt.contains want "..."=true)
  (h8:Txt.split want "..."=ahead :: (mid++[after])) (h9:ahead.length≠0→Txt.startswith got ahead=true) (h10:after.length≠0→Txt.endswith got after=true) (k:K (.bool (ellR got ahead mid after)))
theorem f14 (w:World):FnOk w 1 78 g14 :=
 qj (snd (zYf w 0)) (SxOk.none rfl) (at14 w) (names:=["want","got"]) (locs:=["ws","startpos","endpos","w"]) (by rfl) (yV5 _) ["ws"] fun l K h=>by
  cases h with
  | mk want got ahead after mid e h1 h2 h3 h4 h5 h6 h7 h8 h9 h10 k=>subst e;exact ⟨rfl,60,xs14 want got ahead after mid h1 h2 h3 h4 h5 h6 h7 h8 h9 h10 K k⟩
noncomputable def inSt (i:Nat):Stmt:=match fdB i with
 | .FunctionDef a b c d e f g h j k :: _=>.FunctionDef a b c d e f g h j k
 | _ :: s :: _=>s
 | _=>default
noncomputable def inP (i:Nat):Arguments:=match inSt i with | .FunctionDef _ a _ _ _ _ _ _ _ _=>a | _=>default
noncomputable def inB (i:Nat):List Stmt:=match inSt i with | .FunctionDef _ _ b _ _ _ _ _ _ _=>b | _=>[]
noncomputable def inSc (i:Nat):Scope:=match inSt i with | .FunctionDef _ _ _ _ _ _ s _ _ _=>s | _=>default
noncomputable def zYh (i:Nat):Pos:=(inSt i).pos
noncomputable def Clo (h:Heap) (f:Addr) (i:Nat) (qual:Str) (clos:List (Str×Addr)):Prop :=
 ∃ doc pm c ct,h.get? f=some { cls:=.type "function",data:=.func (fnX "inner" qual (inP i) (inB i) (inSc i) clos .none .none doc pm none (.ref c) ct) }∧Hid c=false∧h.CodeRec (.ref c) qual
theorem Clo.keep {h h':Heap} {f:Addr} {i:Nat} {qual:Str} {clos:List (Str×Addr)} (x:Clo h f i qual clos) (k:Keep h h'):Clo h' f i qual clos:=by
 apply bc;intro hQ;rcases x with ⟨doc,pm,c,ct,h1,h2,c',o,vs,t,e,h3,h4,h5⟩;refine hQ ?_;clear hQ
 (injection e with e;subst e)
 exact ⟨doc,pm,c,ct,k.obj _ _ h1 (.ty rfl),h2,c,o,vs,t,rfl,k.obj _ _ h3 (.inl h2),h4,h5⟩
section
variable {w:World} {k:Nat}
theorem zJ9 {A:Around} {E:Value→Shared→Prop} {s:Shared} {env:Env} {i:Nat} {c P:Addr} {ln:Nat} {qual:Str} {clos:List (Str×Addr)} {Q:Flow→Shared→Prop}
  (G:Glb w s.heap) (hst:inSt i=.FunctionDef "inner" (inP i) (inB i) [] none [] (inSc i) none "inner" (zYh i)) (hd0:(inP i).defaults=[]) (hk0:(inP i).kw_defaults=[]) (ha:annTrees (inP i) none env=[])
  (hq:qualnameIn env "inner" "inner"=qual) (hg:env.globals=mainGlobals) (hcode:env.code=.ref c) (C:CodeHd s.heap c P) (hP:P≠mainGlobals∧P≠4) (hhid:Hid P=true) (hln:(zYh i).line=ln∧(zYh i).col=4)
  (I1:Inv1 P ln 4 qual s.heap) (hinv:∀ h',Keep s.heap h'∨((∀ b o,b≠P→s.heap.get? b=some o→h'.get? b=some o)∧Inv1 P ln 4 qual h')→zW h') (hcl:closureFor (inSc i) env=pure clos)
  (q:∀ f h' tk,Keep s.heap h'→Clo h' f i qual clos→wpAny (model pw w) A (storeName env "inner" (.ref f)) (fun _ s''=>Q .next s'') E { s with heap:=h',toks:=tk }) :
  wpAny (model pw w) A (exec (inSt i) env) Q E s:=by
 rw [hst]
 refine nestDef_K hd0 hk0 ha ?_
 rw [hq]
 apply bc;intro hQ;rcases I1 with ⟨ps,h1,h2⟩;refine hQ ?_;clear hQ
 have hB:s.heap.BuiltinsAt (mgv w.params) P:=⟨4,PySem.W.boot_o_4 w.params,by rfl,by decide,by decide,hP.2.symm,G.at_ 4 _ (by rfl) (.inl rfl),by rfl,by rfl,by rfl⟩
 rcases h2 with h2 | ⟨c0,e1,e2,e3⟩
 ·subst h2
  refine makeFunction_K (mg:=mgv w.params) hcl hg G.g hcode C h1 trivial rfl hP.1.symm hB fun c' ctv doc h' tk hx hge hlt hrec htb=>?_
  have hPs:37 < s.heap.objs.size:=by apply bc;intro hQ;rcases G.tab.2 with ⟨_,e,_⟩;refine hQ ?_;clear hQ;exact Heap.lt_size e
  have hc':Hid c'=false:=by
   unfold Hid
   rw [Bool.or_eq_false_iff]
   have h37:37 < c':=Nat.lt_of_lt_of_le hPs hge
   exact ⟨beq_eq_false_iff_ne.mpr fun e=>by rw [e] at h37;exact absurd h37 (by decide),beq_eq_false_iff_ne.mpr fun e=>by rw [e] at h37;exact absurd h37 (by decide)⟩
  have kb:∀ b o,b≠P→s.heap.get? b=some o→(h'.push (fnMade "inner" qual (inP i) (inB i) (inSc i) clos doc ((mgv w.params "__name__").getD .none) c' ctv)).get? b=some o:=fun b o hb e=>Heap.get?_push_of_some _ (hx b o hb e)
  have inv':Inv1 P ln 4 qual (h'.push (fnMade "inner" qual (inP i) (inB i) (inSc i) clos doc ((mgv w.params "__name__").getD .none) c' ctv)):=by
   refine ⟨_,Heap.get?_push_of_some _ htb,.inr ⟨c',?_,hc',hrec.push _⟩⟩
   rw [hln.1,hln.2];rfl
  refine q _ _ tk ⟨fun b o e f=>kb b o ?_ e,fun b o e=>?_,fun _=>hinv _ (.inr ⟨kb,inv'⟩)⟩ ⟨doc,_,c',ctv,Heap.get?_push_size _ rfl,hc',hrec.push _⟩
  ·rintro rfl
   rw [h1] at e;(injection e with e;subst e)
   rcases f with f | f
   ·rw [hhid] at f;contradiction
   ·contradiction
  ·by_cases hb:b=P
   ·subst hb;exact ⟨_,Heap.get?_push_of_some _ htb⟩
   ·exact ⟨o,kb b o hb e⟩
 ·subst e1
  refine makeFunction_hit (mg:=mgv w.params) (cv:=.ref c0) hcl hg G.g hcode C h1 trivial ?_ hB fun ctv doc h' tk hk hsz=>?_
  ·show codeAmong (zYh i) [rawInt ln,rawInt 4,.ref c0]=some (.ref c0)
   unfold codeAmong rawInt
   rw [hln.1,hln.2]
   simp
  ·have kp:Keep s.heap (h'.push { cls:=.type "function",data:=.func (fnX "inner" qual (inP i) (inB i) (inSc i) clos .none .none doc ((mgv w.params "__name__").getD .none) none (.ref c0) ctv) }):=.of fun b o e=>Heap.get?_push_of_some _ (hk b o e)
   exact q _ _ tk kp ⟨doc,_,c0,ctv,Heap.get?_push_size _ rfl,e2,(e3.keeps hk).push _⟩
end
noncomputable def valD (n:Nat):List Nat→Nat
 | []=>0
 | d :: r=>d + 2 ^ n * valD n r
theorem tV (n:Nat):∀ a b:List Nat,valD n (a++b)=valD n a + 2 ^ (n * a.length) * valD n b
 | [],b=>by simp [valD]
 | d :: a,b=>by
  show d + 2 ^ n * valD n (a++b)=d + 2 ^ n * valD n a + _
  rw [tV n a b,Nat.mul_add,← Nat.mul_assoc,← Nat.pow_add,List.length_cons,Nat.mul_succ,Nat.add_comm n,Nat.add_assoc]
theorem zKa (n:Nat):∀ a:List Nat,(∀ d∈a,d < 2 ^ 64)→valD n a < 2 ^ (n * a.length + 64 + a.length)
 | [],_=>Nat.two_pow_pos _
 | d :: a,h=>by
  have h1:=zKa n a fun x hx=>h x (List.mem_cons_of_mem _ hx)
  have h2:=h d List.mem_cons_self
  show d + 2 ^ n * valD n a < _
  have e1:2 ^ n * valD n a < 2 ^ (n * (a.length + 1) + 64 + a.length):=by
   have:2 ^ (n * (a.length + 1) + 64 + a.length)=2 ^ n * 2 ^ (n * a.length + 64 + a.length):=by
    rw [← Nat.pow_add];congr 1;rw [Nat.mul_succ];lia
   rw [this]
   exact Nat.mul_lt_mul_of_pos_left h1 (Nat.two_pow_pos n)
  have e2:2 ^ 64≤2 ^ (n * (a.length + 1) + 64 + a.length):=Nat.pow_le_pow_right (by decide) (by lia)
  have e3:2 ^ (n * (d :: a).length + 64 + (d :: a).length)=2 ^ (n * (a.length + 1) + 64 + a.length) + 2 ^ (n * (a.length + 1) + 64 + a.length):=by
   rw [List.length_cons,← Nat.add_assoc,Nat.pow_succ];lia
  rw [e3];exact Nat.add_lt_add (Nat.lt_of_lt_of_le h2 e2) e1
theorem tW {a m:Nat} (h:a < 2 ^ m):Builtin.Int.intBits (a:Int)≤m:=by
 unfold Builtin.Int.intBits
 by_cases h0:a=0
 ·subst h0;exact Nat.zero_le _
 ·have:((a:Int) == 0)=false:=by rw [beq_eq_false_iff_ne];lia
  rw [this]
  show (a:Int).natAbs.log2 + 1≤m
  rw [Int.natAbs_natCast]
  have:=(Nat.log2_lt h0).mpr h
  lia
section
variable {w:World} {k n:Nat} {A:Around} {E:Value→Shared→Prop} {off:Addr→Prop} {s:Shared} {sc:Scope} {env:Env} {ρ:Rho}
theorem At.free {x:Str} {X:V} {v:Value} {c:Addr} (a:At w k A sc env s off ρ) (hx:xw sc x=true) (hc:env.cells.lookup x=some c) (hv:s.heap.IsCell c (some v)) (r:Rd s.heap off X v):At w k A sc env s off ((x,X) :: ρ):=by
 apply bc;intro hQ;rcases a.sees with ⟨m,h1,h2⟩;refine hQ ?_;clear hQ
 refine ⟨a.room,a.en,a.glb,a.old,⟨m,h1,fun y Y e=>?_⟩,a.apart⟩
 by_cases hy:y=x
 ·subst hy
  rw [List.lookup_cons,beq_self_eq_true] at e
  (injection e with e;subst e)
  exact ⟨v,r,.inr ⟨hx,c,hc,hv⟩⟩
 ·rw [List.lookup_cons,beq_eq_false_iff_ne.mpr hy] at e
  exact h2 y Y e
noncomputable def inOk (sc:Scope) (names:List Str) (clos:List (Str×Addr)):Bool :=
 sc.kind == .function && sc.isCoroutine == false && sc.isGenerator == false && sW sc && sc.names.all (fun p=>p.2 != .cell && (p.2 != .free || (clos.lookup p.1).isSome)) && names.all (fun x=>sc.names.lookup x == some .local) && decide names.Nodup
theorem zZi {f:Addr} {i:Nat} {qual:Str} {clos:List (Str×Addr)} {names:List Str} {l:List V} {vs:List Value} {Q:Value→Shared→Prop} (x:Clo s.heap f i qual clos) (hsc:inOk (inSc i) names clos=true)
  (hb:∀ doc pm c ct (vs:List Value),vs.length=names.length→bindArgs (fnX "inner" qual (inP i) (inB i) (inSc i) clos .none .none doc pm none (.ref c) ct) ⟨vs,[]⟩=pure (names.zip vs))
  (room:Room (k + 1) A) (G:Glb w s.heap) (ol:Old off s.heap) (r:RdL s.heap off l vs) (hl:l.length=names.length)
  (h:∀ env h₁ tk,env.cells=clos→env.locals=s.heap.objs.size→(∀ b o,s.heap.get? b=some o→h₁.get? b=some o)→At w k (A.deeper env) (inSc i) env { s with heap:=h₁,toks:=tk } off (names.zip l) →
   wpAny (model pw w) (A.deeper env) (execs (inB i) env) (fun f s'=>Q (match f with | .ret v=>v | _=>.none) s') (fun e s'=>wpAny (model pw w) (A.deeper env) (leaving env e) (fun _ s''=>E e s'') (fun e' s''=>E e' s'') s') { s with heap:=h₁,toks:=tk }) :
  wpAny (model pw w) A (call (.ref f) vs) Q E s:=by
 apply bc;intro hQ;rcases x with ⟨doc,pm,c,ct,h1,h2,h3⟩;refine hQ ?_;clear hQ
 unfold inOk at hsc
 simp only [Bool.and_eq_true] at hsc
 apply bc;intro hQ;rcases hsc with ⟨⟨⟨⟨⟨⟨s1,s2⟩,s3⟩,s4⟩,s5⟩,s6⟩,s7⟩;refine hQ ?_;clear hQ
 have hlv:=r.length
 have nd:names.Nodup:=by simpa using s7
 have keys:(names.zip vs).map (·.1)=names:=by rw [List.map_fst_zip];lia
 have loc:∀ y∈names,(inSc i).names.lookup y=some .local:=fun y hy=>by simpa using List.all_eq_true.mp s6 y hy
 refine wpAny_call (codeAny_call_def (by have:=room.dp;lia) h1 rfl G.nolimit h3 rfl (BindsTo.of_eq (hb _ _ _ _ vs (by lia))) (fun y hy=>?_) (fun y hy=>?_) (fun h₁ hns hk=>?_) (by simpa using s2) (by simpa using s3) (by simpa using s1))
 ·have:=List.all_eq_true.mp s5 y hy
  rw [Bool.and_eq_true] at this
  simpa using this.1
 ·obtain ⟨a,b⟩:=y
  exact loc _ (List.of_mem_zip hy).1
 ·refine h _ h₁ _ rfl rfl hk ⟨room.deeper,⟨rfl,by simpa using s1,rfl,rfl,s4,fun y hy=>?_⟩,G.keep (.of hk),ol.keep (.of hk),⟨_,hns,fun y Y e=>?_⟩,?_⟩
  ·rcases vk hy with hy | hy
   ·have:=List.all_eq_true.mp s5 _ (zw hy)
    simp at this
   ·have:=List.all_eq_true.mp s5 _ (zw hy)
    rw [Bool.and_eq_true,Bool.or_eq_true] at this
    rcases this.2 with h5 | h5
    ·exact absurd (show (NameKind.free != NameKind.free)=true from h5) (by decide)
    ·exact Option.isSome_iff_exists.mp h5
  ·have hm:=yJ e
   have hn:y∈names:=(List.of_mem_zip hm).1
   have zr:∀ {names:List Str} {l:List V} {vs:List Value},RdL s.heap off l vs→(y,Y)∈names.zip l→∃ v,(y,v)∈names.zip vs∧Rd s.heap off Y v:=by
    intro names
    induction names with
    | nil=>intro l vs _ h;simp at h
    | cons n ns ih =>
     intro l vs r h
     cases l with
     | nil=>simp at h
     | cons X l =>
      apply bc;intro hQ;rcases r with ⟨v,r',rfl,e1,e2⟩;refine hQ ?_;clear hQ
      rw [List.zip_cons_cons] at h
      rcases List.mem_cons.mp h with h | h
      ·cases h;exact ⟨v,List.mem_cons_self,e1⟩
      ·apply bc;intro hQ;rcases ih e2 h with ⟨u,h3,h4⟩;refine hQ ?_;clear hQ
       exact ⟨u,List.mem_cons_of_mem _ h3,h4⟩
   apply bc;intro hQ;rcases zr r hm with ⟨v,hv,rv⟩;refine hQ ?_;clear hQ
   refine ⟨v,rv.keep (.of hk),.inl ⟨loc y hn,?_⟩⟩
   have nd':((names.zip vs).map (·.1)).Nodup:=by rw [keys];exact nd
   rw [hZ nd']
   exact wJ nd' hv
  ·exact G.new (xj _)
theorem zKb {x:Str} {p pos:Pos} {f c:Addr} {i:Nat} {qual:Str} {clos:List (Str×Addr)} {e:Expr} {es:List Expr} {K:List V→Prop} {Q:Value→Shared→Prop} (S:∀ n,Snd w k cx0 n) (a:At w k A sc env s off ρ) (hx:xw sc x=true) (hc:env.cells.lookup x=some c) (hv:s.heap.IsCell c (some (.ref f))) (cl:Clo s.heap f i qual clos)
  (hst:(e :: es).any yY=false) (kk:ews cx0 sc n (e :: es) ρ K)
  (q:∀ l vs h' tk,K l→Keep s.heap h'→RdL h' off l vs→wpAny (model pw w) A (call (.ref f) vs) Q E { s with heap:=h',toks:=tk }) :
  wpAny (model pw w) A (eval (.Call (.Name x p) (e :: es) [] pos) env) Q E s:=by
 have a1:=a.free (X:=.ref f) hx hc hv (Rd.ref f)
 refine Call_ (a1.sees.name a.en (by rw [List.lookup_cons,beq_self_eq_true]) fun v r=>?_)
 obtain rfl:=r
 apply bc;intro hQ;rcases cl with ⟨doc,pm,cc,ct,h1,h2,h3⟩;refine hQ ?_;clear hQ
 refine callWith_def (o:={ cls:=.type "function",data:=.func (fnX "inner" qual (inP i) (inB i) (inSc i) clos .none .none doc pm none (.ref cc) ct) }) rfl ((S n).es pos a kk fun l vs h' tk k1 e1 r1=>⟨e1.obj _ _ h1 (.ty rfl),q l vs h' tk k1 e1 r1⟩) (zX (ay hst).1 es env)
end
theorem Keep.but {a b c:Heap} {L:Addr} (x:Keep a b) (y:KX (fun z=>z=L) b c) (h:a.get? L=Option.none):Keep a c :=
 have ne:∀ z o,a.get? z=some o→z≠L:=by rintro z o e rfl;rw [h] at e;contradiction
 ⟨fun z o e f=>y.obj z o (ne z o e) (x.obj z o e f) f,fun z o e=>let ⟨o',e'⟩:=x.live z o e;y.live z o' (ne z o e) e',fun t=>y.inv (x.inv t)⟩
theorem vy {w:World} {k:Nat} {A:Around} {E:Value→Shared→Prop} {off:Addr→Prop} {s:Shared} {sc:Scope} {env:Env} {ρ:Rho} {h₀:Heap} {x:Str} {X:V} {v:Value} {Q:Unit→Shared→Prop} (a:At w k A sc env s off ρ) (ks:Keep h₀ s.heap) (hL:h₀.get? env.locals=none) (hx:sc.names.lookup x=some .local) (hn:ρ.lookup x=none) (r:Rd s.heap off X v)
  (q:∀ h' tk,At w k A sc env { s with heap:=h',toks:=tk } off ((x,X) :: ρ)→Keep h₀ h'→Q () { s with heap:=h',toks:=tk }):wpAny (model pw w) A (storeName env x v) Q E s:=by
 apply bc;intro hQ;rcases a.sees with ⟨m,hns,_⟩;refine hQ ?_;clear hQ
 exact a.store hx hn r fun h' tk a' k'=>q h' tk a' (ks.but (KX.but rfl (Soft.ns hns) k') hL)
theorem Snd.val {w:World} {k n:Nat} {c:Cx} (S:Snd w k c n) {A:Around} {E:Value→Shared→Prop} {off:Addr→Prop} {s:Shared} {sc:Scope} {env:Env} {ρ:Rho} {ex:Expr} {V0:V} {Q:Value→Shared→Prop} (a:At w k A sc env s off ρ) (kk:ew c sc n ex ρ fun X=>X=V0)
  (q:∀ v h' tk,Keep s.heap h'→Rd h' off V0 v→Q v { s with heap:=h',toks:=tk }):wpAny (model pw w) A (eval ex env) Q E s :=
 S.e a kk fun X v h' tk hX e r=>q v h' tk e (hX ▸ r)
theorem Snd.int {w:World} {k n:Nat} {c:Cx} (S:Snd w k c n) {A:Around} {E:Value→Shared→Prop} {off:Addr→Prop} {s:Shared} {sc:Scope} {env:Env} {ρ:Rho} {ex:Expr} {i:Int} {Q:Value→Shared→Prop} (a:At w k A sc env s off ρ) (kk:ew c sc n ex ρ fun X=>X=.int i)
  (q:∀ t h' tk,Keep s.heap h'→Q (.int i t) { s with heap:=h',toks:=tk }):wpAny (model pw w) A (eval ex env) Q E s :=
 S.val a kk fun v h' tk e r=>by apply bc;intro hQ;rcases r.int_inv with ⟨t,rfl⟩;refine hQ ?_;clear hQ;exact q t h' tk e
theorem Snd.tst {w:World} {k n:Nat} {c:Cx} (S:Snd w k c n) {A:Around} {E:Value→Shared→Prop} {off:Addr→Prop} {s:Shared} {sc:Scope} {env:Env} {ρ:Rho} {ex:Expr} {b0:Bool} {Q:Bool→Shared→Prop} (a:At w k A sc env s off ρ) (kk:tw c sc n ex ρ fun b=>b=b0)
  (q:∀ h' tk,Keep s.heap h'→Q b0 { s with heap:=h',toks:=tk }):wpAny (model pw w) A (isTrue ex env (eval ex env)) Q E s :=
 S.t a kk fun b h' tk hb e=>hb ▸ q h' tk e
theorem zKc {w:World} {k:Nat} {A:Around} {E:Value→Shared→Prop} {off:Addr→Prop} {s:Shared} {sc:Scope} {env:Env} {ρ:Rho} {op:Operator} {i j r:Int} {ti tj:Tok} {Q:Value→Shared→Prop} (a:At w k A sc env s off ρ) (kk:zWj op (.int i) (.int j) fun X=>X=.int r)
  (q:∀ t h' tk,Keep s.heap h'→Q (.int r t) { s with heap:=h',toks:=tk }):wpAny (model pw w) A (binaryOp op (.int i ti) (.int j tj)) Q E s :=
 zQ6 a.room.hd a.old (Rd.int _ _) (Rd.int _ _) kk fun X v h' tk hX e r=>by
  apply bc;intro hQ;rcases (hX ▸ r).int_inv with ⟨t,rfl⟩;refine hQ ?_;clear hQ
  exact q t h' tk e
theorem uy {w:World} {A:Around} {E:Value→Shared→Prop} {off:Addr→Prop} {s:Shared} {k n:Nat} {sc:Scope} {env:Env} {ρ:Rho} {x:Str} {p pos:Pos} {f c:Addr} {i:Nat} {qual:Str} {clos:List (Str×Addr)} {e:Expr} {es:List Expr} {L:List V} {Q:Value→Shared→Prop} (S:∀ n,Snd w k cx0 n) (a:At w k A sc env s off ρ) (hx:xw sc x=true) (hc:env.cells.lookup x=some c) (hv:s.heap.IsCell c (some (.ref f))) (cl:Clo s.heap f i qual clos)
  (hst:(e :: es).any yY=false) (kk:ews cx0 sc n (e :: es) ρ fun l=>l=L)
  (q:∀ vs h' tk,Keep s.heap h'→At w k A sc env { s with heap:=h',toks:=tk } off ρ→RdL h' off L vs→wpAny (model pw w) A (call (.ref f) vs) Q E { s with heap:=h',toks:=tk }) :
  wpAny (model pw w) A (eval (.Call (.Name x p) (e :: es) [] pos) env) Q E s :=
 zKb S a hx hc hv cl hst kk fun l vs h' tk hl e r=>q vs h' tk e (a.keep e) (hl ▸ r)
structure Ctx5 (h:Heap) (off:Addr→Prop) (f:Addr) (clos:List (Str×Addr)) (ds:List Nat) (n:Nat):Prop where
 clo:Clo h f 5 "_digits2int.<locals>.inner" clos
 has:∃ c1 c2 c3 v,clos.lookup ("digits":Str)=some c1∧clos.lookup ("inner":Str)=some c2∧clos.lookup ("n":Str)=some c3∧h.IsCell c1 (some v)∧Rd h off (.lst (ds.map fun (d:Nat)=>V.int d)) v∧h.IsCell c2 (some (.ref f))∧∃ u,h.IsCell c3 (some u)∧Rd h off (.int n) u
theorem Ctx5.keep {h h':Heap} {off:Addr→Prop} {f:Addr} {clos:List (Str×Addr)} {ds:List Nat} {n:Nat} (x:Ctx5 h off f clos ds n) (k:Keep h h'):Ctx5 h' off f clos ds n:=by
 apply bc;intro hQ;rcases x.has with ⟨c1,c2,c3,v,a1,a2,a3,a4,a5,a6,u,a7,a8⟩;refine hQ ?_;clear hQ
 exact ⟨x.clo.keep k,c1,c2,c3,v,a1,a2,a3,IsCell.keep a4 k,a5.keep k,IsCell.keep a6 k,u,IsCell.keep a7 k,a8.keep k⟩
theorem Ctx5.cell {h:Heap} {off:Addr→Prop} {f:Addr} {clos:List (Str×Addr)} {ds:List Nat} {n:Nat} (x:Ctx5 h off f clos ds n) {c:Addr} (e:clos.lookup ("inner":Str)=some c):h.IsCell c (some (.ref f)):=by
 apply bc;intro hQ;rcases x.has with ⟨c1,c2,c3,v,a1,a2,a3,a4,a5,a6,_⟩;refine hQ ?_;clear hQ
 rw [a2] at e;(injection e with e;subst e);exact a6
theorem Ctx5.digits {h:Heap} {off:Addr→Prop} {f:Addr} {clos:List (Str×Addr)} {ds:List Nat} {n:Nat} (x:Ctx5 h off f clos ds n):∃ c v,clos.lookup ("digits":Str)=some c∧h.IsCell c (some v)∧Rd h off (.lst (ds.map fun (d:Nat)=>V.int d)) v:=by
 apply bc;intro hQ;rcases x.has with ⟨c1,c2,c3,v,a1,a2,a3,a4,a5,a6,_⟩;refine hQ ?_;clear hQ
 exact ⟨c1,v,a1,a4,a5⟩
theorem Ctx5.width {h:Heap} {off:Addr→Prop} {f:Addr} {clos:List (Str×Addr)} {ds:List Nat} {n:Nat} (x:Ctx5 h off f clos ds n):∃ c u,clos.lookup ("n":Str)=some c∧h.IsCell c (some u)∧Rd h off (.int n) u:=by
 apply bc;intro hQ;rcases x.has with ⟨c1,c2,c3,v,a1,a2,a3,a4,a5,a6,u,a7,a8⟩;refine hQ ?_;clear hQ
 exact ⟨c3,u,a3,a7,a8⟩
theorem zKd {clos:List (Str×Addr)} (hcl:(clos.lookup ("digits":Str)).isSome=true∧(clos.lookup ("inner":Str)).isSome=true∧(clos.lookup ("n":Str)).isSome=true):inOk (inSc 5) ["L","R"] clos=true:=by
 unfold inOk
 have e:(inSc 5).names=([("L",.local),("R",.local),("mid",.local),("shift",.local),("digits",.free),("inner",.free),("n",.free)]:List (Str×NameKind)):=by rfl
 rw [e]
 simp only [List.all_cons,List.all_nil,hcl.1,hcl.2.1,hcl.2.2]
 rfl
theorem yWp (qual:Str) (clos:List (Str×Addr)) (doc pm:Value) (c:Addr) (ct:Value) (vs:List Value) (h:vs.length=2):bindArgs (fnX "inner" qual (inP 5) (inB 5) (inSc 5) clos .none .none doc pm none (.ref c) ct) ⟨vs,[]⟩=pure ((["L","R"]:List Str).zip vs):=by
 apply bc;intro hQ;rcases len2 h with ⟨a,b,rfl⟩;refine hQ ?_;clear hQ;rfl
theorem zYi {ds:List Nat} {L:Nat} (h:L < ds.length):(ds.drop L).take 1=[ds.getD L 0]:=by
 rw [List.drop_eq_getElem_cons h,List.take_succ_cons,List.take_zero,List.getD_eq_getElem?_getD,List.getElem?_eq_getElem h];rfl
theorem zKe (L R:Nat):Int.fdiv ((L:Int) + R) (2 ^ (Int.toNat 1))=(((L + R) / 2:Nat):Int):=by
 rw [Int.fdiv_eq_ediv_of_nonneg _ (by decide)];show ((L:Int) + R) / 2=_;lia
theorem yQz (L R:Nat):((L:Int) + 1 == (R:Int))=decide (L + 1=R):=by
 by_cases h:L + 1=R
 ·rw [decide_eq_true h,beq_iff_eq];lia
 ·rw [decide_eq_false h,beq_eq_false_iff_ne];lia
theorem zZj {L M:Nat} (n:Nat) (h:L < M):((M:Int) - L) * n=((n * (M - L):Nat):Int):=by
 rw [Int.natCast_mul,Int.mul_comm,Int.ofNat_sub (Nat.le_of_lt h)]
theorem zZk {L M:Nat} (n:Nat) (h:L < M) (hM:M≤32):IntMulOk ((M:Int) - L) n:=by
 refine IntMulOk.of_left ?_
 rw [← Int.ofNat_sub (Nat.le_of_lt h)]
 exact tW (m:=64) (Nat.lt_of_le_of_lt (Nat.le_trans (Nat.sub_le _ _) hM) (by decide))
theorem yXb {ds:List Nat} {n L R:Nat} (h:L + 1=R) (hR:R≤ds.length):valD n ((ds.drop L).take (R - L))=ds.getD L 0:=by
 rw [← h,Nat.add_sub_cancel_left,zYi (Nat.lt_of_lt_of_le (h ▸ Nat.lt_succ_self L) hR)];simp [valD]
theorem yXc {ds:List Nat} {n L M R:Nat} (h1:L < M) (h2:M < R) (hR:R≤ds.length):valD n ((ds.drop L).take (R - L))=valD n ((ds.drop L).take (M - L)) + 2 ^ (n * (M - L)) * valD n ((ds.drop M).take (R - M)):=by
 rw [show R - L=(M - L) + (R - M) by rw [Nat.add_comm,Nat.sub_add_sub_cancel (Nat.le_of_lt h2) (Nat.le_of_lt h1)],List.take_add,List.drop_drop,Nat.add_sub_cancel' (Nat.le_of_lt h1),tV,List.length_take,List.length_drop,Nat.min_eq_left (Nat.sub_le_sub_right (Nat.le_trans (Nat.le_of_lt h2) hR) L)]
theorem zYj {ds:List Nat} {n:Nat} (hds:ds.length≤16) (hd:∀ d∈ds,d < 2 ^ 64) (hn:n≤64) (a b:Nat):Builtin.Int.intBits ((valD n ((ds.drop a).take b):Nat):Int)≤64 * 16 + 64 + 16:=by
 have hl:((ds.drop a).take b).length≤16:=by rw [List.length_take,List.length_drop];exact Nat.le_trans (Nat.min_le_right _ _) (Nat.le_trans (Nat.sub_le _ _) hds)
 refine tW (Nat.lt_of_lt_of_le (zKa n _ fun d h=>hd d (List.mem_of_mem_drop (List.mem_of_mem_take h))) (Nat.pow_le_pow_right (by decide) ?_))
 have:n * ((ds.drop a).take b).length≤64 * 16:=Nat.mul_le_mul hn hl
 lia
theorem yWq {w:World} {clos:List (Str×Addr)} {f:Addr} {ds:List Nat} {n:Nat} (hcl:(clos.lookup ("digits":Str)).isSome=true∧(clos.lookup ("inner":Str)).isSome=true∧(clos.lookup ("n":Str)).isSome=true) (hds:ds.length≤16) (hd:∀ d∈ds,d < 2 ^ 64) (hn:n≤64) :
  ∀ (m L R:Nat),R - L≤m→L < R→R≤ds.length→∀ (A:Around) (E:Value→Shared→Prop) (off:Addr→Prop) (s:Shared) (vs:List Value) (Q:Value→Shared→Prop),Room (m + 1) A→Glb w s.heap→Old off s.heap→Ctx5 s.heap off f clos ds n→RdL s.heap off [.int L,.int R] vs →
   (∀ t h' tk,Keep s.heap h'→Q (.int ((valD n ((ds.drop L).take (R - L)):Nat):Int) t) { s with heap:=h',toks:=tk })→wpAny (model pw w) A (call (.ref f) vs) Q E s:=by
 intro m
 induction m with
 | zero=>intro L R h1 h2;exact absurd (Nat.lt_of_lt_of_le (Nat.sub_pos_of_lt h2) h1) (Nat.lt_irrefl 0)
 | succ m ih =>
  intro L R h1 hLR hRle A E off s vs Q room G ol X r q
  have S:∀ n,Snd w (m + 1) cx0 n:=snd (yZ w (m + 1))
  obtain ⟨c2,cl2⟩:=Option.isSome_iff_exists.mp hcl.2.1
  refine zZi (k:=m + 1) (names:=["L","R"]) X.clo (zKd hcl) (fun doc pm c ct vs h=>yWp _ _ _ _ _ _ vs h) room G ol r rfl fun env h₁ tk ecs eL hk a=>?_
  apply bc;intro hQ;rcases (X.keep (.of hk)).digits with ⟨c1,v,a1,a4,a5⟩;rcases (X.keep (.of hk)).width with ⟨c3,u,a3,a7,a8⟩;refine hQ ?_;clear hQ
  have a:=(a.free (x:="digits") (by rfl) (by rw [ecs];exact a1) a4 a5).free (x:="n") (by rfl) (by rw [ecs];exact a3) a7 a8
  have cl2':env.cells.lookup ("inner":Str)=some c2:=by rw [ecs];exact cl2
  have hL:s.heap.get? env.locals=none:=by rw [eL];exact xj _
  clear a1 a4 a5 a3 a7 a8
  show wpAny _ _ (execs [Stmt.If _ [Stmt.Return (some _) _] [] _,Stmt.Assign [Expr.Name _ _] _ _,Stmt.Assign [Expr.Name _ _] _ _,Stmt.Return (some (Expr.BinOp (Expr.BinOp (Expr.Call (Expr.Name _ _) [_,_] [] _) .LShift (Expr.Name _ _) _) .Add (Expr.Call (Expr.Name _ _) [_,_] [] _) _)) _] env) _ _ _
  refine wpAny_execs_cons (wpAny_If ((S 20).tst a (b0:=decide (L + 1=R)) ?_ fun h2 tk2 e2=>?_))
  ·conv=>whnf
   rw [yQz]
   exact Bool.false_bne _
  have k2:Keep s.heap h2:=(Keep.of hk).trans e2
  have a2:=a.keep (tk:=tk2) e2
  by_cases hb:L + 1=R
  ·rw [decide_eq_true hb]
   refine wpAny_execs_cons (wpAny_Return_some ((S 20).int a2 (i:=((ds.getD L 0:Nat):Int)) ?_ fun t h3 tk3 e3=>yXb (n:=n) hb hRle ▸ q t h3 tk3 (k2.trans e3)))
   conv=>whnf
   have hl:L < ds.length:=Nat.lt_of_lt_of_le hLR hRle
   refine ⟨by lia,by lia,L,.int ((ds.getD L 0:Nat):Int),?_,?_,rfl⟩
   ·rw [List.length_map];exact seqIndex_of (Int.natCast_nonneg _) (by lia)
   ·rw [List.getElem?_map,List.getElem?_eq_getElem hl,List.getD_eq_getElem?_getD,List.getElem?_eq_getElem hl];rfl
  ·rw [decide_eq_false hb]
   have ⟨M,hM,hM1,hM2⟩:∃ M,(L + R) / 2=M∧L < M∧M < R:=⟨_,rfl,by lia,by lia⟩
   refine wpAny_execs_nil (wpAny_execs_cons (wpAny_Assign_Name ((S 20).int a2 (i:=(M:Int)) ?_ fun t h3 tk3 e3=>?_) (zY (by rfl) _ _ _)))
   ·conv=>whnf
    exact ⟨by decide,by rw [zKe,hM]⟩
   refine vy (a2.keep (tk:=tk3) e3) (k2.trans e3) hL (x:="mid") (X:=.int (M:Int)) (by rfl) (by rfl) (Rd.int _ _) fun h4 tk4 a4 k4=>?_
   refine wpAny_execs_cons (wpAny_Assign_Name ((S 20).int a4 (i:=((n * (M - L):Nat):Int)) ?_ fun t h5 tk5 e5=>?_) (zY (by rfl) _ _ _))
   ·conv=>whnf
    exact ⟨zZk n hM1 (Nat.le_trans (Nat.le_of_lt hM2) (Nat.le_trans hRle (Nat.le_trans hds (by decide)))),by rw [zZj n hM1]⟩
   refine vy (a4.keep (tk:=tk5) e5) (k4.trans e5) hL (x:="shift") (X:=.int ((n * (M - L):Nat):Int)) (by rfl) (by rfl) (Rd.int _ _) fun h6 tk6 a6 k6=>?_
   clear a a2 a4 hL
   refine wpAny_execs_cons (wpAny_Return_some (wpAny_BinOp (wpAny_BinOp (uy S a6 (n:=20) (L:=[.int M,.int R]) (by rfl) cl2' ((X.keep k6).cell cl2) (X.keep k6).clo (by rfl) (by conv=>whnf) fun vs2 h7 tk7 e7 a7 r7=>?_))))
   refine ih M R (by lia) hM2 hRle _ _ off _ vs2 _ a7.room a7.glb a7.old (X.keep (k6.trans e7)) r7 fun t8 h8 tk8 e8=>?_
   have a8:=a7.keep (tk:=tk8) e8
   refine (S 20).int a8 (i:=((n * (M - L):Nat):Int)) (by conv=>whnf) fun t h9 tk9 e9=>?_
   refine zKc (r:=((valD n ((ds.drop M).take (R - M)) * 2 ^ (n * (M - L)):Nat):Int)) (a8.keep (tk:=tk9) e9) ⟨Int.natCast_nonneg _,?_,?_⟩ fun tz h10 tk10 e10=>?_
   ·have:=zYj hds hd hn M (R - M)
    have h2:n * (M - L)≤64 * 16:=Nat.mul_le_mul hn (Nat.le_trans (Nat.sub_le _ _) (Nat.le_trans (Nat.le_of_lt hM2) (Nat.le_trans hRle hds)))
    lia
   ·rw [Int.toNat_natCast];push_cast;rfl
   have a10:=a8.keep (tk:=tk10) (e9.trans e10)
   have k10:=(k6.trans e7).trans (e8.trans (e9.trans e10))
   refine uy S a10 (n:=20) (L:=[.int L,.int M]) (by rfl) cl2' ((X.keep k10).cell cl2) (X.keep k10).clo (by rfl) (by conv=>whnf) fun vs3 h11 tk11 e11 a11 r11=>?_
   refine ih L M (by lia) hM1 (Nat.le_trans (Nat.le_of_lt hM2) hRle) _ _ off _ vs3 _ a11.room a11.glb a11.old (X.keep (k10.trans e11)) r11 fun t12 h12 tk12 e12=>?_
   refine zKc (r:=((valD n ((ds.drop L).take (R - L)):Nat):Int)) (a11.keep (tk:=tk12) e12) ?_ fun tz h13 tk13 e13=>q tz h13 tk13 ((k10.trans e11).trans (e12.trans e13))
   show V.int _=V.int _
   rw [yXc hM1 hM2 hRle]
   push_cast
   rw [Int.add_comm,Int.mul_comm]
theorem xZq {w:World} {h:Heap} (G:Glb w h):CodeHd h 41 37 :=
 ⟨oB41 w.params,_,_,_,_,_,_,_,_,G.at_ 41 _ (by rfl) (.inl rfl),rfl,rfl,rfl,rfl,rfl,rfl,rfl,rfl,by decide⟩
theorem xZr {w:World} {h:Heap} (G:Glb w h):CodeHd h 34 30 :=
 ⟨oB34 w.params,_,_,_,_,_,_,_,_,G.at_ 34 _ (by rfl) (.inl rfl),rfl,rfl,rfl,rfl,rfl,rfl,rfl,rfl,by decide⟩
theorem Inv1.other {P P':Addr} {ln cl ln' cl':Nat} {q q':Str} {h h':Heap} (x:Inv1 P ln cl q h) (y:Inv1 P' ln' cl' q' h) (ne:P≠P') (k:∀ b o,b≠P'→h.get? b=some o→h'.get? b=some o):Inv1 P ln cl q h':=by
 apply bc;intro hQ;rcases y with ⟨ps',g1,g2⟩;refine hQ ?_;clear hQ
 refine x.gen (fun ps e=>k _ _ ne e) fun b o vs t e4 e5 e6=>k _ _ ?_ e4
 rintro rfl
 rw [g1] at e4;(injection e4 with e4;subst e4)
 (injection e5 with e5;subst e5)
 rcases g2 with g2 | ⟨c2,g2,_⟩
 ·rw [g2] at e6;simp at e6
 ·rw [g2] at e6;simp [rawInt] at e6
section
variable {w:World} {A:Around} {E:Value→Shared→Prop} {off₀:Addr→Prop} {s₀ s:Shared} {k n:Nat} {sc:Scope} {env:Env} {ρ:SRho} {m cm:Str→Option Value} {ad:Str→Addr}
theorem Fr.cellHas (F:Fr w k A s₀ sc env off₀ ρ m cm ad s) {x:Str} {v:Value} (h:Has sc env m cm x v) (hk:sc.names.lookup x=some .cell) {c:Addr} (hc:env.cells.lookup x=some c):s.heap.IsCell c (some v):=by
 rcases h with ⟨h1,_⟩ | ⟨_,_,h3⟩
 ·rw [hk] at h1;contradiction
 ·have:=F.call.cell x c hc
  rwa [h3] at this
theorem Fr.cellVal (F:Fr w k A s₀ sc env off₀ ρ m cm ad s) {x:Str} {X:V} (hx:ρ.lookup x=some (.val X)) (hk:sc.names.lookup x=some .cell) {c:Addr} (hc:env.cells.lookup x=some c) (vs:List Str):∃ v,s.heap.IsCell c (some v)∧Rd s.heap (offV off₀ ρ ad vs) X v:=by
 apply bc;intro hQ;rcases F.slots x _ hx with ⟨v,h1,h2⟩;refine hQ ?_;clear hQ
 exact ⟨v,F.cellHas h1 hk hc,h2.move (Keep.refl _).seqs fun _ q=>uz q⟩
end
theorem Clo.stored {w:World} {A:Around} {off₀:Addr→Prop} {s₀ s:Shared} {k:Nat} {sc:Scope} {env:Env} {ρ:SRho} {m cm:Str→Option Value} {ad:Str→Addr} {f:Addr} {i:Nat} {qual:Str} {clos:List (Str×Addr)} (cl:Clo s.heap f i qual clos) (F:Fr w k A s₀ sc env off₀ ρ m cm ad s) {x:Str} {v:Value} {h':Heap} {tk:Nat} {m' cm':Str→Option Value} {B:Addr} (st:Stored s₀ sc env m cm x v s h' tk m' cm' B):Clo h' f i qual clos:=by
 have hB:∀ b o,s.heap.get? b=some o→((∃ fd,o.data=.func fd)∨(∃ q t,∃ vs,o.data=.fields vs∧vs[1]?=some (.str q t)))→b≠B:=by
  rintro b o e hh rfl
  rcases st.kindB with hb | ⟨v0,o2,e2,e3⟩
  ·apply bc;intro hQ;rcases F.call.toInCall.ns with ⟨o',es,ep,e4,e5,_⟩;refine hQ ?_;clear hQ
   rw [hb,e4] at e;(injection e with e;subst e)
   rcases hh with ⟨_,hh⟩ | ⟨_,_,_,hh,_⟩ <;> (rw [e5] at hh;contradiction)
  ·rw [e2] at e;(injection e with e;subst e)
   rcases hh with ⟨_,hh⟩ | ⟨_,_,_,hh,_⟩ <;> (rw [e3] at hh;contradiction)
 apply bc;intro hQ;rcases cl with ⟨doc,pm,c,ct,h1,h2',c',o,vs,t,e,h3,h4,h5⟩;refine hQ ?_;clear hQ
 exact ⟨doc,pm,c,ct,st.but _ _ (hB _ _ h1 (.inl ⟨_,rfl⟩)) h1,h2',c',o,vs,t,e,st.but _ _ (hB _ _ h3 (.inr ⟨_,_,vs,h4,h5⟩)) h3,h4,h5⟩
inductive g5 (l:List V) (K:Kp):Prop where
 | mk (ds:List Nat) (n:Nat) (h0:l=[.lst (ds.map fun (d:Nat)=>V.int d),.int n]) (h1:ds.length≤16) (h2:(∀ d∈ds,d < 2 ^ 64)) (h3:n≤64) (h4:K (.int (valD n ds:Nat)))
theorem zKf:(inSc 5).names=([("L",.local),("R",.local),("mid",.local),("shift",.local),("digits",.free),("inner",.free),("n",.free)]:List (Str×NameKind)):=by rfl
theorem my {x:Str}:(x,NameKind.free)∈(inSc 5).names ↔ x="digits"∨x="inner"∨x="n":=by
 rw [zKf];simp
theorem Fr.kp {w:World} {A:Around} {off₀:Addr→Prop} {s s':Shared} {k:Nat} {sc:Scope} {env:Env} {ρ:SRho} {m cm:Str→Option Value} {ad:Str→Addr} (F:Fr w k A (gh s) sc env off₀ ρ m cm ad s') (G:Glb w s.heap):Keep s.heap s'.heap∧s'={ s with heap:=s'.heap,toks:=s'.toks }:=by
 apply bc;intro hQ;rcases F.call.done with ⟨h5,tk5,e5,kp5⟩;refine hQ ?_;clear hQ
 have t:=F.tab
 rw [e5] at t ⊢
 exact ⟨kpt G h5 kp5 t,rfl⟩
theorem nZ (H:EnvOk sc env) {x:Str} (hx:sc.names.lookup x=some .cell):∃ c,env.cells.lookup x=some c:=H.cells x (by unfold xw;rw [hx];rfl)
theorem f5 (w:World):FnOk w 20 42 g5:=by
 intro A E off s l vs K Q room G ol r ⟨ds,n,e,hds,hd,hn,kk⟩ q
 rw [e] at r
 refine qx (k:=19) (at5 w) (names:=["digits","n"]) (locs:=["inner"]) (by rfl) (xZl _) room G ol r rfl fun env m cm ad s₁ eE F=>?_
 have S:∀ n,Snd w 19 cx0 n:=snd (yZ w 19)
 show wpAny _ _ (execs [inSt 5,Stmt.Return (some (Expr.IfExp _ (Expr.Call (Expr.Name _ _) [_,_] [] _) _ _)) _] env) _ _ _
 apply bc;intro hQ;rcases nZ F.en (x:="digits") (by rfl) with ⟨cd,hcd⟩;rcases nZ F.en (x:="inner") (by rfl) with ⟨ci,hci⟩;rcases nZ F.en (x:="n") (by rfl) with ⟨cn,hcn⟩;refine hQ ?_;clear hQ
 have hcl:closureFor (inSc 5) env=pure (pV env.cells (inSc 5).names []):=xz fun x hx=>by
  rcases my.mp hx with e | e | e <;> rw [e]
  ·exact ⟨_,hcd⟩
  ·exact ⟨_,hci⟩
  ·exact ⟨_,hcn⟩
 have l1:=wX hcd (inSc 5).names [] (.inl rfl) (.inl (my.mpr (.inl rfl)))
 have l2:=wX hci (inSc 5).names [] (.inl rfl) (.inl (my.mpr (.inr (.inl rfl))))
 have l3:=wX hcn (inSc 5).names [] (.inl rfl) (.inl (my.mpr (.inr (.inr rfl))))
 generalize pV env.cells (inSc 5).names []=clos at hcl l1 l2 l3
 refine wpAny_execs_cons (zJ9 (i:=5) (c:=41) (P:=37) (ln:=47) (qual:="_digits2int.<locals>.inner") F.glbs (by rfl) (by rfl) (by rfl) (by rfl) (by rw [eE];kernel_rfl) F.en.glob (by rw [eE];kernel_rfl) (xZq F.glbs) ⟨by decide,by decide⟩ rfl ⟨by rfl,by rfl⟩ F.tab.2 (fun h' hh=>?_) hcl fun f h' tk e1 cl=>?_)
 ·rcases hh with hh | ⟨kb,hi⟩
  ·exact hh.inv F.tab
  ·exact ⟨F.tab.1.other F.tab.2 (by decide) kb,hi⟩
 ·have F1:=F.keep (tk:=tk) e1
  refine F1.storeRaw (by rfl) fun h2 tk2 m2 cm2 B2 st2=>?_
  have cl2:Clo h2 f 5 "_digits2int.<locals>.inner" clos:=cl.stored F1 st2
  have F3:Fr w 19 (A.deeper env) (gh s) (fdSc 5) env off ([("digits",.val (.lst (ds.map fun (d:Nat)=>V.int d))),("n",.val (.int n)),("inner",.val (.ref f))]:SRho) m2 cm2 ad { s₁ with heap:=h2,toks:=tk2 }:=F1.setVal (X:=.ref f) (Rd.ref f) st2
  clear hcl eE e1 cl st2 F1 F
  apply bc;intro hQ;rcases F3.cellVal (x:="digits") (by rfl) (by rfl) hcd [] with ⟨v1,x2,x3⟩;refine hQ ?_;clear hQ
  have y2:h2.IsCell ci (some (.ref f)):=by
   apply bc;intro hQ;rcases F3.cellVal (x:="inner") (by rfl) (by rfl) hci [] with ⟨v2,y2,y3⟩;refine hQ ?_;clear hQ
   exact y3 ▸ y2
  apply bc;intro hQ;rcases F3.cellVal (x:="n") (by rfl) (by rfl) hcn [] with ⟨v3,z2,z3⟩;refine hQ ?_;clear hQ
  have a3:=F3.at' []
  have X5:Ctx5 h2 (offV off ([("digits",.val (.lst (ds.map fun (d:Nat)=>V.int d))),("n",.val (.int n)),("inner",.val (.ref f))]:SRho) ad []) f clos ds n:=⟨cl2,cd,ci,cn,v1,l1,l2,l3,x2,x3,y2,v3,z2,z3⟩
  have fin:∀ t h4 tk4,Keep h2 h4→Q (.int ((valD n ds:Nat):Int) t) { s₁ with heap:=h4,toks:=tk4 }:=fun t h4 tk4 e4=>by
   obtain ⟨kp,e⟩:=(F3.keep (tk:=tk4) e4).kp G
   rw [e];exact q _ _ _ _ kk kp (Rd.int _ _)
  clear x2 x3 z2 z3
  refine wpAny_execs_cons (wpAny_Return_some (wpAny_IfExp ((S 20).tst a3 (b0:=!ds.isEmpty) ?_ fun h4 tk4 e4=>?_)))
  ·conv=>whnf
   refine ⟨by rw [List.length_map];lia,?_⟩
   cases ds <;> rfl
  have a4:=a3.keep (tk:=tk4) e4
  cases hde:ds.isEmpty with
  | true =>
   refine (S 20).int a4 (i:=0) (by conv=>whnf) fun t h5 tk5 e5=>?_
   have:=fin t h5 tk5 (e4.trans e5)
   rw [show valD n ds=0 by rw [List.isEmpty_iff.mp hde];rfl] at this
   exact this
  | false =>
   refine uy S a4 (n:=20) (L:=[.int (0:Nat),.int (ds.length:Nat)]) (by rfl) hci (IsCell.keep y2 e4) (cl2.keep e4) (by rfl) ?_ fun vs2 h7 tk7 e7 a7 r7=>?_
   ·conv=>whnf
    refine ⟨by rw [List.length_map];lia,?_⟩
    conv=>whnf
    rw [List.length_map];rfl
   refine yWq (f:=f) (clos:=clos) (ds:=ds) (n:=n) ⟨by rw [l1];rfl,by rw [l2];rfl,by rw [l3];rfl⟩ hds hd hn ds.length 0 ds.length (by lia) (List.length_pos_iff.mpr fun e=>by rw [e] at hde;contradiction) (Nat.le_refl _) _ _ _ _ vs2 _ (a7.room.le (by lia)) a7.glb a7.old (X5.keep (e4.trans e7)) r7 fun t h8 tk8 e8=>?_
   rw [List.drop_zero,Nat.sub_zero,List.take_length]
   exact fin t h8 tk8 ((e4.trans e7).trans e8)
noncomputable def digN (n c x:Nat):List Nat:=(List.range c).map fun i=>if i + 1=c then x / 2 ^ (n * i) else x / 2 ^ (n * i) % 2 ^ n
theorem oX (n x:Nat):digN n 1 x=[x]:=by unfold digN;simp
theorem fz (n c x:Nat):(digN n c x).length=c:=by unfold digN;simp
theorem nJ (n a b x:Nat) (ha:0 < a) (hb:0 < b):digN n (a + b) x=digN n a (x % 2 ^ (n * a))++digN n b (x / 2 ^ (n * a)):=by
 unfold digN
 rw [List.range_add,List.map_append,List.map_map]
 congr 1
 ·refine List.map_congr_left fun i hi=>?_
  rw [List.mem_range] at hi
  rw [if_neg (by lia)]
  have e:2 ^ (n * a)=2 ^ (n * i) * 2 ^ (n * (a - i)):=by rw [← Nat.pow_add,← Nat.mul_add];congr 2;lia
  rw [e,Nat.mod_mul_right_div_self]
  by_cases h:i + 1=a
  ·rw [if_pos h,show a - i=1 by lia,Nat.mul_one]
  ·rw [if_neg h]
   have d:2 ^ n ∣ 2 ^ (n * (a - i)):=Nat.pow_dvd_pow 2 (Nat.le_mul_of_pos_right n (by lia))
   rw [Nat.mod_mod_of_dvd _ d]
 ·refine List.map_congr_left fun i hi=>?_
  rw [List.mem_range] at hi
  show (if a + i + 1=a + b then _ else _)=_
  have e:x / 2 ^ (n * (a + i))=x / 2 ^ (n * a) / 2 ^ (n * i):=by rw [Nat.mul_add,Nat.pow_add,Nat.div_div_eq_div_mul]
  rw [e]
  by_cases h:i + 1=b
  ·rw [if_pos (by lia),if_pos h]
  ·rw [if_neg (by lia),if_neg h]
theorem yXd (x j:Nat):Builtin.bitXor (x:Int) (((x / 2 ^ j * 2 ^ j:Nat)):Int)=((x % 2 ^ j:Nat):Int):=by
 rw [bitXor_and,bitAnd_pp (Int.natCast_nonneg _) (Int.natCast_nonneg _),Int.toNat_natCast,Int.toNat_natCast]
 have e:x &&& x / 2 ^ j * 2 ^ j=x / 2 ^ j * 2 ^ j:=by
  apply Nat.eq_of_testBit_eq
  intro i
  rw [Nat.testBit_and,Nat.testBit_mul_two_pow]
  by_cases h:j≤i
  ·rw [Nat.testBit_div_two_pow,Nat.sub_add_cancel h];cases x.testBit i <;> simp
  ·simp [h]
 rw [e]
 have:=Nat.div_add_mod' x (2 ^ j)
 lia
noncomputable def put (cur:List Nat) (L R n x:Nat):List Nat:=cur.take L++digN n (R - L) x++cur.drop R
theorem yXe {cur:List Nat} {L R n x:Nat} (h:L≤R) (h2:R≤cur.length):(put cur L R n x).length=cur.length:=by
 unfold put;rw [List.length_append,List.length_append,fz,List.length_take,List.length_drop,Nat.min_eq_left (Nat.le_trans h h2),Nat.add_sub_cancel' h,Nat.add_sub_cancel' h2]
theorem zKg {cur:List Nat} {L M R n x:Nat} (h1:L < M) (h2:M < R) (h3:R≤cur.length):put (put cur L M n (x % 2 ^ (n * (M - L)))) M R n (x / 2 ^ (n * (M - L)))=put cur L R n x:=by
 have e:R - L=(M - L) + (R - M):=by rw [Nat.add_comm,Nat.sub_add_sub_cancel (Nat.le_of_lt h2) (Nat.le_of_lt h1)]
 unfold put
 rw [e,nJ n _ _ x (Nat.sub_pos_of_lt h1) (Nat.sub_pos_of_lt h2)]
 have hA:(cur.take L++digN n (M - L) (x % 2 ^ (n * (M - L)))).length=M:=by rw [List.length_append,fz,List.length_take,Nat.min_eq_left (Nat.le_trans (Nat.le_of_lt h1) (Nat.le_trans (Nat.le_of_lt h2) h3)),Nat.add_sub_cancel' (Nat.le_of_lt h1)]
 rw [List.take_append_of_le_length (Nat.le_of_eq hA.symm),List.take_of_length_le (Nat.le_of_eq hA)]
 have hB:(cur.take L++digN n (M - L) (x % 2 ^ (n * (M - L)))++cur.drop M).drop R=cur.drop R:=by
  rw [List.drop_append,List.drop_of_length_le (by lia),List.nil_append,hA,List.drop_drop]
  congr 1;lia
 rw [hB]
 simp only [List.append_assoc]
theorem yXf {cur:List Nat} {L n x:Nat} (h:L < cur.length):put cur L (L + 1) n x=cur.set L x:=by
 unfold put
 rw [show L + 1 - L=1 by lia,oX,List.set_eq_take_append_cons_drop,if_pos h]
 simp
section
variable {w:World} {k n:Nat} {A:Around} {E:Value→Shared→Prop} {off:Addr→Prop} {s:Shared} {sc:Scope} {env:Env} {ρ:Rho}
theorem KX.seqs {off:Addr→Prop} {h h':Heap} {D:Addr} (kx:KX (fun z=>z=D) h h') (hD:off D):Seqs off h h':=fun a o e ⟨vs,n,d⟩ no=>kx.obj a o (fun q=>no (q ▸ hD)) e (.nf fun vs' d'=>by rw [d] at d';contradiction)
theorem At.kx {h':Heap} {tk:Nat} {D:Addr} {its its':Array Value} (a:At w k A sc env s off ρ) (kx:KX (fun z=>z=D) s.heap h') (p:s.heap.PlainList D its) (p':h'.PlainList D its') (hD:off D) (gD:(tG w.params).get D=none):At w k A sc env { s with heap:=h',toks:=tk } off ρ:=by
 apply bc;intro hQ;rcases a.sees with ⟨m,h1,h2⟩;refine hQ ?_;clear hQ
 refine ⟨a.room,a.en,⟨fun b o e f=>kx.obj b o (by rintro rfl;rw [gD] at e;contradiction) (a.glb.at_ b o e f) f,kx.inv a.glb.tab⟩,fun b hb=>?_,⟨m,?_,fun x X e=>?_⟩,a.apart⟩
 ·by_cases hbD:b=D
  ·subst hbD;obtain ⟨nn,e⟩:=p';exact ⟨_,e⟩
  ·obtain ⟨o,e⟩:=a.old b hb;exact kx.live b o hbD e
 ·refine h1.at' fun o e=>kx.obj _ o (wZ p e fun vs nn d=>?_) e (.nf fun vs d=>?_)
  ·apply bc;intro hQ;rcases xk h1 e with ⟨es,ep,q2⟩;refine hQ ?_;clear hQ
   rw [q2] at d;contradiction
  ·apply bc;intro hQ;rcases xk h1 e with ⟨es,ep,q2⟩;refine hQ ?_;clear hQ
   rw [q2] at d;contradiction
 ·apply bc;intro hQ;rcases h2 x X e with ⟨v,r,h3⟩;refine hQ ?_;clear hQ
  refine ⟨v,r.move (kx.seqs hD) fun _ z=>z,h3.imp _root_.id fun ⟨h4,c,h5,o,h6,h7⟩=>⟨h4,c,h5,o,kx.obj _ _ (wZ p h6 fun vs nn d=>by rw [h7] at d;contradiction) h6 (.nf fun vs d=>by rw [h7] at d;contradiction),h7⟩⟩
structure Ctx4 (h:Heap) (f:Addr) (clos:List (Str×Addr)) (n:Nat) (D:Addr):Prop where
 clo:Clo h f 4 "_int2digits.<locals>.inner" clos
 has:∃ c1 c2 c3 t,clos.lookup ("a_digits":Str)=some c1∧clos.lookup ("inner":Str)=some c2∧clos.lookup ("n":Str)=some c3∧h.IsCell c1 (some (.ref D))∧h.IsCell c2 (some (.ref f))∧h.IsCell c3 (some (.int n t))
theorem Ctx4.keep {h h':Heap} {f:Addr} {clos:List (Str×Addr)} {n:Nat} {D:Addr} (x:Ctx4 h f clos n D) (k:Keep h h'):Ctx4 h' f clos n D :=
 by apply bc;intro hQ;rcases x.has with ⟨c1,c2,c3,t,a1,a2,a3,a4,a5,a6⟩;refine hQ ?_;clear hQ;exact ⟨x.clo.keep k,c1,c2,c3,t,a1,a2,a3,IsCell.keep a4 k,IsCell.keep a5 k,IsCell.keep a6 k⟩
theorem Ctx4.kx {h h':Heap} {f:Addr} {clos:List (Str×Addr)} {n:Nat} {D:Addr} {its:Array Value} (x:Ctx4 h f clos n D) (kx:KX (fun z=>z=D) h h') (p:h.PlainList D its):Ctx4 h' f clos n D:=by
 have kc:∀ {c:Addr} {v:Option Value},h.IsCell c v→h'.IsCell c v:=fun ⟨o,h6,h7⟩=>⟨o,kx.obj _ _ (wZ p h6 fun vs nn d=>by rw [h7] at d;contradiction) h6 (.nf fun vs d=>by rw [h7] at d;contradiction),h7⟩
 apply bc;intro hQ;rcases x.has with ⟨c1,c2,c3,t,a1,a2,a3,a4,a5,a6⟩;refine hQ ?_;clear hQ
 refine ⟨?_,c1,c2,c3,t,a1,a2,a3,kc a4,kc a5,kc a6⟩
 apply bc;intro hQ;rcases x.clo with ⟨doc,pm,c,ct,h1,h2,c',o,vs,tt,e,h3,h4,h5⟩;refine hQ ?_;clear hQ
 (injection e with e;subst e)
 exact ⟨doc,pm,c,ct,kx.obj _ _ (wZ p h1 fun vs nn d=>by contradiction) h1 (.ty rfl),h2,c,o,vs,tt,rfl,kx.obj _ _ (wZ p h3 fun vs nn d=>by rw [h4] at d;contradiction) h3 (.inl h2),h4,h5⟩
end
theorem yWr (qual:Str) (clos:List (Str×Addr)) (doc pm:Value) (c:Addr) (ct:Value) (vs:List Value) (h:vs.length=3):bindArgs (fnX "inner" qual (inP 4) (inB 4) (inSc 4) clos .none .none doc pm none (.ref c) ct) ⟨vs,[]⟩=pure ((["x","L","R"]:List Str).zip vs):=by
 apply bc;intro hQ;rcases len3 h with ⟨a,b,c,rfl⟩;refine hQ ?_;clear hQ;rfl
noncomputable def zQ (l:List Nat):List V:=l.map fun (d:Nat)=>V.int d
theorem zKh {h:Heap} {off:Addr→Prop} {cur:List Nat} {vs:List Value} {L x:Nat} {v:Value} (r:RdL h off (zQ cur) vs) (rv:Rd h off (.int x) v):RdL h off (zQ (cur.set L x)) (vs.set L v):=by
 induction cur generalizing vs L with
 | nil=>simp at r ⊢;subst r;rfl
 | cons d r' ih =>
  unfold zQ at r
  rw [List.map_cons] at r
  apply bc;intro hQ;rcases r with ⟨u,us,rfl,e1,e2⟩;refine hQ ?_;clear hQ
  cases L with
  | zero=>exact .cons rv e2
  | succ L=>exact .cons e1 (ih e2)
theorem zKi {clos:List (Str×Addr)} (hcl:(clos.lookup ("a_digits":Str)).isSome=true∧(clos.lookup ("inner":Str)).isSome=true∧(clos.lookup ("n":Str)).isSome=true):inOk (inSc 4) ["x","L","R"] clos=true:=by
 unfold inOk
 have e:(inSc 4).names=([("x",.local),("L",.local),("R",.local),("mid",.local),("shift",.local),("upper",.local),("lower",.local),("a_digits",.free),("inner",.free),("n",.free)]:List (Str×NameKind)):=by rfl
 rw [e]
 simp only [List.all_cons,List.all_nil,hcl.1,hcl.2.1,hcl.2.2]
 rfl
theorem Ctx4.cell {h:Heap} {f:Addr} {clos:List (Str×Addr)} {n:Nat} {D:Addr} (x:Ctx4 h f clos n D) {c:Addr} (e:clos.lookup ("inner":Str)=some c):h.IsCell c (some (.ref f)):=by
 apply bc;intro hQ;rcases x.has with ⟨c1,c2,c3,t,a1,a2,a3,a4,a5,a6⟩;refine hQ ?_;clear hQ
 rw [a2] at e;(injection e with e;subst e);exact a5
theorem Ctx4.digits {h:Heap} {f:Addr} {clos:List (Str×Addr)} {n:Nat} {D:Addr} (x:Ctx4 h f clos n D):∃ c,clos.lookup ("a_digits":Str)=some c∧h.IsCell c (some (.ref D)):=by
 apply bc;intro hQ;rcases x.has with ⟨c1,c2,c3,t,a1,a2,a3,a4,a5,a6⟩;refine hQ ?_;clear hQ
 exact ⟨c1,a1,a4⟩
theorem Ctx4.width {h:Heap} {f:Addr} {clos:List (Str×Addr)} {n:Nat} {D:Addr} (x:Ctx4 h f clos n D):∃ c t,clos.lookup ("n":Str)=some c∧h.IsCell c (some (.int n t)):=by
 apply bc;intro hQ;rcases x.has with ⟨c1,c2,c3,t,a1,a2,a3,a4,a5,a6⟩;refine hQ ?_;clear hQ
 exact ⟨c3,t,a3,a6⟩
theorem yWs (x sh:Nat):Int.fdiv (x:Int) (2 ^ (Int.toNat (sh:Int)))=((x / 2 ^ sh:Nat):Int):=by
 rw [Int.toNat_natCast,Int.fdiv_eq_ediv_of_nonneg _ (Int.le_of_lt (Int.pow_pos (by decide)))]
 norm_cast
theorem yXg {x n d:Nat} (hx:x < 2 ^ 4096) (hn:n≤64) (hd:d≤32):((Builtin.Int.intBits ((x / 2 ^ (n * d):Nat):Int):Nat):Int) + ((n * d:Nat):Int)≤2 ^ 27:=by
 have h1:=tW (a:=x / 2 ^ (n * d)) (m:=4096) (Nat.lt_of_le_of_lt (Nat.div_le_self _ _) hx)
 have h2:n * d≤64 * 32:=Nat.mul_le_mul hn hd
 lia
theorem yWt {w:World} {clos:List (Str×Addr)} {f D:Addr} {n:Nat} (hcl:(clos.lookup ("a_digits":Str)).isSome=true∧(clos.lookup ("inner":Str)).isSome=true∧(clos.lookup ("n":Str)).isSome=true) (hn:n≤64) (gD:(tG w.params).get D=none) :
  ∀ (m L R:Nat),R - L≤m→L < R→∀ (A:Around) (E:Value→Shared→Prop) (off:Addr→Prop) (s:Shared) (vs:List Value) (Q:Value→Shared→Prop) (x:Nat) (cur:List Nat) (its:Array Value),R≤cur.length→cur.length≤32→x < 2 ^ 4096→Room (m + 1) A→Glb w s.heap→Old off s.heap→off D→Ctx4 s.heap f clos n D→s.heap.PlainList D its→RdL s.heap off (zQ cur) its.toList →
   RdL s.heap off [.int x,.int L,.int R] vs →
   (∀ its' h' tk,KX (fun z=>z=D) s.heap h'→h'.PlainList D its'→RdL h' off (zQ (put cur L R n x)) its'.toList→Q .none { s with heap:=h',toks:=tk })→wpAny (model pw w) A (call (.ref f) vs) Q E s:=by
 intro m
 induction m with
 | zero=>intro L R h1 h2;exact absurd (Nat.lt_of_lt_of_le (Nat.sub_pos_of_lt h2) h1) (Nat.lt_irrefl 0)
 | succ m ih =>
  intro L R h1 hLR A E off s vs Q x cur its hR hc32 hx room G ol oD X p rc r q
  have S:∀ n,Snd w (m + 1) cx0 n:=snd (yZ w (m + 1))
  obtain ⟨c2,cl2⟩:=Option.isSome_iff_exists.mp hcl.2.1
  refine zZi (k:=m + 1) (names:=["x","L","R"]) X.clo (zKi hcl) (fun doc pm c ct vs h=>yWr _ _ _ _ _ _ vs h) room G ol r rfl fun env h₁ tk ecs eL hk a=>?_
  apply bc;intro hQ;rcases (X.keep (.of hk)).digits with ⟨c1,a1,a4⟩;rcases (X.keep (.of hk)).width with ⟨c3,t,a3,a6⟩;refine hQ ?_;clear hQ
  have a:=(a.free (x:="a_digits") (X:=.ref D) (by rfl) (by rw [ecs];exact a1) a4 (Rd.ref D)).free (x:="n") (X:=.int n) (by rfl) (by rw [ecs];exact a3) a6 (Rd.int _ _)
  have cl2':env.cells.lookup ("inner":Str)=some c2:=by rw [ecs];exact cl2
  have hL:s.heap.get? env.locals=none:=by rw [eL];exact xj _
  have hint:interactive env=false:=by unfold interactive;rw [a.en.scope,a.en.kind];rfl
  clear a1 a4 a3 a6
  show wpAny _ _ (execs [Stmt.If _ [Stmt.Assign [Expr.Subscript (Expr.Name _ _) (Expr.Name _ _) _] (Expr.Name _ _) _,Stmt.Return none _] [] _,Stmt.Assign [Expr.Name _ _] _ _,Stmt.Assign [Expr.Name _ _] _ _,Stmt.Assign [Expr.Name _ _] _ _,Stmt.Assign [Expr.Name _ _] _ _,Stmt.Expr (Expr.Call (Expr.Name _ _) [_,_,_] [] _) _,Stmt.Expr (Expr.Call (Expr.Name _ _) [_,_,_] [] _) _] env) _ _ _
  refine wpAny_execs_cons (wpAny_If ((S 20).tst a (b0:=decide (L + 1=R)) ?_ fun h2 tk2 e2=>?_))
  ·conv=>whnf
   rw [yQz]
   exact Bool.false_bne _
  have b2:=a.keep (tk:=tk2) e2
  have k2:=(Keep.of hk).trans e2
  by_cases hb:L + 1=R
  ·rw [decide_eq_true hb]
   refine wpAny_execs_cons (wpAny_Assign_Subscript ((S 20).int b2 (i:=x) (by conv=>whnf) fun t3 h3 tk3 e3=>(S 20).val (b2.keep e3) (V0:=.ref D) (by conv=>whnf) fun v2 h4 tk4 e4 r4=>(S 20).int ((b2.keep e3).keep e4) (i:=L) (by conv=>whnf) fun t5 h5 tk5 e5=>?_) (by rfl))
   rw [r4]
   have k5:=k2.trans ((e3.trans e4).trans e5)
   obtain ⟨nn,hp5⟩:=PlainList.keep p k5
   have hlen:cur.length=its.size:=by have:=rc.length;rw [Array.length_toList,zQ,List.length_map] at this;exact this.symm
   have hl:L < its.size:=by rw [← hlen];exact Nat.lt_of_lt_of_le hLR hR
   have kx:KX (fun z=>z=D) s.heap (h5.update D (Obj.mapSeq (·.setIfInBounds L (.int x t3)))):=(KX.of k5).trans (KX.but rfl (Soft.plain ⟨nn,hp5⟩) fun b o hb e=>(Heap.SameBut.update ..).extBut b o hb e)
   refine ki_setAt (n:=nn) hp5 (Int.natCast_nonneg _) (by lia) (by lia) (wpAny_execs_cons (wpAny_Return_none (q (its.setIfInBounds L (.int x t3)) _ _ kx ⟨_,Heap.get?_update_self _ hp5 rfl⟩ ?_)))
   ·rw [← hb,yXf (hlen ▸ hl),show (its.setIfInBounds L (.int x t3)).toList=its.toList.set L (.int x t3) by simp]
    exact zKh (rc.move (kx.seqs oD) fun _ z=>z) (Rd.int _ _)
  ·rw [decide_eq_false hb]
   have ⟨M,hM,hM1,hM2⟩:∃ M,(L + R) / 2=M∧L < M∧M < R:=⟨_,rfl,by lia,by lia⟩
   have hMl:M≤cur.length:=Nat.le_trans (Nat.le_of_lt hM2) hR
   refine wpAny_execs_nil (wpAny_execs_cons (wpAny_Assign_Name ((S 20).int b2 (i:=(M:Int)) ?_ fun t h3 tk3 e3=>?_) (zY (by rfl) _ _ _)))
   ·conv=>whnf
    exact ⟨by decide,by rw [zKe,hM]⟩
   refine vy (b2.keep (tk:=tk3) e3) (k2.trans e3) hL (x:="mid") (X:=.int (M:Int)) (by rfl) (by rfl) (Rd.int _ _) fun h4 tk4 b4 k4=>?_
   clear b2 a
   have ⟨sh,hshe⟩:∃ sh,n * (M - L)=sh:=⟨_,rfl⟩
   refine wpAny_execs_cons (wpAny_Assign_Name ((S 20).int b4 (i:=(sh:Nat)) ?_ fun t h5 tk5 e5=>?_) (zY (by rfl) _ _ _))
   ·conv=>whnf
    exact ⟨zZk n hM1 (Nat.le_trans hMl hc32),by rw [zZj n hM1,hshe]⟩
   refine vy (b4.keep (tk:=tk5) e5) (k4.trans e5) hL (x:="shift") (X:=.int (sh:Nat)) (by rfl) (by rfl) (Rd.int _ _) fun h6 tk6 b6 k6=>?_
   clear b4
   refine wpAny_execs_cons (wpAny_Assign_Name ((S 20).int b6 (i:=((x / 2 ^ sh:Nat):Int)) ?_ fun t h7 tk7 e7=>?_) (zY (by rfl) _ _ _))
   ·conv=>whnf
    exact ⟨Int.natCast_nonneg _,congrArg V.int (yWs x sh)⟩
   refine vy (b6.keep (tk:=tk7) e7) (k6.trans e7) hL (x:="upper") (X:=.int ((x / 2 ^ sh:Nat):Int)) (by rfl) (by rfl) (Rd.int _ _) fun h8 tk8 b8 k8=>?_
   clear b6
   refine wpAny_execs_cons (wpAny_Assign_Name ((S 20).int b8 (i:=((x % 2 ^ sh:Nat):Int)) ?_ fun t h9 tk9 e9=>?_) (zY (by rfl) _ _ _))
   ·conv=>whnf
    exact ⟨Int.natCast_nonneg _,by rw [← hshe];exact yXg hx hn (Nat.le_trans (Nat.sub_le _ _) (Nat.le_trans hMl hc32)),by rw [Int.toNat_natCast,← yXd];norm_cast⟩
   refine vy (b8.keep (tk:=tk9) e9) (k8.trans e9) hL (x:="lower") (X:=.int ((x % 2 ^ sh:Nat):Int)) (by rfl) (by rfl) (Rd.int _ _) fun h10 tk10 b10 k10=>?_
   clear b8
   refine wpAny_execs_cons (wpAny_Expr (uy S b10 (n:=20) (L:=[.int ((x % 2 ^ sh:Nat):Int),.int L,.int M]) (by rfl) cl2' ((X.keep k10).cell cl2) (X.keep k10).clo (by rfl) (by conv=>whnf) fun vs2 h11 tk11 e11 b11 r11=>?_) hint rfl)
   have k11:=k10.trans e11
   refine ih L M (by lia) hM1 _ _ off _ vs2 _ (x % 2 ^ sh) cur its hMl hc32 (Nat.lt_of_le_of_lt (Nat.mod_le _ _) hx) b11.room b11.glb b11.old oD (X.keep k11) (PlainList.keep p k11) (rc.keep k11) r11 fun its12 h12 tk12 kx12 p12 r12=>?_
   have b12:=b11.kx (tk:=tk12) kx12 (PlainList.keep p k11) p12 oD gD
   have X12:=(X.keep k11).kx kx12 (PlainList.keep p k11)
   have hpl:(put cur L M n (x % 2 ^ sh)).length=cur.length:=yXe (Nat.le_of_lt hM1) hMl
   refine wpAny_execs_cons (wpAny_Expr (uy S b12 (n:=20) (L:=[.int ((x / 2 ^ sh:Nat):Int),.int M,.int R]) (by rfl) cl2' (X12.cell cl2) X12.clo (by rfl) (by conv=>whnf) fun vs3 h13 tk13 e13 b13 r13=>?_) hint rfl)
   exact ih M R (by lia) hM2 _ _ off _ vs3 _ (x / 2 ^ sh) (put cur L M n (x % 2 ^ sh)) its12 (hpl.symm ▸ hR) (hpl.symm ▸ hc32) (Nat.lt_of_le_of_lt (Nat.div_le_self _ _) hx) b13.room b13.glb b13.old oD (X12.keep e13) (PlainList.keep p12 e13) (r12.keep e13) r13 fun its14 h14 tk14 kx14 p14 r14 =>
    wpAny_execs_nil (q its14 h14 tk14 (((KX.of k11).trans kx12).trans ((KX.of e13).trans kx14)) p14 (by rw [← hshe,zKg hM1 hM2 hR] at r14;exact r14))
section
variable {w:World} {A:Around} {E:Value→Shared→Prop} {off₀:Addr→Prop} {s₀ s:Shared} {k n:Nat} {sc:Scope} {env:Env} {ρ:SRho} {c:Cx} {m cm:Str→Option Value} {ad:Str→Addr}
theorem zQj {off offx:Addr→Prop} {hx:Heap} {K:Kp} {Q:Value→Shared→Prop} {f:Flow} {s':Shared} (G:Glb w s.heap) (q:Res off s K Q) (o:Out w k A (gh s) sc env off offx hx (fun _=>K .none) K (fun _=>False) f s'):Q (match (generalizing:=false) f with | .ret v=>v | _=>.none) s':=by
 cases f with
 | next =>
  apply bc;intro hQ;rcases o with ⟨ρ',m',cm',ad',k1,F',_⟩;rcases F'.kp G with ⟨kp,e⟩;refine hQ ?_;clear hQ
  rw [e];exact q .none .none _ _ k1 kp Rd.none
 | brk=>apply bc;intro hQ;rcases o with ⟨ρ',m',cm',ad',k1,_⟩;refine hQ ?_;clear hQ;exact k1.elim
 | cont=>exact o.elim
 | ret v =>
  apply bc;intro hQ;rcases o with ⟨X,k1,rd,h',tk,e,kp,t⟩;refine hQ ?_;clear hQ
  rw [e] at rd ⊢
  exact q X v h' tk k1 (kpt G h' kp t) rd
theorem Fr.kx (F:Fr w k A s₀ sc env off₀ ρ m cm ad s) {x:Str} {l l':List V} {h':Heap} {tk:Nat} {its':Array Value} {o:Addr→Prop} (hx:ρ.lookup x=some (.own l)) (kx:KX (fun z=>z=ad x) s.heap h') (p':h'.PlainList (ad x) its') (hf:l'.all vq=true) (r':RdL h' o l' its'.toList) :
  Fr w k A s₀ sc env off₀ (setS x (.own l') ρ) m cm ad { s with heap:=h',toks:=tk }:=by
 apply bc;intro hQ;rcases F.slots x _ hx with ⟨g0,g1,items,g2,g3⟩;refine hQ ?_;clear hQ
 have oD:offF off₀ ρ ad (ad x):=.inr ⟨x,l,hx,rfl⟩
 have off_eq:∀ a,offF off₀ (setS x (.own l') ρ) ad a→offF off₀ ρ ad a:=fun a q=>q.imp _root_.id fun ⟨y,l1,h1,h2⟩=>by
  rw [zZ] at h1
  split at h1
  ·rename_i hy;subst hy;exact ⟨y,l,hx,h2⟩
  ·exact ⟨y,l1,h1,h2⟩
 have sq:=kx.seqs oD
 refine ⟨F.room,F.en,⟨⟨?_,?_,fun b o e=>kx.obj b o (by rintro rfl;rw [g0] at e;contradiction) (F.call.toInCall.keep b o e) (.inl (F.nh e)),F.call.toInCall.fresh⟩,fun kk cc hc=>?_,F.call.apart,F.call.above⟩,F.glb,kx.inv F.tab,F.old,fun y sl hy=>?_,xV F.nd,fun y z l1 l2 h1 h2 e=>?_,F.hid⟩
 ·apply bc;intro hQ;rcases F.call.toInCall.same with ⟨h₁,tk',e⟩;refine hQ ?_;clear hQ
  exact ⟨h',tk,by rw [e]⟩
 ·have h1:=F.call.toInCall.ns
  refine h1.at' fun o e=>kx.obj _ o (wZ g2 e fun vs nn d=>?_) e (.nf fun vs d=>?_)
  ·apply bc;intro hQ;rcases xk h1 e with ⟨es,ep,q2⟩;refine hQ ?_;clear hQ
   rw [q2] at d;contradiction
  ·apply bc;intro hQ;rcases xk h1 e with ⟨es,ep,q2⟩;refine hQ ?_;clear hQ
   rw [q2] at d;contradiction
 ·apply bc;intro hQ;rcases F.call.cell kk cc hc with ⟨o,h6,h7⟩;refine hQ ?_;clear hQ
  exact ⟨o,kx.obj _ _ (wZ g2 h6 fun vs nn d=>by rw [h7] at d;contradiction) h6 (.nf fun vs d=>by rw [h7] at d;contradiction),h7⟩
 ·rw [zZ] at hy
  split at hy
  ·rename_i hyx
   (injection hy with hy;subst hy);subst hyx
   exact ⟨g0,g1,its',p',mj hf r'⟩
  ·rename_i hyx
   have so:=F.slots y sl hy
   cases sl with
   | un=>trivial
   | val Y=>apply bc;intro hQ;rcases so with ⟨u,h3,h4⟩;refine hQ ?_;clear hQ;exact ⟨u,h3,h4.move sq off_eq⟩
   | own l1 =>
    apply bc;intro hQ;rcases so with ⟨q0,h3,items',⟨n2,h4⟩,h5⟩;refine hQ ?_;clear hQ
    exact ⟨q0,h3,items',⟨n2,kx.obj _ _ (fun e=>hyx (F.inj y x _ _ hy hx e)) h4 (.ty rfl)⟩,h5.move sq off_eq⟩
 ·rw [zZ] at h1 h2
  have o1:∃ l,ρ.lookup y=some (.own l):=by
   split at h1
   ·rename_i hyx;subst hyx;exact ⟨_,hx⟩
   ·exact ⟨_,h1⟩
  have o2:∃ l,ρ.lookup z=some (.own l):=by
   split at h2
   ·rename_i hyx;subst hyx;exact ⟨_,hx⟩
   ·exact ⟨_,h2⟩
  apply bc;intro hQ;rcases o1 with ⟨_,o1⟩;rcases o2 with ⟨_,o2⟩;refine hQ ?_;clear hQ
  exact F.inj y z _ _ o1 o2 e
end
theorem vJ {x y:Int} (h:y.natAbs < 2 ^ 1000):divisionGoesByPylong x y=false:=by
 unfold divisionGoesByPylong
 dsimp only
 have:(if (y == 0)=true then 0 else y.natAbs.log2 / 30 + 1)≤300:=by
  split
  ·lia
  ·rename_i h0
   have h0:y.natAbs≠0:=by
    intro e;exact h0 (by rw [beq_iff_eq];lia)
   have:=(Nat.log2_lt h0).mpr h
   lia
 rw [decide_eq_false (by lia),Bool.false_and]
noncomputable def cntD (a n:Nat):Nat:=(Builtin.Int.intBits (a:Int) + n - 1) / n
theorem zYk (n:Nat):cntD 0 n=0:=by
 unfold cntD
 have:Builtin.Int.intBits ((0:Nat):Int)=0:=rfl
 rw [this]
 rcases n with _ | n
 ·rfl
 ·exact Nat.div_eq_of_lt (by lia)
inductive g4 (l:List V) (K:Kp):Prop where
 | mk (a n:Nat) (h0:l=[.int a,.int n]) (h1:a < 2 ^ 4096) (h2:0 < n) (h3:n≤64) (h4:cntD a n≤32) (h5:K (.lst (zQ (digN n (cntD a n) a))))
theorem zYl {a n:Nat} (hn:0 < n):Int.fdiv ((Builtin.Int.intBits (a:Int):Int) + n - 1) (n:Int)=(cntD a n:Nat):=by
 rw [Int.fdiv_eq_ediv_of_nonneg _ (by lia)]
 rw [show ((Builtin.Int.intBits (a:Int):Int) + n - 1)=((Builtin.Int.intBits (a:Int) + n - 1:Nat):Int) from isub (a:=Builtin.Int.intBits (a:Int) + n) (b:=1) (Nat.le_trans hn (Nat.le_add_left _ _))];norm_cast
theorem yXh {a n:Nat} (hn:0 < n) (ha:a≠0):0 < cntD a n:=by
 refine Nat.div_pos ?_ hn
 have:0 < Builtin.Int.intBits (a:Int):=by
  unfold Builtin.Int.intBits
  rw [show ((a:Int) == 0)=false by rw [beq_eq_false_iff_ne];lia]
  exact Nat.succ_pos _
 exact Nat.le_sub_one_of_lt (Nat.lt_add_of_pos_left this)
theorem zKj (m:Nat):(List.replicate m [V.int 0]).flatten=zQ (List.replicate m 0):=by
 unfold zQ
 rw [List.map_replicate]
 induction m with
 | zero=>rfl
 | succ m ih=>rw [List.replicate_succ,List.flatten_cons,ih,List.replicate_succ];rfl
theorem cq (l:List Nat):(zQ l).all vq=true:=by unfold zQ;induction l with | nil=>rfl | cons x r ih=>rw [List.map_cons,List.all_cons,ih];rfl
theorem yXi (c n a:Nat):put (List.replicate c 0) 0 c n a=digN n c a:=by
 unfold put
 rw [List.take_zero,List.nil_append,Nat.sub_zero,List.drop_of_length_le (by rw [List.length_replicate];exact Nat.le_refl _),List.append_nil]
theorem zKk:(inSc 4).names=([("x",.local),("L",.local),("R",.local),("mid",.local),("shift",.local),("upper",.local),("lower",.local),("a_digits",.free),("inner",.free),("n",.free)]:List (Str×NameKind)):=by rfl
theorem lQ {x:Str}:(x,NameKind.free)∈(inSc 4).names ↔ x="a_digits"∨x="inner"∨x="n":=by
 rw [zKk];simp
section
variable {w:World} {A:Around} {E:Value→Shared→Prop} {off:Addr→Prop} {s s5:Shared} {env:Env} {m cm:Str→Option Value} {ad:Str→Addr} {K:Kp} {Q:Value→Shared→Prop}
theorem Fr.own_new {k:Nat} {sc:Scope} {ρ:SRho} {x:Str} {l:List V} (F:Fr w k A (gh s) sc env off ρ m cm ad s5) (hx:ρ.lookup x=some (.own l)):(tG w.params).get (ad x)=none:=by
 apply bc;intro hQ;rcases F.slots x _ hx with ⟨g0,g1,items,⟨nn,g2⟩,g3⟩;refine hQ ?_;clear hQ
 cases e:(tG w.params).get (ad x) with
 | none=>rfl
 | some o =>
  cases hh:Hid (ad x) with
  | false=>have:=(F.glb _ _ e).2 hh;rw [g0] at this;contradiction
  | true =>
   obtain ⟨ps,e2⟩:=yQ F.tab hh
   rw [g2] at e2;cases e2
noncomputable def rho4 (a n:Nat) (l:List V) (x:Slt):SRho:=[("a",.val (.int a)),("n",.val (.int n)),("a_digits",.own l),("inner",x)]
theorem yWu {a n:Nat} {l:List V} {x:Slt} {p1 p2:Pos} (F:Fr w 39 A (gh s) (fdSc 4) env off (rho4 a n l x) m cm ad s5) (G:Glb w s.heap) (q:Res off s K Q) (kk:K (.lst l)) :
  wpAny (model pw w) A (execs [Stmt.Return (some (Expr.Name "a_digits" p1)) p2] env) (fun f s'=>Q (match f with | .ret v=>v | _=>.none) s') E s5:=by
 refine wpAny_execs_cons (yQu (snd (yZ w 39)) (n:=20) F (vs:=["a_digits"]) (Kr:=K) (Kn:=fun _=>K .none) (Kb:=fun _=>False) (off:=fun _=>False) (h:=s5.heap) ?_ fun f s6 o6=>?_)
 ·conv=>whnf
  exact kk
 cases f with
 | next=>exact wpAny_execs_nil (zQj (f:=.next) G q o6)
 | brk=>exact zQj (f:=.brk) G q o6
 | cont=>exact o6.elim
 | ret v=>exact zQj G q o6
end
theorem f4 (w:World):FnOk w 40 35 g4:=by
 intro A E off s l vs K Q room G ol r ⟨a,n,e,ha,hn0,hn,hcn32,kk⟩ q
 rw [e] at r
 refine qx (k:=39) (at4 w) (names:=["a","n"]) (locs:=["a_digits","inner"]) (by rfl) (xZk _) room G ol r rfl fun env m cm ad s₁ eE F=>?_
 have S:∀ n,Snd w 39 cx0 n:=snd (yZ w 39)
 show wpAny _ _ (execs [Stmt.Assign [Expr.Name "a_digits" _] _ _,inSt 4,Stmt.If _ [Stmt.Expr (Expr.Call (Expr.Name _ _) [_,_,_] [] _) _] [] _,Stmt.Return (some _) _] env) _ _ _
 apply bc;intro hQ;rcases nZ F.en (x:="a_digits") (by rfl) with ⟨cd,hcd⟩;rcases nZ F.en (x:="inner") (by rfl) with ⟨ci,hci⟩;rcases nZ F.en (x:="n") (by rfl) with ⟨cn,hcn⟩;refine hQ ?_;clear hQ
 have hcl:closureFor (inSc 4) env=pure (pV env.cells (inSc 4).names []):=xz fun x hx=>by
  rcases lQ.mp hx with e | e | e <;> rw [e]
  ·exact ⟨_,hcd⟩
  ·exact ⟨_,hci⟩
  ·exact ⟨_,hcn⟩
 have l1:=wX hcd (inSc 4).names [] (.inl rfl) (.inl (lQ.mpr (.inl rfl)))
 have l2:=wX hci (inSc 4).names [] (.inl rfl) (.inl (lQ.mpr (.inr (.inl rfl))))
 have l3:=wX hcn (inSc 4).names [] (.inl rfl) (.inl (lQ.mpr (.inr (.inr rfl))))
 generalize pV env.cells (inSc 4).names []=clos at hcl l1 l2 l3
 have ⟨c,hc⟩:∃ c,cntD a n=c:=⟨_,rfl⟩
 rw [hc] at hcn32 kk
 refine wpAny_execs_cons (iw S (n:=20) F (by rfl) (by rfl) (Kn:=fun ρ'=>ρ'=rho4 a n (zQ (List.replicate c 0)) .un) (Kr:=fun _=>False) (Kb:=fun _=>False) ?_ fun f s' o=>?_)
 ·conv=>whnf
  refine ⟨Nat.le_of_ble_eq_true rfl,?_⟩
  conv=>whnf
  refine ⟨by lia,vJ (by rw [Int.natAbs_natCast];exact Nat.lt_of_le_of_lt hn (by decide)),?_⟩
  conv=>whnf
  rw [zYl hn0,hc]
  refine ⟨by lia,by lia,by rw [Int.toNat_natCast];show 1 * _≤_;lia,?_⟩
  rw [Int.toNat_natCast,zKj]
  dsimp only
  show onT ((zQ _).all vq) _
  rw [cq]
  rfl
 ·cases f with
  | brk=>apply bc;intro hQ;rcases o with ⟨_,_,_,_,e,_⟩;refine hQ ?_;clear hQ;exact e.elim
  | cont=>exact o.elim
  | ret v=>apply bc;intro hQ;rcases o with ⟨_,e,_⟩;refine hQ ?_;clear hQ;exact e.elim
  | next =>
   apply bc;intro hQ;rcases o with ⟨ρ',m1,cm1,ad1,e,F1,_⟩;refine hQ ?_;clear hQ
   rw [e] at F1
   clear F e
   refine wpAny_execs_cons (zJ9 (i:=4) (c:=34) (P:=30) (ln:=32) (qual:="_int2digits.<locals>.inner") F1.glbs (by rfl) (by rfl) (by rfl) (by rfl) (by rw [eE];kernel_rfl) F1.en.glob (by rw [eE];kernel_rfl) (xZr F1.glbs) ⟨by decide,by decide⟩ rfl ⟨by rfl,by rfl⟩ F1.tab.1 (fun h' hh=>?_) hcl fun f h' tk e1 cl=>?_)
   ·rcases hh with hh | ⟨kb,hi⟩
    ·exact hh.inv F1.tab
    ·exact ⟨hi,F1.tab.2.other F1.tab.1 (by decide) kb⟩
   ·have F2:=F1.keep (tk:=tk) e1
    refine F2.storeRaw (by rfl) fun h2 tk2 m2 cm2 B2 st2=>?_
    have cl2:Clo h2 f 4 "_int2digits.<locals>.inner" clos:=cl.stored F2 st2
    have F4:Fr w 39 (A.deeper env) (gh s) (fdSc 4) env off (rho4 a n (zQ (List.replicate c 0)) (.val (.ref f))) m2 cm2 ad1 { s' with heap:=h2,toks:=tk2 }:=F2.setVal (X:=.ref f) (Rd.ref f) st2
    clear hcl e1 cl st2 F2 F1 eE
    refine wpAny_execs_cons (wpAny_If ((S 20).tst (F4.at' ["a_digits"]) (b0:=((a:Int) != 0)) (by conv=>whnf) fun h4 tk4 e4=>?_))
    have F5:=F4.keep (tk:=tk4) e4
    by_cases ha0:a=0
    ·rw [show ((a:Int) != 0)=false by rw [ha0];rfl]
     rw [ha0,zYk] at hc
     rw [← hc] at kk F5
     exact wpAny_execs_nil (yWu F5 G q kk)
    ·rw [show ((a:Int) != 0)=true by rw [bne_iff_ne];lia]
     have y2:h4.IsCell ci (some (.ref f)):=by
      apply bc;intro hQ;rcases F5.cellVal (x:="inner") (by rfl) (by rfl) hci [] with ⟨v2,y2,y3⟩;refine hQ ?_;clear hQ
      exact y3 ▸ y2
     have ⟨t3,z2⟩:∃ t,h4.IsCell cn (some (.int n t)):=by
      apply bc;intro hQ;rcases F5.cellVal (x:="n") (by rfl) (by rfl) hcn [] with ⟨v3,z2,z3⟩;rcases z3.int_inv with ⟨t3,e⟩;refine hQ ?_;clear hQ
      exact ⟨t3,e ▸ z2⟩
     have X5:Ctx4 h4 f clos n (ad1 "a_digits"):=by
      apply bc;intro hQ;rcases F5.slots "a_digits" _ (by rfl) with ⟨_,g1,_⟩;refine hQ ?_;clear hQ
      exact ⟨cl2.keep e4,cd,ci,cn,t3,l1,l2,l3,F5.cellHas g1 (by rfl) hcd,y2,z2⟩
     refine wpAny_execs_cons (wpAny_Expr (uy S (F5.at' ["a_digits"]) (n:=20) (L:=[.int a,.int (0:Nat),.int (c:Nat)]) (by rfl) hci y2 X5.clo (by rfl) ?_ fun vs2 h7 tk7 e7 _ r7=>?_) (by unfold interactive;rw [F5.en.scope,F5.en.kind];rfl) rfl)
     ·have hlen:(zQ (List.replicate c 0)).length=c:=by unfold zQ;rw [List.length_map,List.length_replicate]
      conv=>whnf
      refine ⟨by rw [hlen];lia,?_⟩
      conv=>whnf
      rw [hlen];rfl
     have F7:=F5.keep (tk:=tk7) e7
     apply bc;intro hQ;rcases F5.slots "a_digits" _ (by rfl) with ⟨_,_,items,g2,g3⟩;refine hQ ?_;clear hQ
     refine yWt (f:=f) (clos:=clos) (D:=ad1 "a_digits") (n:=n) ⟨by rw [l1];rfl,by rw [l2];rfl,by rw [l3];rfl⟩ hn (F7.own_new (x:="a_digits") (by rfl)) c 0 c (Nat.le_refl _) (hc ▸ yXh hn0 ha0) _ _ _ _ vs2 _ a (List.replicate c 0) items (Nat.le_of_eq (List.length_replicate ..).symm) (by rw [List.length_replicate];exact hcn32) ha (F7.room.le (by lia)) F7.glbs F7.ownOld (.inr ⟨"a_digits",_,by rfl,rfl⟩) (X5.keep e7) (PlainList.keep g2 e7) (g3.keep e7) (mj (by rfl) r7) fun its9 h9 tk9 kx9 p9 r9=>?_
     rw [yXi] at r9
     exact wpAny_execs_nil (yWu (F7.kx (x:="a_digits") (by rfl) kx9 p9 (cq _) r9) G q kk)
noncomputable def cx6:Cx:={ cx0 with fn:=fnOf [("_int2digits",g4),("_div2n1n",g2),("_digits2int",g5)],fg:=fgOf [("a_digit",["a_digit","q_digit"])] }
theorem yWv (w:World):CxOk w 45 cx6:=⟨fun f g h=>(jX (fun p hp=>by
 rcases List.mem_cons.mp hp with rfl | hp
 ·exact ⟨4,35,_,at4 w,(f4 w).le (by lia)⟩
 ·rcases List.mem_cons.mp hp with rfl | hp
  ·exact ⟨2,21,_,at2 w,(f2 w).le (by lia)⟩
  ·rcases List.mem_singleton.mp hp with rfl
   exact ⟨5,42,_,at5 w,(f5 w).le (by lia)⟩) f g h).use,(yZ w 45).gv,(yZ w 45).ext⟩
noncomputable def horn (n:Nat) (qs:List Nat):Nat:=qs.foldl (fun acc q=>acc * 2 ^ n + q) 0
theorem zYm (n:Nat) (qs:List Nat):valD n qs.reverse=horn n qs:=by
 have:∀ (qs:List Nat) (acc:Nat),qs.foldl (fun acc q=>acc * 2 ^ n + q) acc=acc * 2 ^ (n * qs.length) + valD n qs.reverse:=by
  intro qs
  induction qs with
  | nil=>intro acc;simp [valD]
  | cons q r ih =>
   intro acc
   rw [List.foldl_cons,ih,List.reverse_cons,tV,List.length_reverse,List.length_cons]
   simp only [valD,Nat.mul_zero,Nat.add_zero]
   rw [Nat.mul_succ,Nat.pow_add,Nat.add_mul,Nat.mul_comm (2 ^ (n * r.length)) q,Nat.mul_assoc,Nat.mul_comm (2 ^ n)]
   lia
 unfold horn
 rw [this];simp
theorem cz (n:Nat):∀ (c a:Nat),0 < c→valD n (digN n c a)=a
 | 0,a,h=>by lia
 | 1,a,_=>by rw [oX];simp [valD]
 | c + 2,a,_=>by
  have e:c + 2=1 + (c + 1):=by lia
  rw [e,nJ n 1 (c + 1) a (by decide) (by lia),oX,tV,cz n (c + 1) _ (by lia)]
  simp only [valD,Nat.mul_zero,Nat.add_zero,List.length_singleton,Nat.mul_one]
  have:=Nat.mod_add_div a (2 ^ n)
  lia
theorem zQk (a:Nat):a < 2 ^ Builtin.Int.intBits (a:Int):=by
 unfold Builtin.Int.intBits
 by_cases h:a=0
 ·subst h;decide
 ·rw [show ((a:Int) == 0)=false by rw [beq_eq_false_iff_ne];lia]
  show a < 2 ^ ((a:Int).natAbs.log2 + 1)
  rw [Int.natAbs_natCast]
  exact Nat.lt_log2_self
theorem yXj {n c a:Nat} (h:a < 2 ^ (n * c)):∀ d∈digN n c a,d < 2 ^ n:=by
 intro d hd
 apply bc;intro hQ;rcases List.mem_map.mp hd with ⟨i,hi,rfl⟩;refine hQ ?_;clear hQ
 rw [List.mem_range] at hi
 split
 ·rename_i e
  rw [Nat.div_lt_iff_lt_mul (Nat.two_pow_pos _),← Nat.pow_add]
  have:n + n * i=n * c:=by rw [← e,Nat.mul_succ];lia
  rw [this];exact h
 ·exact Nat.mod_lt _ (Nat.two_pow_pos _)
noncomputable abbrev S6 (a b n:Nat) (dv:List V) (r:Nat) (qs:Slt) (x y z:Slt):SRho:=[("a",.val (.int a)),("b",.val (.int b)),("n",.val (.int n)),("a_digits",.val (.lst dv)),("r",.val (.int r)),("q_digits",qs),("a_digit",x),("q_digit",y),("q",z)]
theorem xs6 (a b:Nat) (ha:a < 2 ^ 4096) (hb0:0 < b) (hb:b < 2 ^ 64) (hc:cntD a (Builtin.Int.intBits (b:Int))≤16) (K:Kp) (k:K (.tup [.int (a / b:Nat),.int (a % b:Nat)])) :
  xs cx6 (fdSc 6) ["q_digits"] 40 (fdB 6) (wW ["a","b"] [.int a,.int b] ["n","a_digits","r","q_digits","a_digit","q_digit","q"]) (fun _=>K .none) K (fun _=>False):=by
 generalize hn:Builtin.Int.intBits (b:Int)=n at hc
 have hn0:0 < n:=by
  rw [← hn];unfold Builtin.Int.intBits
  rw [show ((b:Int) == 0)=false by rw [beq_eq_false_iff_ne];lia]
  exact Nat.succ_pos _
 have hn64:n≤64:=by rw [← hn];exact tW hb
 have hlt:=zQk a
 have hcn:a < 2 ^ (n * cntD a n):=by
  refine Nat.lt_of_lt_of_le hlt (Nat.pow_le_pow_right (by decide) ?_)
  unfold cntD
  have h1:=Nat.div_add_mod (Builtin.Int.intBits (a:Int) + n - 1) n
  have h2:=Nat.mod_lt (Builtin.Int.intBits (a:Int) + n - 1) hn0
  exact Nat.le_of_add_le_add_right (b:=n - 1) (Nat.le_trans (Nat.le_of_eq ((Nat.add_sub_assoc hn0 _).symm.trans h1.symm)) (Nat.add_le_add_left (Nat.le_sub_one_of_lt h2) _))
 have hdl:=yXj hcn
 have hlen:=fz n (cntD a n) a
 have hval:valD n (digN n (cntD a n) a)=a:=by
  by_cases h:cntD a n=0
  ·have h2:a=0:=by rw [h,Nat.mul_zero] at hcn;lia
   rw [h,h2];rfl
  ·exact cz n _ _ (by lia)
 conv=>whnf
 rw [hn]
 refine ⟨a,n,rfl,ha,hn0,hn64,by lia,?_⟩
 generalize digN n (cntD a n) a=D at hdl hlen hval ⊢
 conv=>whnf
 refine ⟨Nat.zero_le _,?_⟩
 conv=>whnf
 refine yk (fun rest ρ=>∃ (ds qs:List Nat) (r:Nat) (x y:Slt),rest=zQ ds∧ρ=S6 a b n (zQ D) r (.own (zQ qs)) x y .un∧r < b∧ds.length + qs.length=D.length∧(∀ d∈ds,d < 2 ^ n)∧(∀ d∈qs,d < 2 ^ n)∧a=valD n ds.reverse + 2 ^ (n * ds.length) * (horn n qs * b + r)) (fun ρ hI=>?_) (fun X Xs ρ hI=>?_) _ _ ?_
 ·apply bc;intro hQ;rcases hI with ⟨ds,qs,r,x,y,e1,rfl,h1,h2,h3,h4,h5⟩;refine hQ ?_;clear hQ
  have:ds=[]:=by unfold zQ at e1;exact List.map_eq_nil_iff.mp e1.symm
  subst this
  have h5:a=horn n qs * b + r:=by simpa [valD] using h5
  have hq:horn n qs=a / b:=by rw [h5,Nat.mul_comm,Nat.mul_add_div hb0,Nat.div_eq_of_lt h1,Nat.add_zero]
  have hr:r=a % b:=by rw [h5,Nat.mul_comm,Nat.mul_add_mod,Nat.mod_eq_of_lt h1]
  have hl:(zQ qs).length=qs.length:=by unfold zQ;rw [List.length_map]
  have hl2:qs.length=D.length:=by simpa using h2
  conv=>whnf
  refine ⟨by rw [hl,sizeLine_eq];lia,?_⟩
  conv=>whnf
  refine ⟨qs.reverse,n,by unfold zQ;rw [← List.map_reverse],by rw [List.length_reverse];lia,fun d hd=>Nat.lt_of_lt_of_le (h4 d (List.mem_reverse.mp hd)) (Nat.pow_le_pow_right (by decide) hn64),hn64,?_⟩
  rw [zYm,hq,hr]
  conv=>whnf
  refine ⟨Nat.le_of_ble_eq_true rfl,?_⟩
  exact k
 ·apply bc;intro hQ;rcases hI with ⟨ds,qs,r,x,y,e1,rfl,h1,h2,h3,h4,h5⟩;refine hQ ?_;clear hQ
  cases ds with
  | nil=>contradiction
  | cons d ds =>
   unfold zQ at e1
   rw [List.map_cons,List.cons.injEq] at e1
   apply bc;intro hQ;rcases e1 with ⟨rfl,rfl⟩;refine hQ ?_;clear hQ
   refine ⟨S6 a b n (zQ D) r (.own (zQ qs)) (.val (.int d)) .un .un,rfl,fun kn hk=>?_⟩
   have hr64:r < 2 ^ 64:=by lia
   have hd64:d < 2 ^ n:=h3 d List.mem_cons_self
   have hbits:=tW hr64
   conv=>whnf
   refine ⟨Int.natCast_nonneg _,by lia,?_⟩
   have hval2:((r:Int) * 2 ^ (Int.toNat (n:Int)) + (d:Int))=((r * 2 ^ n + d:Nat):Int):=by rw [Int.toNat_natCast];push_cast;rfl
   conv=>whnf
   rw [hval2]
   have hle:r * 2 ^ n + d < b * 2 ^ n:=by
    have:(r + 1) * 2 ^ n≤b * 2 ^ n:=Nat.mul_le_mul_right _ h1
    rw [Nat.add_mul,Nat.one_mul] at this
    lia
   have hq2:(r * 2 ^ n + d) / b < 2 ^ n:=by
    rw [Nat.div_lt_iff_lt_mul hb0,Nat.mul_comm (2 ^ n) b];exact hle
   have hbx:r * 2 ^ n + d < 2 ^ 128:=by
    refine Nat.lt_of_lt_of_le hle ?_
    rw [show (2:Nat) ^ 128=2 ^ 64 * 2 ^ 64 by rw [← Nat.pow_add]]
    exact Nat.mul_le_mul (Nat.le_of_lt hb) (Nat.pow_le_pow_right (by decide) hn64)
   refine ⟨_,_,_,rfl,by have:=tW hbx;lia,by lia,vJ (by rw [Int.natAbs_natCast];exact Nat.lt_trans hb (by decide)),?_⟩
   rw [Int.fdiv_eq_ediv_of_nonneg _ (Int.natCast_nonneg _),Int.fmod_eq_emod_of_nonneg _ (Int.natCast_nonneg _),← Int.natCast_ediv,← Int.natCast_emod]
   conv=>whnf
   have hl:(zQ qs).length=qs.length:=by unfold zQ;rw [List.length_map]
   have hlt2:qs.length≤16:=by lia
   refine ⟨by rw [hl,sizeLine_eq];lia,?_⟩
   refine hk _ ⟨ds,qs++[(r * 2 ^ n + d) / b],(r * 2 ^ n + d) % b,.val (.int d),.val (.int (((r * 2 ^ n + d) / b:Nat):Int)),rfl,?_,Nat.mod_lt _ hb0,?_,fun e he=>h3 e (List.mem_cons_of_mem _ he),fun e he=>?_,?_⟩
   ·show S6 a b n (zQ D) ((r * 2 ^ n + d) % b) (.own (zQ qs++[V.int (((r * 2 ^ n + d) / b:Nat):Int)])) (.val (.int d)) (.val (.int (((r * 2 ^ n + d) / b:Nat):Int))) .un=_
    have:zQ (qs++[(r * 2 ^ n + d) / b])=zQ qs++[V.int (((r * 2 ^ n + d) / b:Nat):Int)]:=by unfold zQ;rw [List.map_append];rfl
    rw [this]
   ·rw [List.length_append];rw [List.length_cons] at h2;show _ + (_ + 1)=_;lia
   ·rcases List.mem_append.mp he with he | he
    ·exact h4 e he
    ·rw [List.mem_singleton.mp he];exact hq2
   ·have hh:horn n (qs++[(r * 2 ^ n + d) / b])=horn n qs * 2 ^ n + (r * 2 ^ n + d) / b:=by unfold horn;rw [List.foldl_append];rfl
    rw [hh]
    rw [List.reverse_cons,tV,List.length_reverse,List.length_cons] at h5
    simp only [valD,Nat.mul_zero,Nat.add_zero] at h5
    have hdm:=Nat.div_add_mod (r * 2 ^ n + d) b
    have e1:(horn n qs * 2 ^ n + (r * 2 ^ n + d) / b) * b + (r * 2 ^ n + d) % b=2 ^ n * (horn n qs * b + r) + d:=by
     rw [Nat.add_mul,Nat.mul_comm ((r * 2 ^ n + d) / b) b,Nat.add_assoc,hdm,Nat.mul_add,Nat.mul_comm (2 ^ n) r,← Nat.mul_assoc (2 ^ n),Nat.mul_comm (2 ^ n) (horn n qs),← Nat.add_assoc]
    rw [e1,h5,Nat.mul_succ,Nat.pow_add,Nat.mul_add (2 ^ (n * ds.length)),Nat.mul_assoc]
    lia
 ·refine ⟨D.reverse,[],0,.un,.un,by unfold zQ;rw [List.map_reverse],rfl,hb0,by simp,fun d hd=>hdl d (List.mem_reverse.mp hd),fun d hd=>(nm hd),?_⟩
  rw [List.reverse_reverse,hval];simp [horn]
inductive g6 (l:List V) (K:Kp):Prop where
 | mk (a b:Nat) (h0:l=[.int a,.int b]) (h1:a < 2 ^ 4096) (h2:0 < b) (h3:b < 2 ^ 64) (h4:cntD a (Builtin.Int.intBits (b:Int))≤16) (h5:K (.tup [.int (a / b:Nat),.int (a % b:Nat)]))
theorem f6 (w:World):FnOk w 46 49 g6 :=
 qj (snd (yWv w)) (SxOk.none rfl) (at6 w) (names:=["a","b"]) (locs:=["n","a_digits","r","q_digits","a_digit","q_digit","q"]) (by rfl) (xZm _) ["q_digits"] fun l K ⟨a,b,e,h1,h2,h3,h4,k⟩=>by subst e;exact ⟨rfl,40,xs6 a b h1 h2 h3 h4 K k⟩
noncomputable def Dok (a b:Nat):Prop:=a < 2 ^ 4096∧0 < b∧b < 2 ^ 64∧cntD a (Builtin.Int.intBits (b:Int))≤16
inductive g70 (l:List V) (K:Kp):Prop where
 | mk (a b:Nat) (h0:l=[.int a,.int b]) (h1:Dok a b) (h2:K (.tup [.int (a / b:Nat),.int (a % b:Nat)]))
inductive g71 (l:List V) (K:Kp):Prop where
 | mk (a:Int) (b:Nat) (h0:l=[.int a,.int b]) (h1:Dok (if 0≤a then a.toNat else (-a - 1).toNat) b) (h2:K (.tup [.int (a / b),.int (a % b)]))
inductive g7 (l:List V) (K:Kp):Prop where
 | mk (a b:Int) (h0:l=[.int a,.int b]) (h1:b≠0) (h2:Dok (if 0≤(if 0 < b then a else -a) then (if 0 < b then a else -a).toNat else (-(if 0 < b then a else -a) - 1).toNat) b.natAbs) (h3:K (.tup [.int (a.fdiv b),.int (a.fmod b)]))
noncomputable def cx7 (l:List (Str×(List V→Kp→Prop))):Cx:={ cx0 with fn:=fnOf l }
theorem zKl (w:World) (k:Nat) (l:List (Str×(List V→Kp→Prop))) (h:∀ p∈l,FnIn w k p.1 p.2):CxOk w k (cx7 l):=⟨fun f g e=>(jX h f g e).use,(yZ w k).gv,(yZ w k).ext⟩
theorem xs70 (a b:Nat) (h:Dok a b) (K:Kp) (k:K (.tup [.int (a / b:Nat),.int (a % b:Nat)])) :
  xs (cx7 [("_divmod_pos",g6)]) (fdSc 7) [] 40 (fdB 7) (wW ["a","b"] [.int a,.int b] ["q","r"]) (fun _=>K .none) K (fun _=>False):=by
 apply bc;intro hQ;rcases h with ⟨h1,h2,h3,h4⟩;refine hQ ?_;clear hQ
 conv=>whnf
 rw [show (false != ((b:Int) == 0))=false by rw [Bool.false_bne,beq_eq_false_iff_ne];lia]
 conv=>whnf
 exact ⟨a,b,rfl,h1,h2,h3,h4,k⟩
theorem f70 (w:World):FnOk w 47 56 g70 :=
 qj (snd (zKl w 46 [("_divmod_pos",g6)] fun p hp=>by rcases List.mem_singleton.mp hp with rfl;exact ⟨6,49,_,at6 w,f6 w⟩)) (SxOk.none rfl) (at7 w) (names:=["a","b"]) (locs:=["q","r"]) (by rfl) (zW6 _) [] fun l K ⟨a,b,e,h,k⟩=>by subst e;exact ⟨rfl,40,xs70 a b h K k⟩
theorem negs {a:Int} (h:a < 0):a=Int.negSucc (-a - 1).toNat:=by
 cases a with
 | ofNat n=>exact absurd h (Int.not_lt.mpr (Int.natCast_nonneg n))
 | negSucc m=>exact congrArg Int.negSucc (Int.toNat_sub (m + 1) 1).symm
theorem xs71 (a:Int) (b:Nat) (h:Dok (if 0≤a then a.toNat else (-a - 1).toNat) b) (K:Kp) (k:K (.tup [.int (a / b),.int (a % b)])) :
  xs (cx7 [("_divmod_pos",g6),("int_divmod",g70)]) (fdSc 7) [] 40 (fdB 7) (wW ["a","b"] [.int a,.int b] ["q","r"]) (fun _=>K .none) K (fun _=>False):=by
 have hb:=h.2.1
 conv=>whnf
 rw [show (false != ((b:Int) == 0))=false by rw [Bool.false_bne,beq_eq_false_iff_ne];lia]
 conv=>whnf
 by_cases ha:a < 0
 ·rw [decide_eq_true ha]
  rw [if_neg (by lia)] at h
  conv=>whnf
  refine ⟨(-a - 1).toNat,b,?_,h,?_⟩
  ·show [V.int (-a - 1),V.int b]=_
   rw [show ((-a - 1).toNat:Int)=-a - 1 by lia]
  generalize hm:(-a - 1).toNat=m
  have hae:a=Int.negSucc m:=hm ▸ negs ha
  have e1:a / (b:Int)=-((m / b:Nat):Int) - 1:=by
   rw [hae,Int.negSucc_ediv _ (by lia),show (m:Int).ediv (b:Int)=((m / b:Nat):Int) from rfl];lia
  have e2:a % (b:Int)=b - 1 - ((m % b:Nat):Int):=by
   rw [hae,Int.negSucc_emod _ (by lia)];push_cast;rfl
  rw [e1,e2] at k
  conv=>whnf
  refine ⟨Nat.le_of_ble_eq_true rfl,?_⟩
  have e3:(b:Int) + Builtin.bitNot ((m % b:Nat):Int)=b - 1 - ((m % b:Nat):Int):=by unfold Builtin.bitNot;lia
  rw [← e3] at k
  exact k
 ·rw [decide_eq_false ha]
  rw [if_pos (by lia)] at h
  conv=>whnf
  have e:a=(a.toNat:Int):=by lia
  apply bc;intro hQ;rcases h with ⟨h1,h2,h3,h4⟩;refine hQ ?_;clear hQ
  refine ⟨a.toNat,b,by rw [← e],h1,h2,h3,h4,?_⟩
  rw [e] at k
  rw [Int.natCast_ediv,Int.natCast_emod]
  exact k
theorem f71 (w:World):FnOk w 48 56 g71 :=
 qj (snd (zKl w 47 [("_divmod_pos",g6),("int_divmod",g70)] fun p hp=>by
  rcases List.mem_cons.mp hp with rfl | hp
  ·exact ⟨6,49,_,at6 w,(f6 w).le (by lia)⟩
  ·rcases List.mem_singleton.mp hp with rfl;exact ⟨7,56,_,at7 w,f70 w⟩)) (SxOk.none rfl) (at7 w) (names:=["a","b"]) (locs:=["q","r"]) (by rfl) (zW6 _) [] fun l K ⟨a,b,e,h,k⟩=>by subst e;exact ⟨rfl,40,xs71 a b h K k⟩
theorem xs7 (a b:Int) (hb:b≠0) (h:Dok (if 0≤(if 0 < b then a else -a) then (if 0 < b then a else -a).toNat else (-(if 0 < b then a else -a) - 1).toNat) b.natAbs) (K:Kp) (k:K (.tup [.int (a.fdiv b),.int (a.fmod b)])) :
  xs (cx7 [("_divmod_pos",g6),("int_divmod",g71)]) (fdSc 7) [] 40 (fdB 7) (wW ["a","b"] [.int a,.int b] ["q","r"]) (fun _=>K .none) K (fun _=>False):=by
 conv=>whnf
 rw [show (false != (b == 0))=false by rw [Bool.false_bne,beq_eq_false_iff_ne];exact hb]
 conv=>whnf
 by_cases h0:b < 0
 ·rw [decide_eq_true h0]
  rw [show (if 0 < b then a else -a)=-a from if_neg (by lia)] at h
  conv=>whnf
  refine ⟨-a,b.natAbs,?_,h,?_⟩
  ·show [V.int (-a),V.int (-b)]=_
   rw [show (b.natAbs:Int)=-b by lia]
  have e1:a.fdiv b=(-a) / (b.natAbs:Int):=by
   rw [show (b.natAbs:Int)=-b by lia,← Int.neg_fdiv_neg,Int.fdiv_eq_ediv_of_nonneg _ (by lia)]
  have e2:a.fmod b=-((-a) % (b.natAbs:Int)):=by
   have h3:=Int.fmod_add_mul_fdiv a b
   have h4:=Int.emod_add_mul_ediv (-a) (b.natAbs:Int)
   rw [e1] at h3
   rw [show (b.natAbs:Int)=-b by lia] at h3 h4 ⊢
   have:-b * (-a / -b)=-(b * (-a / -b)):=Int.neg_mul _ _
   lia
  rw [e1,e2] at k
  conv=>whnf
  refine ⟨Nat.le_of_ble_eq_true rfl,?_⟩
  exact k
 ·rw [decide_eq_false h0]
  rw [show (if 0 < b then a else -a)=a from if_pos (by lia)] at h
  have e3:b=(b.natAbs:Int):=by lia
  generalize b.natAbs=n at h e3
  subst e3
  rw [Int.fdiv_eq_ediv_of_nonneg _ (by lia),Int.fmod_eq_emod_of_nonneg _ (by lia)] at k
  have x:=xs71 a n h K k
  conv=>whnf
  by_cases ha:a < 0
  ·rw [decide_eq_true ha]
   rw [if_neg (by lia)] at h
   conv=>whnf
   refine ⟨Builtin.bitNot a,n,rfl,?_,?_⟩
   ·have:Builtin.bitNot a=-a - 1:=rfl
    rw [this,if_pos (by lia)];exact h
   have hm:a=Int.negSucc (-a - 1).toNat:=negs (by lia)
   generalize (-a - 1).toNat=m at hm
   subst hm
   have hbn:Builtin.bitNot (Int.negSucc m)=(m:Int):=by unfold Builtin.bitNot;lia
   rw [hbn]
   have e1:Int.negSucc m / (n:Int)=Builtin.bitNot ((m:Int) / (n:Int)):=by
    rw [Int.negSucc_ediv _ (by lia),show (m:Int).ediv (n:Int)=(m:Int) / (n:Int) from rfl];unfold Builtin.bitNot;lia
   have e2:Int.negSucc m % (n:Int)=(n:Int) + Builtin.bitNot ((m:Int) % (n:Int)):=by
    rw [Int.negSucc_emod _ (by lia)];unfold Builtin.bitNot;push_cast;lia
   rw [e1,e2] at k
   conv=>whnf
   refine ⟨Nat.le_of_ble_eq_true rfl,?_⟩
   exact k
  ·rw [decide_eq_false ha]
   rw [if_pos (by lia)] at h
   conv=>whnf
   have e:a=(a.toNat:Int):=by lia
   apply bc;intro hQ;rcases h with ⟨h1,h2,h3,h4⟩;refine hQ ?_;clear hQ
   refine ⟨a.toNat,n,by rw [← e],h1,h2,h3,h4,?_⟩
   rw [e] at k
   rw [Int.natCast_ediv,Int.natCast_emod]
   exact k
theorem f7 (w:World):FnOk w 49 56 g7 :=
 qj (snd (zKl w 48 [("_divmod_pos",g6),("int_divmod",g71)] fun p hp=>by
  rcases List.mem_cons.mp hp with rfl | hp
  ·exact ⟨6,49,_,at6 w,(f6 w).le (by lia)⟩
  ·rcases List.mem_singleton.mp hp with rfl;exact ⟨7,56,_,at7 w,f71 w⟩)) (SxOk.none rfl) (at7 w) (names:=["a","b"]) (locs:=["q","r"]) (by rfl) (zW6 _) [] fun l K ⟨a,b,e,hb,h,k⟩=>by subst e;exact ⟨rfl,40,xs7 a b hb h K k⟩
noncomputable def ny (i:Nat):Str:=(zJ4 ((2 ^ i:Nat):Int)).getD (baseText "0x" 16 ((2 ^ i:Nat):Int))
noncomputable def vK (N:Nat):List Str:=((List.range 32).filter (N.testBit ·)).map ny
noncomputable def yW (N i:Nat):List Str:=((List.range i).filter (N.testBit ·)).map ny
theorem tY (N i:Nat):yW N (i + 1)=yW N i++if N.testBit i then [ny i] else []:=by
 unfold yW
 rw [List.range_succ,List.filter_append,List.map_append]
 cases h:N.testBit i <;> simp [h]
theorem cx (N i:Nat):(yW N i).length≤i:=by
 unfold yW
 rw [List.length_map]
 exact Nat.le_trans (List.length_filter_le _ _) (by simp)
theorem fx {N i j:Nat} (h:N / 2 ^ i=0) (hj:i≤j):yW N j=yW N i:=by
 induction j with
 | zero =>
  have:i=0:=by lia
  subst this;rfl
 | succ j ih =>
  by_cases e:i=j + 1
  ·subst e;rfl
  ·have hij:i≤j:=by lia
   rw [tY,ih hij]
   have:N.testBit j=false:=by
    have hlt:N < 2 ^ i:=by
     have:=Nat.div_eq_zero_iff.mp h
     rcases this with h | h
     ·exact absurd h (Nat.ne_of_gt (Nat.two_pow_pos i))
     ·exact h
    exact Nat.testBit_lt_two_pow (Nat.lt_of_lt_of_le hlt (Nat.pow_le_pow_right (by decide) hij))
   rw [this];simp
theorem zKm (x i:Nat):x &&& 2 ^ i=if x.testBit i then 2 ^ i else 0:=by
 apply Nat.eq_of_testBit_eq
 intro j
 rw [Nat.testBit_and,Nat.testBit_two_pow]
 by_cases h:i=j
 ·subst h;cases hb:x.testBit i <;> simp
 ·cases hb:x.testBit i <;> simp [h]
theorem zKn (N i:Nat):Builtin.bitAnd ((N / 2 ^ i * 2 ^ i:Nat):Int) ((2 ^ i:Nat):Int)=if N.testBit i then ((2 ^ i:Nat):Int) else 0:=by
 rw [bitAnd_pp (Int.natCast_nonneg _) (Int.natCast_nonneg _),Int.toNat_natCast,Int.toNat_natCast,zKm]
 have:(N / 2 ^ i * 2 ^ i).testBit i=N.testBit i:=by
  rw [Nat.testBit_mul_two_pow,Nat.testBit_eq_decide_div_mod_eq (x:=N)]
  simp
 rw [this]
 cases N.testBit i <;> simp
theorem zZl (N i:Nat):N / 2 ^ i=2 * (N / 2 ^ (i + 1)) + if N.testBit i then 1 else 0:=by
 have h1:N / 2 ^ (i + 1)=N / 2 ^ i / 2:=by rw [Nat.pow_succ,Nat.div_div_eq_div_mul]
 have h2:(if N.testBit i then 1 else 0)=N / 2 ^ i % 2:=by
  rw [Nat.testBit_eq_decide_div_mod_eq]
  by_cases h:N / 2 ^ i % 2=1
  ·rw [h];simp
  ·have:N / 2 ^ i % 2=0:=by lia
   rw [this];simp
 rw [h1,h2];lia
theorem zZm (N i:Nat):((N / 2 ^ i * 2 ^ i:Nat):Int)=((N / 2 ^ (i + 1) * 2 ^ (i + 1):Nat):Int) + if N.testBit i then ((2 ^ i:Nat):Int) else 0:=by
 have h:=zZl N i
 have e:N / 2 ^ i * 2 ^ i=N / 2 ^ (i + 1) * 2 ^ (i + 1) + (if N.testBit i then 1 else 0) * 2 ^ i:=by
  rw [h,Nat.add_mul,Nat.pow_succ]
  congr 1
  rw [Nat.mul_comm 2 (N / _),Nat.mul_assoc,Nat.mul_comm 2]
 rw [e]
 cases N.testBit i <;> simp
noncomputable abbrev S10 (M:Int) (ns:List V) (a b:Slt):SRho:=[("flags",.val (.int M)),("names",.own ns),("i",a),("flag",b)]
noncomputable def I10 (N:Nat) (rest:List V) (ρ:SRho):Prop :=
 ∃ i a b,i + rest.length=32∧rest=(List.range' i rest.length).map (fun (j:Nat)=>V.int j)∧(∀ j,j < i→N / 2 ^ (j + 1)≠0)∧ρ=S10 ((N / 2 ^ i * 2 ^ i:Nat):Int) ((yW N i).map V.str) a b
noncomputable def cx10:Cx:={ cxE yZz with fg:=fgOf [("i",["i","flag"])] }
theorem zYn (w:World) (k:Nat):CxOk w k cx10:=⟨(zQf w k).fn,(zQf w k).gv,(zQf w k).ext⟩
theorem yXk (i:Nat) (h:i < 32):(baseText "0x" 16 ((2 ^ i:Nat):Int)).length≤sizeLine:=by
 have:∀ i:Fin 32,(baseText "0x" 16 ((2 ^ i.val:Nat):Int)).length≤100:=by decide +kernel
 exact Nat.le_trans (this ⟨i,h⟩) (by decide)
theorem xs10 (N:Nat) (h0:N≠0) (h1:N < 2 ^ 32) (hj:JoinOk ", " (vK N)=true) (K:Kp) (k:K (.str (Txt.join ", " (vK N)))) :
  xs cx10 (fdSc 10) ["names"] 40 (fdB 10) (wW ["flags"] [.int N] ["names","i","flag"]) (fun _=>K .none) K (fun _=>False):=by
 conv=>whnf
 refine ⟨by exact Nat.zero_le _,?_⟩
 conv=>whnf
 refine ⟨by decide,by decide,?_⟩
 refine yk (I10 N) (fun ρ hI=>?_) (fun X Xs ρ hI=>?_) _ _ ?_
 ·apply bc;intro hQ;rcases hI with ⟨i,a,b,e1,e2,e3,rfl⟩;refine hQ ?_;clear hQ
  exfalso
  have:i=32:=e1
  subst this
  exact e3 31 (by decide) (Nat.div_eq_of_lt h1)
 ·apply bc;intro hQ;rcases hI with ⟨i,a,b,e1,e2,e3,rfl⟩;refine hQ ?_;clear hQ
  rw [List.length_cons] at e1 e2
  rw [List.range'_succ,List.map_cons,List.cons.injEq] at e2
  apply bc;intro hQ;rcases e2 with ⟨rfl,e2⟩;refine hQ ?_;clear hQ
  refine ⟨S10 ((N / 2 ^ i * 2 ^ i:Nat):Int) ((yW N i).map V.str) (.val (.int i)) .un,rfl,fun kn hk=>?_⟩
  have hlen:=cx N i
  have hpow:(1:Int) * 2 ^ (Int.toNat (i:Int))=((2 ^ i:Nat):Int):=by rw [Int.toNat_natCast,Int.one_mul,Int.natCast_pow];rfl
  conv=>whnf
  refine ⟨Int.natCast_nonneg _,?_,?_⟩
  ·have:Builtin.Int.intBits 1=1:=rfl
   rw [this];lia
  rw [hpow]
  conv=>whnf
  rw [zKn]
  cases hb:N.testBit i with
  | false =>
   conv=>whnf
   refine hk _ ⟨i + 1,.val (.int i),.val (.int ((2 ^ i:Nat):Int)),by lia,e2,fun j hj=>?_,?_⟩
   ·rcases Nat.lt_succ_iff_lt_or_eq.mp hj with hj | rfl
    ·exact e3 j hj
    ·intro h
     have h3:=zZl N j
     rw [h,hb] at h3
     rcases j with _ | j
     ·exact h0 (by simpa using h3)
     ·exact e3 j (Nat.lt_succ_self j) (by simpa using h3)
   ·show S10 ((N / 2 ^ i * 2 ^ i:Nat):Int) ((yW N i).map V.str) (.val (.int i)) (.val (.int ((2 ^ i:Nat):Int)))=_
    rw [zZm,tY,hb]
    simp
  | true =>
   rw [if_pos rfl]
   have hne:(((2 ^ i:Nat):Int) != 0)=true:=by
    have h2:=Nat.two_pow_pos i
    rw [bne_iff_ne]
    lia
   rw [hne]
   conv=>whnf
   refine ⟨⟨_,_,_,_,_,_,_,rfl,rfl⟩,⟨rfl,rfl⟩,_,rfl,yXk i (by lia),?_⟩
   conv=>whnf
   refine ⟨by rw [List.length_map];exact Nat.le_trans hlen (Nat.le_trans (by lia:i≤32) (by decide)),?_⟩
   conv=>whnf
   have hx:Builtin.bitXor ((N / 2 ^ i * 2 ^ i:Nat):Int) ((2 ^ i:Nat):Int)=((N / 2 ^ (i + 1) * 2 ^ (i + 1):Nat):Int):=by
    have h1:=zKn N i
    have h2:=zZm N i
    rw [hb,if_pos rfl] at h1 h2
    rw [bitXor_and,h1,h2];lia
   rw [hx]
   have hl1:(yW N i).map V.str++[V.str (ny i)]=(yW N (i + 1)).map V.str:=by
    rw [tY,hb,if_pos rfl,List.map_append];rfl
   by_cases hz:N / 2 ^ (i + 1)=0
   ·have hm:(!((N / 2 ^ (i + 1) * 2 ^ (i + 1):Nat):Int) != 0)=true:=by rw [hz];simp
    rw [hm]
    conv=>whnf
    refine ⟨vK N,?_,hj,k⟩
    show (yW N i).map V.str++[V.str (ny i)]=_
    rw [hl1]
    show _=List.map V.str (yW N 32)
    rw [fx hz (by lia:i + 1≤32)]
   ·have hm:(!((N / 2 ^ (i + 1) * 2 ^ (i + 1):Nat):Int) != 0)=false:=by
     have h2:=Nat.two_pow_pos (i + 1)
     have h3:0 < N / 2 ^ (i + 1) * 2 ^ (i + 1):=Nat.mul_pos (Nat.pos_of_ne_zero hz) h2
     rw [Bool.not_eq_false',bne_iff_ne]
     lia
    rw [hm]
    conv=>whnf
    refine hk _ ⟨i + 1,.val (.int i),.val (.int ((2 ^ i:Nat):Int)),by lia,e2,fun j hj=>?_,?_⟩
    ·rcases Nat.lt_succ_iff_lt_or_eq.mp hj with hj | rfl
     ·exact e3 j hj
     ·exact hz
    ·show S10 ((N / 2 ^ (i + 1) * 2 ^ (i + 1):Nat):Int) ((yW N i).map V.str++[V.str (ny i)]) (.val (.int i)) (.val (.int ((2 ^ i:Nat):Int)))=_
     rw [hl1]
 ·refine ⟨0,.un,.un,rfl,rfl,fun j hj=>absurd hj (Nat.not_lt_zero _),?_⟩
  show S10 (N:Int) [] .un .un=_
  simp [yW]
inductive g10 (l:List V) (K:Kp):Prop where
 | mk (N:Nat) (h0:l=[.int N]) (h1:N≠0) (h2:N < 2 ^ 32) (h3:JoinOk ", " (vK N)=true) (h4:K (.str (Txt.join ", " (vK N))))
theorem f10 (w:World):FnOk w 1 64 g10 :=
 qj (snd (zYn w 0)) (SxOk.none rfl) (at10 w) (names:=["flags"]) (locs:=["names","i","flag"]) (by rfl) (yV3 _) ["names"] fun l K ⟨N,e,h0,h1,h2,k⟩=>by subst e;exact ⟨rfl,40,xs10 N h0 h1 h2 K k⟩
noncomputable def mY (acc:List Int) (d m:Nat):List Int:=acc++[((d + m + 128 * (acc.length % 2):Nat):Int)]
noncomputable def wY (figs:List Nat) (acc:List Int) (m:Nat):List Int:=(List.range m).foldl (fun acc j=>mY acc (figs.getD j 0) (if j + 1 < figs.length then 64 else 0)) acc
noncomputable def digs (n:Nat):List Nat:=if 4096≤n then [n / 4096,n / 64 % 64,n % 64] else if 64≤n then [n / 64,n % 64] else [n]
noncomputable def yv (acc:List Int) (n:Nat):List Int:=wY (digs n) acc (digs n).length
noncomputable def enc (ns:List Nat):List Int:=ns.foldl yv []
theorem zKo (acc:List Int) (d m:Nat):(mY acc d m).length=acc.length + 1:=by unfold mY;simp
theorem mQ (figs:List Nat) (acc:List Int) (m:Nat):wY figs acc (m + 1)=mY (wY figs acc m) (figs.getD m 0) (if m + 1 < figs.length then 64 else 0):=by
 unfold wY;rw [List.range_succ,List.foldl_append];rfl
theorem jV (figs:List Nat) (acc:List Int) (m:Nat):(wY figs acc m).length=acc.length + m:=by
 induction m with
 | zero=>rfl
 | succ m ih=>rw [mQ,zKo,ih];lia
theorem zZn (n:Nat):(digs n).length≤3:=by unfold digs;split <;> (try split) <;> simp
theorem tq (acc:List Int) (n:Nat):(yv acc n).length≤acc.length + 3:=by
 unfold yv;rw [jV];have:=zZn n;lia
noncomputable def cx24:Cx:={ cx0 with fg:=fgOf [("number",["number","figures","place"]),("place",["place"])] }
theorem yXl (w:World) (k:Nat):CxOk w k cx24:=⟨(yZ w k).fn,(yZ w k).gv,(yZ w k).ext⟩
noncomputable abbrev S24 (ns:List Nat) (acc:List Int) (x y z:Slt):SRho:=[("numbers",.val (.lst (ns.map fun (n:Nat)=>V.int n))),("octets",.own (acc.map V.int)),("number",x),("figures",y),("place",z)]
noncomputable def I24 (ns:List Nat) (rest:List V) (ρ:SRho):Prop :=
 ∃ a r,ns=a++r∧rest=r.map (fun (n:Nat)=>V.int n)∧(enc a).length≤3 * a.length∧∃ x y z,ρ=S24 ns (enc a) x y z
noncomputable def J24 (ns:List Nat) (acc:List Int) (figs:List Nat) (x:V) (rest:List V) (ρ:SRho):Prop :=
 ∃ m z,m + rest.length=figs.length∧rest=(List.range' m rest.length).map (fun (j:Nat)=>V.int j)∧ρ=S24 ns (wY figs acc m) (.val x) (.val (.lst (figs.map fun (n:Nat)=>V.int n))) z
noncomputable def yWw:List Stmt:=(yZr ((fdB 24).getD 1 default)).drop 1
theorem yXm (ns:List Nat) (acc:List Int) (figs:List Nat) (n:Nat) (hf:figs.length≤3) (ha:acc.length≤3000) (kn:SRho→Prop) (Kr:V→Prop) (Kb:SRho→Prop)
  (k:∀ z,kn (S24 ns (wY figs acc figs.length) (.val (.int n)) (.val (.lst (figs.map fun (n:Nat)=>V.int n))) z)) :
  xs cx24 (fdSc 24) ["octets"] 37 yWw (S24 ns acc (.val (.int n)) (.val (.lst (figs.map fun (n:Nat)=>V.int n))) .un) kn Kr Kb:=by
 conv=>whnf
 refine ⟨by simp only [List.length_append,List.length_cons,List.length_nil,List.length_map,List.length_range,zJ,sizeLine_eq];lia,?_⟩
 conv=>whnf
 refine ⟨by simp only [List.length_append,List.length_cons,List.length_nil,List.length_map,List.length_range,zJ,sizeLine_eq];lia,by simp only [List.length_append,List.length_cons,List.length_nil,List.length_map,List.length_range,zJ,sizeLine_eq];lia,?_⟩
 refine yk (J24 ns acc figs (.int n)) (fun ρ hI=>?_) (fun X Xs ρ hI=>?_) _ _ ?_
 ·apply bc;intro hQ;rcases hI with ⟨m,z,e1,e2,rfl⟩;refine hQ ?_;clear hQ
  have:m=figs.length:=e1
  subst this
  exact k .un
 ·apply bc;intro hQ;rcases hI with ⟨m,z,e1,e2,rfl⟩;refine hQ ?_;clear hQ
  rw [List.length_cons] at e1 e2
  rw [List.range'_succ,List.map_cons,List.cons.injEq] at e2
  apply bc;intro hQ;rcases e2 with ⟨rfl,e2⟩;refine hQ ?_;clear hQ
  refine ⟨S24 ns (wY figs acc m) (.val (.int n)) (.val (.lst (figs.map fun (n:Nat)=>V.int n))) (.val (.int m)),rfl,fun kn hk=>?_⟩
  have hm:m < figs.length:=by lia
  conv=>whnf
  refine ⟨by lia,by lia,m,.int ((figs.getD m 0:Nat):Int),?_,?_,?_⟩
  ·rw [List.length_map];exact seqIndex_of (Int.natCast_nonneg _) (by lia)
  ·rw [List.getElem?_map,List.getElem?_eq_getElem hm,List.getD_eq_getElem?_getD,List.getElem?_eq_getElem hm];rfl
  conv=>whnf
  refine ⟨by simp only [List.length_append,List.length_cons,List.length_nil,List.length_map,List.length_range,zJ,sizeLine_eq];lia,?_⟩
  conv=>whnf
  have hlen:=jV figs acc m
  have fin:∀ v:Int,v=((figs.getD m 0 + (if m + 1 < figs.length then 64 else 0) + 128 * ((wY figs acc m).length % 2):Nat):Int) →
    kn ([("numbers",.val (.lst (ns.map fun (n:Nat)=>V.int n))),("octets",.own ((wY figs acc m).map V.int++[V.int v])),("number",.val (.int n)),("figures",.val (.lst (figs.map fun (n:Nat)=>V.int n))),("place",.val (.int m))]:SRho):=fun v hv=>by
   refine hk _ ⟨m + 1,.val (.int m),by lia,e2,?_⟩
   rw [mQ]
   unfold mY S24
   rw [hv,List.map_append];rfl
  have fm:Int.fmod (((wY figs acc m).map V.int).length:Nat) 2=(((wY figs acc m).length % 2:Nat):Int):=by
   rw [List.length_map,Int.fmod_eq_emod_of_nonneg _ (by decide)];norm_cast
  rw [List.length_map,show decide ((m:Int) + 1 < (figs.length:Int))=decide (m + 1 < figs.length) from decide_eq_decide.mpr (Int.ofNat_lt (n:=m + 1))]
  by_cases hc:m + 1 < figs.length
  ·rw [decide_eq_true hc]
   rw [if_pos hc] at fin
   conv=>whnf
   refine ⟨by simp only [List.length_append,List.length_cons,List.length_nil,List.length_map,List.length_range,zJ,sizeLine_eq];lia,?_⟩
   conv=>whnf
   refine ⟨by decide,?_⟩
   conv=>whnf
   refine ⟨IntMulOk.of_left (by decide),?_⟩
   conv=>whnf
   refine ⟨by simp only [List.length_append,List.length_cons,List.length_nil,List.length_map,List.length_range,zJ,sizeLine_eq];lia,?_⟩
   refine fin _ ?_
   rw [fm];norm_cast
  ·rw [decide_eq_false hc]
   rw [if_neg hc] at fin
   conv=>whnf
   refine ⟨by simp only [List.length_append,List.length_cons,List.length_nil,List.length_map,List.length_range,zJ,sizeLine_eq];lia,?_⟩
   conv=>whnf
   refine ⟨by decide,?_⟩
   conv=>whnf
   refine ⟨IntMulOk.of_left (by decide),?_⟩
   conv=>whnf
   refine ⟨by simp only [List.length_append,List.length_cons,List.length_nil,List.length_map,List.length_range,zJ,sizeLine_eq];lia,?_⟩
   refine fin _ ?_
   rw [fm];norm_cast
 ·refine ⟨0,.un,by simp [pK],?_,rfl⟩
  rw [List.length_map,vw,List.length_map,List.length_range,← List.range_eq_range']
theorem xs24 (ns:List Nat) (h:∀ n∈ns,0 < n∧n < 2 ^ 18) (hl:ns.length≤900) (K:Kp) (k:K (.lst ((enc ns).map V.int))) :
  xs cx24 (fdSc 24) ["octets"] 40 (fdB 24) (wW ["numbers"] [.lst (ns.map fun (n:Nat)=>V.int n)] ["octets","number","figures","place"]) (fun _=>K .none) K (fun _=>False):=by
 conv=>whnf
 refine ⟨by exact Nat.zero_le _,?_⟩
 conv=>whnf
 refine yk (I24 ns) (fun ρ hI=>?_) (fun X Xs ρ hI=>?_) _ _ ?_
 ·apply bc;intro hQ;rcases hI with ⟨a,r,e1,e2,e3,x,y,z,rfl⟩;refine hQ ?_;clear hQ
  have:r=[]:=List.map_eq_nil_iff.mp e2.symm
  subst this
  rw [List.append_nil] at e1
  subst e1
  exact k
 ·apply bc;intro hQ;rcases hI with ⟨a,r,e1,e2,e3,x,y,z,rfl⟩;refine hQ ?_;clear hQ
  cases r with
  | nil=>contradiction
  | cons n r =>
   rw [List.map_cons,List.cons.injEq] at e2
   apply bc;intro hQ;rcases e2 with ⟨rfl,rfl⟩;rcases h n (by rw [e1];simp) with ⟨hn0,hn1⟩;refine hQ ?_;clear hQ
   have hla:a.length≤999:=by rw [e1,List.length_append,List.length_cons] at hl;lia
   refine ⟨S24 ns (enc a) (.val (.int n)) .un .un,rfl,fun kn hk=>?_⟩
   have last:∀ z,kn (S24 ns (wY (digs n) (enc a) (digs n).length) (.val (.int n)) (.val (.lst ((digs n).map fun (n:Nat)=>V.int n))) z):=fun z=>by
    refine hk _ ⟨a++[n],r,by rw [e1];simp,rfl,?_,.val (.int n),.val (.lst ((digs n).map fun (n:Nat)=>V.int n)),z,?_⟩
    ·unfold enc;rw [List.foldl_append,List.length_append]
     have:=tq (a.foldl yv []) n
     have e3:(a.foldl yv []).length≤3 * a.length:=e3
     show (yv _ n).length≤3 * (a.length + 1);lia
    ·have:enc (a++[n])=wY (digs n) (enc a) (digs n).length:=by unfold enc;rw [List.foldl_append];rfl
     rw [this]
   have inn:∀ l,l=(digs n).map (fun (n:Nat)=>V.int n)→xs cx24 (fdSc 24) ["octets"] 37 yWw (S24 ns (enc a) (.val (.int n)) (.val (.lst l)) .un) kn K (fun _=>False):=fun l hl2=>by
    subst hl2
    exact yXm ns (enc a) (digs n) n (zZn n) (by lia) kn K _ last
   have sh:∀ j:Nat,Int.fdiv (n:Int) (2 ^ j)=((n / 2 ^ j:Nat):Int):=fun j=>by
    rw [Int.fdiv_eq_ediv_of_nonneg _ (by exact Int.le_of_lt (Int.pow_pos (by decide)))]
    norm_cast
   have hq:∀ j:Nat,(Int.fdiv (n:Int) (2 ^ j) != 0)=decide (2 ^ j≤n):=fun j=>by
    rw [sh]
    by_cases hc:2 ^ j≤n
    ·have:=Nat.div_pos hc (Nat.two_pow_pos j)
     rw [decide_eq_true hc,bne_iff_ne];lia
    ·rw [decide_eq_false hc,Nat.div_eq_of_lt (by lia)];rfl
   have an:∀ j:Nat,Builtin.bitAnd (Int.fdiv (n:Int) (2 ^ j)) 63=((n / 2 ^ j % 64:Nat):Int):=fun j=>by
    rw [sh,bitAnd_pp (Int.natCast_nonneg _) (by decide)]
    rw [Int.toNat_natCast]
    show ((n / 2 ^ j &&& 2 ^ 6 - 1:Nat):Int)=_
    rw [Nat.and_two_pow_sub_one_eq_mod]
   have hq2:=hq 12
   have an2:=an 12
   have hq1:=hq 6
   have an1:=an 6
   have hq0:=hq 0
   have an0:=an 0
   have t2:Int.toNat (6 * 2)=12:=rfl
   have t1:Int.toNat (6 * 1)=6:=rfl
   have t0:Int.toNat (6 * 0)=0:=rfl
   have c0:2 ^ 0≤n:=by lia
   conv=>whnf
   refine ⟨Nat.le_of_ble_eq_true rfl,?_⟩
   conv=>whnf
   refine ⟨IntMulOk.of_left (Nat.le_of_ble_eq_true rfl),?_⟩
   conv=>whnf
   refine ⟨by decide,?_⟩
   rw [t2]
   generalize hv2:Int.fdiv (n:Int) (2 ^ 12)=v2 at *
   conv=>whnf
   rw [hq2]
   by_cases c2:2 ^ 12≤n
   ·have c1:2 ^ 6≤n:=by lia
    rw [decide_eq_true c2]
    conv=>whnf
    refine ⟨IntMulOk.of_left (Nat.le_of_ble_eq_true rfl),?_⟩
    conv=>whnf
    refine ⟨by decide,?_⟩
    conv=>whnf
    refine ⟨Nat.le_of_ble_eq_true rfl,?_⟩
    conv=>whnf
    refine ⟨IntMulOk.of_left (Nat.le_of_ble_eq_true rfl),?_⟩
    conv=>whnf
    refine ⟨by decide,?_⟩
    rw [t1]
    generalize hv1:Int.fdiv (n:Int) (2 ^ 6)=v1 at *
    conv=>whnf
    rw [hq1,decide_eq_true c1]
    conv=>whnf
    refine ⟨IntMulOk.of_left (Nat.le_of_ble_eq_true rfl),?_⟩
    conv=>whnf
    refine ⟨by decide,?_⟩
    conv=>whnf
    refine ⟨Nat.le_of_ble_eq_true rfl,?_⟩
    conv=>whnf
    refine ⟨IntMulOk.of_left (Nat.le_of_ble_eq_true rfl),?_⟩
    conv=>whnf
    refine ⟨by decide,?_⟩
    rw [t0]
    generalize hv0:Int.fdiv (n:Int) (2 ^ 0)=v0 at *
    conv=>whnf
    rw [hq0,decide_eq_true c0]
    conv=>whnf
    refine ⟨IntMulOk.of_left (Nat.le_of_ble_eq_true rfl),?_⟩
    conv=>whnf
    refine ⟨by decide,?_⟩
    conv=>whnf
    refine ⟨Nat.le_of_ble_eq_true rfl,?_⟩
    refine inn _ ?_
    simp only [hv0,hv1,hv2,t0,t1,t2,an0,an1,an2,List.nil_append,List.cons_append]
    unfold digs
    rw [if_pos (by lia)]
    have:n / 4096 % 64=n / 4096:=Nat.mod_eq_of_lt (by lia)
    simp [this]
   ·rw [decide_eq_false c2]
    by_cases c1:2 ^ 6≤n
    ·conv=>whnf
     refine ⟨IntMulOk.of_left (Nat.le_of_ble_eq_true rfl),?_⟩
     conv=>whnf
     refine ⟨by decide,?_⟩
     rw [t1]
     generalize hv1:Int.fdiv (n:Int) (2 ^ 6)=v1 at *
     conv=>whnf
     rw [hq1,decide_eq_true c1]
     conv=>whnf
     refine ⟨IntMulOk.of_left (Nat.le_of_ble_eq_true rfl),?_⟩
     conv=>whnf
     refine ⟨by decide,?_⟩
     conv=>whnf
     refine ⟨Nat.le_of_ble_eq_true rfl,?_⟩
     conv=>whnf
     refine ⟨IntMulOk.of_left (Nat.le_of_ble_eq_true rfl),?_⟩
     conv=>whnf
     refine ⟨by decide,?_⟩
     rw [t0]
     generalize hv0:Int.fdiv (n:Int) (2 ^ 0)=v0 at *
     conv=>whnf
     rw [hq0,decide_eq_true c0]
     conv=>whnf
     refine ⟨IntMulOk.of_left (Nat.le_of_ble_eq_true rfl),?_⟩
     conv=>whnf
     refine ⟨by decide,?_⟩
     conv=>whnf
     refine ⟨Nat.le_of_ble_eq_true rfl,?_⟩
     refine inn _ ?_
     simp only [hv0,hv1,hv2,t0,t1,t2,an0,an1,an2,List.nil_append,List.cons_append]
     unfold digs
     rw [if_neg (by lia),if_pos (by lia)]
     have:n / 64 % 64=n / 64:=Nat.mod_eq_of_lt (by lia)
     simp [this]
    ·conv=>whnf
     refine ⟨IntMulOk.of_left (Nat.le_of_ble_eq_true rfl),?_⟩
     conv=>whnf
     refine ⟨by decide,?_⟩
     rw [t1]
     generalize hv1:Int.fdiv (n:Int) (2 ^ 6)=v1 at *
     conv=>whnf
     rw [hq1,decide_eq_false c1]
     conv=>whnf
     refine ⟨IntMulOk.of_left (Nat.le_of_ble_eq_true rfl),?_⟩
     conv=>whnf
     refine ⟨by decide,?_⟩
     rw [t0]
     generalize hv0:Int.fdiv (n:Int) (2 ^ 0)=v0 at *
     conv=>whnf
     rw [hq0,decide_eq_true c0]
     conv=>whnf
     refine ⟨IntMulOk.of_left (Nat.le_of_ble_eq_true rfl),?_⟩
     conv=>whnf
     refine ⟨by decide,?_⟩
     conv=>whnf
     refine ⟨Nat.le_of_ble_eq_true rfl,?_⟩
     refine inn _ ?_
     simp only [hv0,hv1,hv2,t0,t1,t2,an0,an1,an2,List.nil_append,List.cons_append]
     unfold digs
     rw [if_neg (by lia),if_neg (by lia)]
     have:n % 64=n:=Nat.mod_eq_of_lt (by lia)
     simp [this]
 ·exact ⟨[],ns,rfl,rfl,by decide,.un,.un,.un,rfl⟩
inductive g24 (l:List V) (K:Kp):Prop where
 | mk (ns:List Nat) (h0:l=[.lst (ns.map fun (n:Nat)=>V.int n)]) (h1:(∀ n∈ns,0 < n∧n < 2 ^ 18)) (h2:ns.length≤900) (h3:K (.lst ((enc ns).map V.int)))
theorem f24 (w:World):FnOk w 1 168 g24 :=
 qj (snd (yXl w 0)) (SxOk.none rfl) (at24 w) (names:=["numbers"]) (locs:=["octets","number","figures","place"]) (by rfl) (yWb _) ["octets"] fun l K ⟨ns,e,h0,h1,k⟩=>by subst e;exact ⟨rfl,40,xs24 ns h0 h1 K k⟩
noncomputable def oJ:List Str:=(["numbers","k","draws","low","pair","letters","name","front","behind","written","octets","told","bare","nothing","spots","rows","lying","size","grown","places","word","row","way","ahead","after","answer","wide","left","names","words","table","factors","count","terms","product","factor","over","value","by","turn","one","two","due","refused","problem","there","width","base","flags","due_words"]:List String).map Str.ofString
noncomputable def yWx (l:List Str):List Str:=(("script":Str) :: oJ).filter fun x=>!l.contains x
noncomputable def yWy (line:Nat):Option (List Str):=([(191,["draws"]),(195,["draws","pair","letters","name"]),(199,["draws","pair","letters","name","written","octets"]),(202,["draws","pair","letters","name","told"]),(209,["draws","pair","letters","bare","spots"]),(222,["draws","pair","letters","lying"]),(243,["draws","one","left","terms","wide","table"]),(248,["draws","table","refused"]),(252,["there","base"])]:List (Nat×List Str)).lookup line
noncomputable def fsL (st:Stmt):List Str:=match yWy st.pos.line with
 | some l=>yWx l
 | none=>(match st.pos.line == 226 || st.pos.line == 228 with | true=>["terms","one"] | false=>[])
noncomputable def st0 (l:List (Str×V)):SRho:=(("script":Str) :: oJ).map fun x=>(x,match l.lookup x with | some X=>Slt.val X | none=>Slt.un)
theorem cj {c:Cx} {sc:Scope} {ow:List Str} {n:Nat} {st:Stmt} {ss:List Stmt} {ρ ρ':SRho} {Kn Kb:SRho→Prop} {Kr:V→Prop} (h:forgetQ (c.fs st) ρ=forgetQ (c.fs st) ρ'):xs c sc ow (n + 1) (st :: ss) ρ Kn Kr Kb=xs c sc ow (n + 1) (st :: ss) ρ' Kn Kr Kb:=by
 exact congrArg (xsC c sc ow n (xs c sc ow n) st ss Kn Kr Kb) h
theorem uJ {c:Cx} {sc:Scope} {ow:List Str} {n:Nat} {ss:List Stmt} {ρ ρ':SRho} {Kn Kb:SRho→Prop} {Kr:V→Prop} (h:match ss with | []=>ρ=ρ' | st :: _=>forgetQ (c.fs st) ρ=forgetQ (c.fs st) ρ') (k:xs c sc ow n ss ρ' Kn Kr Kb):xs c sc ow n ss ρ Kn Kr Kb:=by
 cases n with
 | zero=>exact k
 | succ n =>
  cases ss with
  | nil =>
   have h:ρ=ρ':=h
   rw [h];exact k
  | cons st ss=>rw [cj h];exact k
noncomputable def zKp:List (Str×(List V→Kp→Prop)):=[("_law_unseen",g22),("_law_name",g23),("_law_octets",g24),("_strip_exception_details",g15),("in_table_b1",g18),("map_table_b3",g20),("_ellipsis_match",g14),("_law_factors",g27),("_law_plain",g26),("int_divmod",g7),("_digits2int",g5),("_int2digits",g4),("pretty_flags",g10)]
theorem xZs {c:Cx} {sc:Scope} {ow:List Str} {n:Nat} {ss:List Stmt} {ρ:SRho} {Kn Kb:SRho→Prop} {Kr:V→Prop} (ρ':SRho) (h:match ss with | []=>ρ=ρ' | st :: _=>forgetQ (c.fs st) ρ=forgetQ (c.fs st) ρ'):xs c sc ow n ss ρ Kn Kr Kb=xs c sc ow n ss ρ' Kn Kr Kb:=propext ⟨uJ (by cases ss <;> exact h.symm),uJ h⟩
theorem all_cons {α:Type} {P:α→Prop} {a:α} {l:List α} (h:P a) (t:∀ x∈l,P x):∀ x∈a :: l,P x:=List.forall_mem_cons.mpr ⟨h,t⟩
theorem zKq (w:World):∀ p∈zKp,FnIn w 50 p.1 p.2:=by
 unfold zKp
 exact all_cons ⟨22,156,_,at22 w,(f22 w).le (by lia)⟩ (all_cons ⟨23,163,_,at23 w,(f23 w).le (by lia)⟩ (all_cons ⟨24,168,_,at24 w,(f24 w).le (by lia)⟩ (all_cons ⟨15,85,_,at15 w,(f15 w).le (by lia)⟩ (all_cons ⟨18,103,_,at18 w,(f18 w).le (by lia)⟩
  (all_cons ⟨20,149,_,at20 w,(f20 w).le (by lia)⟩ (all_cons ⟨14,78,_,at14 w,(f14 w).le (by lia)⟩ (all_cons ⟨27,185,_,at27 w,(f27 w).le (by lia)⟩ (all_cons ⟨26,180,_,at26 w,(f26 w).le (by lia)⟩ (all_cons ⟨7,56,_,at7 w,(f7 w).le (by lia)⟩
  (all_cons ⟨5,42,_,at5 w,(f5 w).le (by lia)⟩ (all_cons ⟨4,35,_,at4 w,(f4 w).le (by lia)⟩ (all_cons ⟨10,64,_,at10 w,(f10 w).le (by lia)⟩ fun _ h=>nm h))))))))))))
noncomputable def cw:Nat→List V→List V
 | _,[]=>[]
 | i,x :: r=>.tup [.int (i:Int),x] :: cw (i + 1) r
inductive ExtL (sc:Scope) (ρ:Rho) (K:Kp):Expr→Prop where
 | mk {elt x y px py kt pt pf es ke pe pc sc' pos} (h1:scOk sc' sc=true) (h2:zz sc "enumerate"=true)
  (kk:ew cx0 sc 30 (.Tuple es ke pe) ρ fun X=>∃ l,X=.tup l∧vX (oz cx0 (relS sc' sc) 30 (.Tuple [.Name x px,.Name y py] kt pt) [] [] elt (pJ sc' ρ)) (cw 0 l) [] fun acc=>K (.lst acc)) :
  ExtL sc ρ K (.ListComp elt [⟨.Tuple [.Name x px,.Name y py] kt pt,.Call (.Name "enumerate" pf) [.Tuple es ke pe] [] pc,[],0⟩] sc' pos)
noncomputable def extL (sc:Scope):Expr→Option (Rho→Kp→Prop):=zQd 190 12 89 fun e ρ K=>ExtL sc ρ K e
noncomputable def zQl (e:Expr) (ρ:SRho) (K:Kp):Prop:=ew cx0 (fdSc 28) 30 e (xy [] ρ) K
noncomputable def jW (es:List Expr) (ρ:SRho) (K:List V→Prop):Prop:=ews cx0 (fdSc 28) 30 es (xy [] ρ) K
inductive IsTold:Stmt→Prop where
 | mk {p1 p2 p3 p4 p5}:IsTold (.Assign [.Name "told" p1] (.Call (.Name "_law_read" p2) [.Name "octets" p3] [] p4) p5)
inductive IsIf:Stmt→Expr→Expr→Expr→Prop where
 | mk {p1 p2 p3 p4 p5 p6 p7 b1 p8 a1 a2} (n1:yY a1=false) (n2:behindInMarks .NotEq a2=false) :
  IsIf (.If (.BoolOp .Or [.Compare (.Name "told" p1) [.NotEq] [.Name "written" p2] p3,.Compare (.Call (.Name "_law_read" p4) [a1] [] p5) [.NotEq] [a2] p6] p7) b1 [] p8) (.Compare (.Name "told" p1) [.NotEq] [.Name "written" p2] p3) a1 a2
inductive IsTry:Stmt→Expr→Expr→Prop where
 | mk {p1 p2 p3 p4 p5 p6 n0 p7 p8 p9 p10 p11 p12 p13 p14 a1 a2} (n1:yY a1=false) (n2:yY a2=false) :
  IsTry (.Try [.Assign [.Name "refused" p1] (.Call (.Name "int_divmod" p2) [a1,a2] [] p3) p4] [.ExceptHandler (some (.Name "ZeroDivisionError" p5)) (some "problem") [.Assign [.Name "refused" p6] (.BinOp (.Constant (.str "nought") n0 p7) .Add (.Call (.Name "str" p8) [.Name "problem" p9] [] p10) p11) p12] p13] [] [] p14) a1 a2
noncomputable def xZt (st:Stmt) (ρ:SRho) (Kn:SRho→Prop) (_:V→Prop):Prop:=IsTold st∧∃ ns:List Nat,ρ.lookup ("octets":Str)=some (.val (.lst ((enc ns).map V.int)))∧(∀ n∈ns,0 < n∧n < 2 ^ 18)∧ns.length≤300∧Kn (setS "told" (.val (.lst (zQ ns))) ρ)
noncomputable def ifH (st:Stmt) (ρ:SRho) (Kn:SRho→Prop) (_:V→Prop):Prop:=∃ e1 a1 a2,IsIf st e1 a1 a2 ∧
 ∃ ns:List Nat,ns≠[]∧(∀ n∈ns,0 < n∧n < 2 ^ 18)∧ns.length≤300∧zQl e1 ρ (fun X=>X=.bool false)∧jW [a1] ρ (fun l=>l=[.lst ((enc ns).dropLast.map V.int)])∧zQl a2 ρ (fun X=>X=.lst (zQ ns.dropLast))∧Kn ρ
noncomputable def tryH (st:Stmt) (ρ:SRho) (Kn:SRho→Prop) (_:V→Prop):Prop:=∃ a1 a2,IsTry st a1 a2∧jW [a1,a2] ρ (fun l=>∃ x,l=[.int x,.int 0])∧Kn (setS "problem" .un (setS "refused" (.val (.str "nought")) ρ))
noncomputable def sxL (st:Stmt):Option (SRho→(SRho→Prop)→(V→Prop)→Prop):=sxAt 199 xZt (sxAt 200 ifH (sxAt 244 tryH none st) st) st
noncomputable def fgL:Expr→List Str:=fgOf [("size",["size","grown","places","word","k","row","way","ahead","after","answer","factors","count","product","factor","over","value","by","turn","two","due"]),
 ("places",["places","word","k","row","way","ahead","after","answer"]),("k",["k","row","way","ahead","after","answer"]),
 ("word",["size","word","factors","count","product","factor","over","value","by","turn","two","due"]),("factor",["factor","over"])]
noncomputable def paL (A:Around) (env:Env):Prop:=A.frames=some [env]∧env.frame=some env.locals
noncomputable def cxL:Cx:=⟨fnOf zKp,fun _=>none,extL,sxL,fgL,fsL,paL⟩
end Mine
end
section
open PySem PySem.W PySem.Calls PyProof.Rows PySem.Builtin PySem.Builtin.Str
open AutoSeq1 (wpAny_loadPart')
namespace Mine
theorem zYo {M:Model} {A:Around} {α:Type} {Q:α→Shared→Prop} {E:Value→Shared→Prop} {s:Shared} {x:α} (h:∀ v,Q v s):wpAny M A (pure x) Q E s:=wpAny_pure (h x)
theorem iV (l:Addr) (items:Array Value) (n:Nat) (dct:Option Addr) (sl:Array (Option Value)) :
  Meets (Builtin.«enumerate.__new__» ⟨[.type "enumerate",.ref l],[]⟩) (fun _ R s=>s.heap.get? l=some { cls:=.type "tuple",dict:=dct,data:=.seq items n,slots:=sl } ∧
   R (.ok (.ret (.ref (s.heap.push { cls:=.type "tuple_iterator",data:=.fields #[.ref l,.int 0 0] }).objs.size)))
    { s with heap:=(s.heap.push { cls:=.type "tuple_iterator",data:=.fields #[.ref l,.int 0 0] }).push { cls:=.type "enumerate",data:=.fields #[.none,.bool false,.ref s.heap.objs.size,rawInt 0,.none,.none] } }) :=
 .of_wp fun prog w A R s h=>by
  apply bc;intro hQ;rcases s with ⟨hp,g,d,tk,os⟩;rcases h with ⟨hl,h⟩;refine hQ ?_;clear hQ
  have hsub:=sub_enumerate
  have hL:Heap.IsTuple (Shared.heap ⟨hp,g,d,tk,os⟩) l items:=⟨_,hl,rfl,n,rfl⟩
  wp_walk using wpAny_loadPart' hl
  refine wpAny_stack_any fun st=>zYo fun b=>?_
  cases b
  ·wp_walk using wpAny_loadPart' hl,wpAny_pyIter_tuple hL
   exact ⟨_,rfl,h⟩
  ·wp_walk using wpAny_loadPart' hl,wpAny_pyIter_tuple hL
   exact ⟨_,rfl,h⟩
section
variable {prog:Program} {w:World} {A:Around} {E:Value→Shared→Prop} {s:Shared}
theorem fj {l:Addr} {items:Array Value} {Q:Value→Shared→Prop} (hL:s.heap.IsTuple l items)
  (h:∀ h',IsEnum h' (s.heap.objs.size + 1) s.heap.objs.size 0 .none→h'.IsTupleIter s.heap.objs.size l 0→h'.objs.size=s.heap.objs.size + 2 →
   (∀ b o,s.heap.get? b=some o→h'.get? b=some o)→Q (.ref (s.heap.objs.size + 1)) { s with heap:=h' }) :
  wpAny (model prog w) A (call (.type "enumerate") [.ref l]) Q E s:=by
 apply bc;intro hQ;rcases hL with ⟨⟨c,dct,dt,sl⟩,hl,hc,n,hd⟩;refine hQ ?_;clear hQ
 replace hc:c=.type "tuple":=hc
 replace hd:dt=.seq items n:=hd
 subst hc hd
 refine callType_new F.called_enumerate (by decide) (F.typeCall_enumerate_1 _) (F.newCall_enumerate_1 _) (fun obj=>F.args_object_init_2 obj _) F.entry_enumerate_new
  (iV l items n dct sl) ⟨hl,?_⟩
 have hz:(s.heap.push { cls:=.type "tuple_iterator",data:=.fields #[.ref l,.int 0 0] }).objs.size=s.heap.objs.size + 1:=Heap.size_push ..
 show _∧_
 rw [hz]
 have he:IsEnum ((s.heap.push { cls:=.type "tuple_iterator",data:=.fields #[.ref l,.int 0 0] }).push
   { cls:=.type "enumerate",data:=.fields #[.none,.bool false,.ref s.heap.objs.size,rawInt 0,.none,.none] }) (s.heap.objs.size + 1) s.heap.objs.size 0 .none:=by
  have:=Heap.get?_push_size (s.heap.push { cls:=.type "tuple_iterator",data:=.fields #[.ref l,.int 0 0] })
   (o:={ cls:=.type "enumerate",data:=.fields #[.none,.bool false,.ref s.heap.objs.size,rawInt 0,.none,.none] }) rfl
  rw [hz] at this;exact this
 refine ⟨⟨_,he,rfl⟩,h _ he ⟨_,Heap.get?_push_of_some _ (Heap.get?_push_size _ rfl),rfl,rfl⟩ (by rw [Heap.size_push,hz]) fun b o x=>Heap.get?_push_of_some _ (Heap.get?_push_of_some _ x)⟩
theorem jY {it l:Addr} {i:Nat} {items} {x:Value} {Q:Value→Shared→Prop} (hit:s.heap.IsTupleIter it l i)
  (hl:s.heap.IsTuple l items) (hx:items[i]?=some x)
  (hQ:∀ h',h'.IsTupleIter it l (i + 1)→Heap.SameBut it s.heap h'→Q x { s with heap:=h' }) :
  wpAny (model prog w) A (Builtin.SmallTypes.nextOf (.ref it)) Q E s:=by
 apply bc;intro hQ;rcases id hit with ⟨o,ho,hc,hd⟩;rcases hl with ⟨ol,hol,_,nl,hdl⟩;refine hQ ?_;clear hQ
 unfold Builtin.SmallTypes.nextOf
 refine wpAny_bind (wpAny_callSpecial?_slot (name:=Str.ofString "__next__") hit.typeIs F.slot_tuple_iterator_next
  (wpAny_call_entry F.slot_tuple_iterator_next hit.typeIs F.entry_tuple_iterator_next ?_ (F.args_tuple_iterator_next_1 _)))
 show wpAny _ _ (field (.ref it) 0 >>= _) _ _ s
 refine wpAny_bind (wpAny_field ho hd (x:=.ref l) rfl ?_)
 show wpAny _ _ (if (Value.ref l == Value.none)=true then _ else _) _ _ s
 rw [if_neg (show ¬ ((Value.ref l == Value.none)=true) from Bool.false_ne_true)]
 show wpAny _ _ (field (.ref it) 1 >>= _) _ _ s
 refine wpAny_bind (wpAny_field ho hd (x:=.int i 0) rfl ?_)
 show wpAny _ _ (seqItems? (.ref l) >>= _) _ _ s
 refine wpAny_bind (wpAny_seqItems hol hdl ?_)
 simp only [Int.toNat_natCast,hx]
 refine wpAny_bind (wpAny_setField ho hd (by simp) (wpAny_pure ⟨x,rfl,wpAny_pure (hQ _ ?_ (Heap.SameBut.update ..))⟩))
 exact ⟨_,Heap.get?_update_self _ ho (Obj.isFreed_of_fields (Obj.data_mapFields hd _)),(Obj.cls_mapFields ..).trans hc,by
  rw [Obj.data_mapFields hd];simp [rawInt]⟩
theorem iW {it l:Addr} {i:Nat} {items} {Q:Value→Shared→Prop} (hh:A.handled=none)
  (hit:s.heap.IsTupleIter it l i) (hl:s.heap.IsTuple l items) (hx:items[i]?=none)
  (hE:∀ h' e,Heap.ExtBut it s.heap h'→(∃ o,h'.get? e=some o∧o.cls=.type "StopIteration")→E (.ref e) { s with heap:=h' }) :
  wpAny (model prog w) A (Builtin.SmallTypes.nextOf (.ref it)) Q E s:=by
 apply bc;intro hQ;rcases id hit with ⟨o,ho,hc,hd⟩;rcases hl with ⟨ol,hol,_,nl,hdl⟩;refine hQ ?_;clear hQ
 unfold Builtin.SmallTypes.nextOf
 refine wpAny_bind (wpAny_callSpecial?_slot (name:=Str.ofString "__next__") hit.typeIs F.slot_tuple_iterator_next
  (wpAny_call_entry F.slot_tuple_iterator_next hit.typeIs F.entry_tuple_iterator_next ?_ (F.args_tuple_iterator_next_1 _)))
 show wpAny _ _ (field (.ref it) 0 >>= _) _ _ s
 refine wpAny_bind (wpAny_field ho hd (x:=.ref l) rfl ?_)
 show wpAny _ _ (if (Value.ref l == Value.none)=true then _ else _) _ _ s
 rw [if_neg (show ¬ ((Value.ref l == Value.none)=true) from Bool.false_ne_true)]
 show wpAny _ _ (field (.ref it) 1 >>= _) _ _ s
 refine wpAny_bind (wpAny_field ho hd (x:=.int i 0) rfl ?_)
 show wpAny _ _ (seqItems? (.ref l) >>= _) _ _ s
 refine wpAny_bind (wpAny_seqItems hol hdl ?_)
 simp only [Int.toNat_natCast,hx]
 refine wpAny_bind (wpAny_rule (wpAny_bind (wpAny_setField ho hd (by simp) ?_)))
 show wpAny _ _ (newExc (.type "StopIteration") [] >>= _) _ _ _
 refine wpAny_bind ?_
 simp only [newExc,newTuple]
 refine wpAny_bind (wpAny_newObj_type ?_ (by size_fits))
 refine wpAny_bind (m:=firstArgMember _ _) (wpAny_of_eq (a:=Value.none) (by first | rfl | (simp only [firstArgMember];rfl)) ?_)
 refine wpAny_newObj_type ?_ (by size_fits)
 simp only [raiseNew]
 refine wpAny_bind (wpAny_handled ?_)
 first | rw [show A.in1.handled=none from hh] | rw [hh]
 refine wpAny_bind (wpAny_pure (wpAny_throw ?_))
 exact hE _ _ (((Heap.SameBut.update ..).extBut.push _).push _) ⟨_,Heap.get?_push_size _ rfl,rfl⟩
end
theorem Draws.tup {prog:Program} {w:World} {A:Around} (hh:A.handled=none) (it l:Addr) (hne:l≠it) (items:Array Value) :
  Draws prog w A it [it,l] items.size (fun i v=>items[i]?=some v) (fun i h=>h.IsTupleIter it l i∧h.IsTuple l items) where
 live:=fun _ _ st=>let ⟨o,ho,_⟩:=st.1;⟨o,ho⟩
 frame:=fun _ _ _ st hk=>⟨st.1.at fun o e=>hk it (by simp) o e,st.2.at fun o e=>hk l (by simp) o e⟩
 item:=fun i s Q E hi st hQ=>by
  refine jY st.1 st.2 (x:=items[i]) (by simp [hi]) fun h' hit' hs'=>?_
  exact hQ _ h' s.toks (by simp [hi]) ⟨hit',st.2.extBut hs'.extBut hne⟩ hs'
 done:=fun s Q E st hE=>iW hh st.1 st.2 (by simp) hE
end Mine
end
section
open PySem PySem.W PySem.Calls PyProof.Rows PySem.Builtin PySem.Builtin.Str
namespace Mine
noncomputable def mZ (o:Obj):Prop:=∃ n vs,o.cls=.type n∧o.data=.fields vs∧∀ q t,vs[1]?≠some (Value.str q t)
theorem mZ.soft {o:Obj} (t:mZ o):Soft o:=let ⟨n,vs,h1,h2,h3⟩:=t;.inr ⟨n,vs,h1,h2,h3⟩
theorem mZ.firm {o:Obj} {b:Addr} (t:mZ o):Firm b o:=let ⟨n,vs,h1,h2,h3⟩:=t;.ty h1
theorem mZ.nseq {o:Obj} (t:mZ o) (vs n):o.data≠.seq vs n:=by
 apply bc;intro hQ;rcases t with ⟨_,_,_,e,_⟩;refine hQ ?_;clear hQ
 rw [e];intro x;contradiction
noncomputable def Two (e it:Addr) (h:Heap):Prop:=(∃ o,h.get? e=some o∧mZ o)∧∃ o,h.get? it=some o∧mZ o
section
variable {e it:Addr} {h h':Heap}
theorem Two.soft (T:Two e it h) {B:Addr} (hB:B=e∨B=it):∀ o,h.get? B=some o→Soft o:=fun o ho=>by
 rcases hB with rfl | rfl
 ·apply bc;intro hQ;rcases T.1 with ⟨o',h1,h2⟩;refine hQ ?_;clear hQ;rw [ho] at h1;(injection h1 with h1;subst h1);exact h2.soft
 ·apply bc;intro hQ;rcases T.2 with ⟨o',h1,h2⟩;refine hQ ?_;clear hQ;rw [ho] at h1;(injection h1 with h1;subst h1);exact h2.soft
theorem Two.seqs {off:Addr→Prop} (T:Two e it h) (k:∀ b o,b ∉ [e,it]→h.get? b=some o→h'.get? b=some o):Seqs off h h':=fun a o ho ⟨vs,n,d⟩ _=>by
 refine k a o (fun hm=>?_) ho
 rcases List.mem_cons.mp hm with rfl | hm
 ·apply bc;intro hQ;rcases T.1 with ⟨o',h1,h2⟩;refine hQ ?_;clear hQ;rw [ho] at h1;(injection h1 with h1;subst h1);exact h2.nseq _ _ d
 ·rw [List.mem_singleton] at hm;subst hm
  apply bc;intro hQ;rcases T.2 with ⟨o',h1,h2⟩;refine hQ ?_;clear hQ;rw [ho] at h1;(injection h1 with h1;subst h1);exact h2.nseq _ _ d
theorem Inv1.two {P:Addr} {ln cl:Nat} {q:Str} (x:Inv1 P ln cl q h) (T:Two e it h) (k:∀ b o,b ∉ [e,it]→h.get? b=some o→h'.get? b=some o):Inv1 P ln cl q h' :=
 x.soft fun b o ns e=>k b o (fun hm=>ns (T.soft (by simpa using hm) _ e)) e
theorem zW.two (x:zW h) (T:Two e it h) (k:∀ b o,b ∉ [e,it]→h.get? b=some o→h'.get? b=some o):zW h':=⟨x.1.two T k,x.2.two T k⟩
theorem KX.two {X:Addr→Prop} (h1:X e) (h2:X it) (T:Two e it h) (k:∀ b o,b ∉ [e,it]→h.get? b=some o→h'.get? b=some o):KX X h h' :=
 have ne:∀ b,¬ X b→b ∉ [e,it]:=fun b n hm=>by
  rcases List.mem_cons.mp hm with rfl | hm
  ·exact n h1
  ·rw [List.mem_singleton] at hm;subst hm;exact n h2
 ⟨fun b o n ho _=>k b o (ne b n) ho,fun b o n ho=>⟨o,k b o (ne b n) ho⟩,fun x=>x.two T k⟩
end
section
variable {w:World} {A:Around} {E:Value→Shared→Prop} {off:Addr→Prop} {s:Shared} {k n:Nat} {sc:Scope} {env:Env} {ρ:Rho} {c:Cx} {R:Result→Shared→Prop}
theorem At.two {h':Heap} {tk:Nat} {e it:Addr} (x:At w k A sc env s off ρ) (T:Two e it s.heap) (ge:(tG w.params).get e=none) (gi:(tG w.params).get it=none) (ne:¬ off e) (ni:¬ off it)
  (kb:∀ b o,b ∉ [e,it]→s.heap.get? b=some o→h'.get? b=some o):At w k A sc env { s with heap:=h',toks:=tk } off ρ:=by
 apply bc;intro hQ;rcases x.sees with ⟨m,h1,h2⟩;refine hQ ?_;clear hQ
 have nin:∀ {b:Addr} {o:Obj},s.heap.get? b=some o→(∀ vs,o.data≠.fields vs)→b ∉ [e,it]:=fun {b o} ho hd hm=>by
  rcases List.mem_cons.mp hm with rfl | hm
  ·apply bc;intro hQ;rcases T.1 with ⟨o',g1,_,vs,_,g2,_⟩;refine hQ ?_;clear hQ;rw [ho] at g1;(injection g1 with g1;subst g1);exact hd vs g2
  ·rw [List.mem_singleton] at hm;subst hm
   apply bc;intro hQ;rcases T.2 with ⟨o',g1,_,vs,_,g2,_⟩;refine hQ ?_;clear hQ;rw [ho] at g1;(injection g1 with g1;subst g1);exact hd vs g2
 refine ⟨x.room,x.en,⟨fun a o ha f=>kb a o (fun hm=>?_) (x.glb.at_ a o ha f),x.glb.tab.two T kb⟩,fun b hb=>?_,⟨m,h1.at' fun o' ho=>kb _ _ ?_ ho,fun y Y ho=>?_⟩,x.apart⟩
 ·rcases List.mem_cons.mp hm with rfl | hm
  ·rw [ge] at ha;contradiction
  ·rw [List.mem_singleton] at hm;subst hm;rw [gi] at ha;contradiction
 ·obtain ⟨o',ho⟩:=x.old b hb
  refine ⟨o',kb b o' (fun hm=>?_) ho⟩
  rcases List.mem_cons.mp hm with rfl | hm
  ·exact ne hb
  ·rw [List.mem_singleton] at hm;subst hm;exact ni hb
 ·apply bc;intro hQ;rcases h1 with ⟨o2,es,ep,e1,e2,_⟩;refine hQ ?_;clear hQ
  exact nin e1 fun vs d=>by rw [e2] at d;contradiction
 ·apply bc;intro hQ;rcases h2 y Y ho with ⟨v,r,h3⟩;refine hQ ?_;clear hQ
  refine ⟨v,r.move (T.seqs kb) fun _ x=>x,h3.imp _root_.id fun ⟨h4,c,h5,h6⟩=>⟨h4,c,h5,?_⟩⟩
  apply bc;intro hQ;rcases id h6 with ⟨o',h7,h8⟩;refine hQ ?_;clear hQ
  exact ⟨o',kb c o' (nin h7 fun vs d=>by rw [h8] at d;contradiction) h7,h8⟩
theorem CompSt.two {acc:List V} {D:Addr} {h':Heap} {tk:Nat} {e it:Addr} (x:CompSt w k A sc env D off ρ s acc) (T:Two e it s.heap) (ge:(tG w.params).get e=none) (gi:(tG w.params).get it=none) (ne:¬ offD off D e) (ni:¬ offD off D it)
  (kb:∀ b o,b ∉ [e,it]→s.heap.get? b=some o→h'.get? b=some o):CompSt w k A sc env D off ρ { s with heap:=h',toks:=tk } acc:=by
 apply bc;intro hQ;rcases x.plain with ⟨items,h1,h2⟩;refine hQ ?_;clear hQ
 refine ⟨x.at_.two T ge gi ne ni kb,⟨items,h1.at fun o ho=>kb D o (fun hm=>?_) ho,h2.move (T.seqs kb) fun _ x=>x⟩,x.dn⟩
 rcases List.mem_cons.mp hm with rfl | hm
 ·exact ne (.inr rfl)
 ·rw [List.mem_singleton] at hm;exact ni (.inr hm.symm)
structure En (e it l:Addr) (items:Array Value) (i:Nat) (h:Heap):Prop where
 st:(∃ old,IsEnum h e it i old)∧h.IsTupleIter it l i∧h.IsTuple l items
theorem En.two {e it l:Addr} {items:Array Value} {i:Nat} {h:Heap} (x:En e it l items i h):Two e it h:=by
 apply bc;intro hQ;rcases x.st with ⟨⟨old,h1⟩,⟨o,h2,h3,h4⟩,_⟩;refine hQ ?_;clear hQ
 exact ⟨⟨_,h1,_,_,rfl,rfl,by intro q t;simp⟩,⟨o,h2,_,_,h3,h4,by intro q t;simp⟩⟩
end
theorem En.keep {e it l:Addr} {items:Array Value} {i:Nat} {h h':Heap} (x:En e it l items i h) (k:∀ b o,b=e∨b=it∨b=l→h.get? b=some o→Firm b o→h'.get? b=some o):En e it l items i h':=by
 apply bc;intro hQ;rcases x.st with ⟨⟨old,h1⟩,⟨o,h2,h3,h4⟩,⟨o2,h5,h6,n2,h7⟩⟩;refine hQ ?_;clear hQ
 refine ⟨⟨⟨old,k e _ (.inl rfl) h1 (.ty rfl)⟩,⟨o,k it _ (.inr (.inl rfl)) h2 (.ty h3),h3,h4⟩,⟨o2,k l _ (.inr (.inr rfl)) h5 (.nf fun vs d=>?_),h6,n2,h7⟩⟩⟩
 have h7:o2.data=.seq items n2:=h7
 rw [h7] at d;contradiction
theorem En.ne {e it l C b:Addr} {items:Array Value} {i:Nat} {h h':Heap} (x:En e it l items i h) (y:Bnd C h h') (hb:b=e∨b=it∨b=l):b≠C:=by
 apply bc;intro hQ;rcases x.st with ⟨⟨old,g1⟩,⟨o,g2,g3,g4⟩,⟨o2,g5,g6,n2,g7⟩⟩;refine hQ ?_;clear hQ
 rcases hb with hb | hb | hb <;> rw [hb]
 ·exact y.ne g1 fun es p d=>by contradiction
 ·exact y.ne g2 fun es p d=>by rw [g4] at d;contradiction
 ·exact y.ne g5 fun es p d=>by rw [show o2.data=.seq items n2 from g7] at d;contradiction
theorem En.noD {e it l D b:Addr} {off:Addr→Prop} (ne:¬ offD off D e) (ni:¬ offD off D it) (nl:¬ offD off D l) (hb:b=e∨b=it∨b=l):b≠D:=fun q=>by
 rcases hb with hb | hb | hb <;> rw [hb] at q
 ·exact ne (.inr q)
 ·exact ni (.inr q)
 ·exact nl (.inr q)
section
variable {w:World} {A:Around} {E:Value→Shared→Prop} {off:Addr→Prop} {s:Shared} {k n:Nat} {sc:Scope} {env:Env} {ρ:Rho} {c:Cx} {R:Result→Shared→Prop}
theorem zYp (S:Snd w k c n) {elt it0:Expr} {scope:Scope} {pos:Pos} {x y:Str} {px py pt:Pos} {kt:Nat} {D e it l:Addr} {items:Array Value} {L:List V} (ge:(tG w.params).get e=none) (gi:(tG w.params).get it=none)
  (ne:¬ offD off D e) (ni:¬ offD off D it) (nl:¬ offD off D l) (hei:e≠it) (hle:l≠e) (hli:l≠it) (hlen:items.size=L.length) {K:List V→Prop} {tg:Expr} {gs:List Comprehension} (ht:tg=.Tuple [.Name x px,.Name y py] kt pt) (hg:gs=[⟨tg,it0,[],0⟩]) :
  ∀ (rem:List V) (i:Nat) (s:Shared) (acc:List V),i≤L.length→L.drop i=rem→CompSt w k A sc env D off ρ s acc→En e it l items i s.heap→RdL s.heap (offD off D) L items.toList →
   vX (oz c sc n tg [] [] elt ρ) (cw i rem) acc K →
   (∀ acc' h' tk,K acc'→KX (fun b=>b=D∨b=env.locals∨b=e∨b=it) s.heap h'→CompSt w k A sc env D off ρ { s with heap:=h',toks:=tk } acc'→R (.ok .next) { s with heap:=h',toks:=tk }) →
   codeAny (model pw w) A (.compLoop (.ListComp elt gs scope pos) 0 (.ref e) (.ref D) env) R s:=by
 intro rem
 have W:∀ hh:A.handled=none,_:=fun hh=>WalksT.enumerateD (prog:=pw) (w:=w) (A:=A) (Draws.tup (A:=A.in1) (show A.in1.handled=none from hh) it l hli items) e hei (by simp [hei,Ne.symm hle]) (by simp)
 have g0:gs[0]?=some ⟨tg,it0,[],0⟩:=by rw [hg];rfl
 have g1:∀ g',gs[0 + 1]?=some g'→g'.is_async=0:=fun g' e=>by rw [hg] at e;contradiction
 have g2:∀ g∈gs,g.is_async=0:=fun g e=>by rw [hg] at e;rw [List.mem_singleton.mp e]
 induction rem with
 | nil =>
  intro i s acc hi hd X st rd kk q
  rw [gY hd hi,← hlen] at st
  exact yj g0 g1 ((W X.at_.room.hd).done s _ _ st.st fun h' tk kb=>q acc h' tk kk (KX.two (.inr (.inr (.inl rfl))) (.inr (.inr (.inr rfl))) st.two kb) (X.two st.two ge gi ne ni kb))
 | cons Y r ih =>
  intro i s acc hi hd X st rd kk q
  have W:=W X.at_.room.hd
  refine yj g0 g1 (W.item i s _ _ (hlen ▸ lY hd) st.st fun T vals h1 tk1 hP hTs hT mid kb1=>?_)
  refine wpAny_bind ?_
  rw [show letOwnedTupleGo tg=letOwnedTupleGo (.Tuple [.Name x px,.Name y py] kt pt) by rw [ht]]
  refine W.go _ _ _ i T { s with heap:=h1,toks:=tk1 } _ _ mid fun h2 st2 kb2=>wpAny_bind ?_
  have st2:En e it l items (i + 1) h2:=⟨st2⟩
  have kb:∀ b o,b ∉ [e,it]→s.heap.get? b=some o→h2.get? b=some o:=fun b o hb ho=>kb2 b o hb (kb1 b o hb ho)
  have x1:CompSt w k A sc env D off ρ { s with heap:=h2,toks:=tk1 } acc:=X.two st.two ge gi ne ni kb
  have kx1:KX (fun b=>b=D∨b=env.locals∨b=e∨b=it) s.heap h2:=KX.two (.inr (.inr (.inl rfl))) (.inr (.inr (.inr rfl))) st.two kb
  have rd2:RdL h2 (offD off D) L items.toList:=rd.move (st.two.seqs kb) (fun _ q=>q)
  have r1:Rd h2 (offD off D) (.tup [.int (i:Int),Y]) (.ref T):=by
   apply bc;intro hQ;rcases hP with ⟨t,xv,hxv,hv⟩;rcases rd2.get (sV hd) with ⟨xv',hv1,hv2⟩;refine hQ ?_;clear hQ
   rw [Array.getElem?_toList,hxv] at hv1
   refine Rd.tupI (vs:=vals) (fun hq=>?_) (hT.at fun o ho=>kb2 T o (W.apart i T h1 mid) ho) (by rw [hv];exact .cons (Rd.int _ _) (.one (Option.some.inj hv1 ▸ hv2)))
   obtain ⟨o,ho⟩:=X.at_.old T hq
   exact absurd (Heap.lt_size ho) (Nat.not_lt.mpr hTs)
  apply bc;intro hQ;rcases onS.inv kk with ⟨ρ',hb,kk⟩;refine hQ ?_;clear hQ
  refine x1.bind hb r1 fun h3 tk3 x3 b3=>?_
  have st3:En e it l items (i + 1) h3:=st2.keep fun b o hb ho _=>b3.kb b o (st2.ne b3 hb) ho
  have next:∀ acc' h4 tk4,vX (oz c sc n tg [] [] elt ρ) (cw (i + 1) r) acc' K→CK D env.locals h3 h4→CompSt w k A sc env D off ρ' { s with heap:=h4,toks:=tk4 } acc' →
    codeAny (model pw w) A (.compLoop (.ListComp elt gs scope pos) 0 (.ref e) (.ref D) env) R { s with heap:=h4,toks:=tk4 }:=fun acc' h4 tk4 kk4 ck x4 =>
   ih (i + 1) { s with heap:=h4,toks:=tk4 } acc' (lY hd) (vZ hd) (x4.back hb) (st3.keep fun b o hb ho f=>ck.obj b o (fun q=>q.elim (En.noD ne ni nl hb) (st2.ne b3 hb)) ho f) ((rd2.move b3.sq fun _ q=>q).move (CK.seqs x3 ck) fun _ q=>q) kk4
    fun acc'' h5 tk5 k5 kb5 x5=>q acc'' h5 tk5 k5 (((kx1.trans (b3.kx (.inr (.inl rfl)))).trans ((KX.le ck fun i q=>q.imp _root_.id .inl))).trans kb5) x5
  refine wpAny_bind (S.ts x3.at_ kk fun ok h4 tk4 kk4 e4=>?_)
  cases ok with
  | false=>exact wpAny_pure ⟨rfl,next acc h4 tk4 kk4 (KX.of e4) (x3.keep e4)⟩
  | true=>exact S.cl elt gs scope pos 1 g2 (x3.keep e4) (by rw [hg];exact kk4) fun acc' h5 tk5 k5 ck5 x5=>wpAny_pure ⟨rfl,next acc' h5 tk5 k5 ((KX.of e4).trans ck5) x5⟩
end
section
variable {w:World} {A:Around} {E:Value→Shared→Prop} {off:Addr→Prop} {s:Shared} {k n:Nat} {sc sc':Scope} {env:Env} {ρ:Rho} {c:Cx}
theorem zXn (P:Params):mgv P ("enumerate":Str)=none∧mbv P ("enumerate":Str)=some (.type "enumerate"):=⟨by kernel_rfl,by kernel_rfl⟩
theorem zXo (S:Snd w k c n) {n1:Nat} (S1:Snd w k c n1) {elt:Expr} {es:List Expr} {x y:Str} {px py pt pf pe pc pos:Pos} {kt ke:Nat} {K:List V→Prop} {RR:Value→Addr→Result→Shared→Prop} (a:At w k A sc env s off ρ) (hsc:scOk sc' sc=true) (hf:zz sc "enumerate"=true)
  (kk:ew c sc n1 (.Tuple es ke pe) ρ fun X=>∃ l,X=.tup l∧vX (oz c (relS sc' sc) n (.Tuple [.Name x px,.Name y py] kt pt) [] [] elt (pJ sc' ρ)) (cw 0 l) [] K)
  (hRR:∀ acc D C h' tk m',K acc→s.heap.get? C=none→D≠C→h'.Ns C m'→Keep s.heap h'→Rd h' off (.lst acc) (.ref D)→RR (.ref D) C (.ok .next) { s with heap:=h',toks:=tk }) :
  wpAny (model pw w) A (eval (.Call (.Name "enumerate" pf) [.Tuple es ke pe] [] pc) env) (fun xv s₁=>wpAny (model pw w) A (pyIter xv) (fun it' s₂=>wpAny (model pw w) A (newList []) (fun acc s₃=>wpAny (model pw w) A (newFunctionEnv sc' env.globals (pV env.cells sc'.names []) [] env.qual none .none (some env)) (fun cenv s₄ =>
   codeAny (model pw w) A (.compStart (.ListComp elt [⟨.Tuple [.Name x px,.Name y py] kt pt,.Call (.Name "enumerate" pf) [.Tuple es ke pe] [] pc,[],0⟩] sc' pos) 0 it' acc { cenv with scope:=relabel sc' env }) (RR acc cenv.locals) s₄) E s₃) E s₂) E s₁) E s:=by
 have O:=pW hsc
 obtain ⟨l1,l2⟩:=zXn w.params
 refine Call_ (yV a.glb a.en hf l1 l2 (callWith_type1 (args_cons (S1.e (ex:=.Tuple es ke pe) a kk fun X v h0 tk hX e0 r0=>args_nil ?_) (zX rfl _ _)) (zX rfl _ _) (wz rfl _ _)))
 apply bc;intro hQ;rcases hX with ⟨L,rfl,kk⟩;rcases r0.tup_inv with ⟨l,items,rfl,hl0,hlT,hlR⟩;refine hQ ?_;clear hQ
 have hlen:=hlR.length
 rw [Array.length_toList] at hlen
 refine fj (s:={ s with heap:=h0,toks:=tk }) hlT fun h' he hit hsz hk1=>wpAny_pyIter_enum he ?_
 dsimp only at he hit hsz hk1 ⊢
 have e01:Keep h0 h':=.of hk1
 have a1:At w k A sc env { s with heap:=h',toks:=tk } off ρ:=a.keep (e0.trans e01)
 refine dK a1 O fun C h₁ tk₁ lt keep1b st1=>?_
 have hll:l < h0.objs.size:=by apply bc;intro hQ;rcases hlT with ⟨o,h,_⟩;refine hQ ?_;clear hQ;exact Heap.lt_size h
 have fe:h0.get? (h0.objs.size + 1)=none:=iq (Nat.le_succ _)
 have fi:=xj h0
 have fD:h0.get? h'.objs.size=none:=e01.none (xj _)
 have nO:∀ b,h0.get? b=none→¬ off b:=fun b hb ho=>by
  obtain ⟨o,e⟩:=a.old b ho
  rw [e0.none hb] at e;contradiction
 have nD:∀ {b},b < h0.objs.size + 2→b≠h'.objs.size:=fun l=>by rw [hsz];exact Nat.ne_of_lt l
 have stE:En (h0.objs.size + 1) h0.objs.size l items 0 h₁:=⟨⟨.none,keep1b _ _ he⟩,hit.at fun o e=>keep1b _ o e,hlT.at fun o e=>keep1b _ o (hk1 _ o e)⟩
 have loop:∀ s₃:Shared,s₃={ s with heap:=h₁,toks:=tk₁ } →
   codeAny (model pw w) A (.compLoop (.ListComp elt [⟨.Tuple [.Name x px,.Name y py] kt pt,.Call (.Name "enumerate" pf) [.Tuple es ke pe] [] pc,[],0⟩] sc' pos) 0 (.ref (h0.objs.size + 1)) (.ref h'.objs.size) (compEnvC sc' (clE sc' env) C env))
    (RR (.ref h'.objs.size) C) s₃:=fun s₃ e=>by
  rw [e]
  refine zYp S (off:=off) (K:=K) ((a.glb.keep e0).new fe) ((a.glb.keep e0).new fi) (fun q=>q.elim (nO _ fe) (nD (Nat.lt_succ_self _))) (fun q=>q.elim (nO _ fi) (nD (Nat.lt_succ_of_lt (Nat.lt_succ_self _)))) (fun q=>q.elim hl0 (nD (Nat.lt_succ_of_lt (Nat.lt_succ_of_lt hll))))
   (fun e=>absurd e.symm (Nat.ne_of_lt (Nat.lt_succ_self _))) (Nat.ne_of_lt (Nat.lt_succ_of_lt hll)) (Nat.ne_of_lt hll) hlen rfl rfl L 0 _ [] (Nat.zero_le _) rfl st1 stE
   (hlR.move' (e01.trans (.of keep1b)).seqs fun b hb=>hb.imp _root_.id fun e=>by rw [e];exact fD) kk fun acc' h2 tk2 k2 kb2 x2=>?_
  apply bc;intro hQ;rcases x2.at_.sees with ⟨m',hn',_⟩;refine hQ ?_;clear hQ
  have fC:h0.get? C=none:=e01.none (iq (Nat.le_of_lt lt))
  exact hRR acc' h'.objs.size C h2 tk2 m' k2 (e0.none fC) (Nat.ne_of_lt lt) hn'
   (dW (e0.trans e01) (.of keep1b) kb2 fun b hb=>e0.none (hb.elim (fun e=>e ▸ fD) fun hb=>hb.elim (fun e=>e ▸ fC) fun hb=>hb.elim (fun e=>e ▸ fe) fun e=>e ▸ fi)) (x2.out (nO _ fD))
 exact codeAny_compStart_list (loop _ rfl) (wpAny_pyIter_enum (keep1b _ _ he) (loop _ rfl))
theorem zYq (S:Snd w k c n) {n1:Nat} (S1:Snd w k c n1) {elt:Expr} {es:List Expr} {x y:Str} {px py pt pf pe pc pos:Pos} {kt ke:Nat} {K:Kp} {Q:Value→Shared→Prop} (a:At w k A sc env s off ρ) (hsc:scOk sc' sc=true) (hf:zz sc "enumerate"=true)
  (kk:ew c sc n1 (.Tuple es ke pe) ρ fun X=>∃ l,X=.tup l∧vX (oz c (relS sc' sc) n (.Tuple [.Name x px,.Name y py] kt pt) [] [] elt (pJ sc' ρ)) (cw 0 l) [] fun acc=>K (.lst acc)) (q:Res off s K Q) :
  wpAny (model pw w) A (eval (.ListComp elt [⟨.Tuple [.Name x px,.Name y py] kt pt,.Call (.Name "enumerate" pf) [.Tuple es ke pe] [] pc,[],0⟩] sc' pos) env) Q E s:=by
 have O:=pW hsc
 rw [eval_ListComp]
 refine wpAny_comprehension_free (use:=none) rfl (fun x=>rfl) (xz (aw a.en O)) O.kind O.loc (zXo (K:=fun acc=>K (.lst acc)) (RR:=fun acc C=>compPost (model pw w) A E none Q acc C) S S1 a hsc hf kk fun acc D C h' tk m' kk hC hDC hn ke r=>?_)
 exact ⟨m',hn,fun h3 hs3=>q (.lst acc) (.ref D) h3 tk kk (iv hC ke hn hs3) (zZd hn r hs3)⟩
theorem yXn {e:Expr} {f:Rho→Kp→Prop} {K:Kp} {Q:Value→Shared→Prop} (h:extL sc e=some f) (a:At w k A sc env s off ρ) (kk:f ρ K) (q:Res off s K Q):wpAny (model pw w) A (eval e env) Q E s:=by
 cases rQ h
 cases kk with | mk h1 h2 kk =>
 exact zYq (snd (yZ w k) 30) (snd (yZ w k) 30) a h1 h2 kk q
end
section
variable {w:World} {A:Around} {E:Value→Shared→Prop} {s:Shared} {env:Env}
theorem zKr {x:Str} {np pos:Pos} {Q:Flow→Shared→Prop} (hh:A.handled=none)
  (hx:wpAny (model pw w) A (eval (.Name x np) env) (fun v s₁=>v=.type "ZeroDivisionError"∧s₁=s) E s)
  (h:∀ h' e,Heap.MadeExc s.heap h' e "ZeroDivisionError" []→E (.ref e) { s with heap:=h' }) :
  wpAny (model pw w) A (exec (.Raise (some (.Name x np)) none pos) env) Q E s:=by
 have hc:=excClass_ZeroDivisionError
 have hself:isSubtype (.type "ZeroDivisionError") (.type "ZeroDivisionError")=pure true:=by rw [isSubtype_type];kernel_rfl
 show wpAny (model pw w) A (do standAt pos;raiseStmt env (some (do let v ← eval (.Name x np) env;standAt pos;pure v)) none) Q E s
 refine wpAny_bind (wpAny_standAt ?_)
 unfold raiseStmt
 dsimp only
 refine wpAny_bind (wpAny_bind (wpAny_mono hx (fun v s₁ h₁=>wpAny_bind (wpAny_standAt (wpAny_pure ?_))) fun _ _ e=>e))
 apply bc;intro hQ;rcases h₁ with ⟨rfl,hs₁⟩;refine hQ ?_;clear hQ
 subst s₁
 refine wpAny_bind (wpAny_pure ?_)
 dsimp only
 refine wpAny_bind (wpAny_holding ?_)
 unfold excFromValue isExcClass
 refine wpAny_bind (wpAny_bind (wpAny_pure ?_))
 simp only [if_true]
 rw [hc.base]
 refine wpAny_pure ?_
 simp only [if_true]
 refine wpAny_bind (wpAny_call_exc PySem.F.excCall_ZeroDivisionError fun h' e hn=>?_)
 apply bc;intro hQ;rcases hn.there with ⟨t,he,htn,ht⟩;refine hQ ?_;clear hQ
 have hT:({ s with heap:=h' }:Shared).TypeIs (.ref e) "ZeroDivisionError":=⟨_,he,rfl⟩
 refine wpAny_bind (wpAny_isInstance hT hc.base ?_)
 simp only [Bool.not_true,Bool.false_eq_true,if_false]
 refine wpAny_pure ?_
 first | (refine wpAny_bind (m:=isType (.type "ZeroDivisionError")) (wpAny_pure ?_)) | (refine wpAny_bind (wpAny_pure ?_))
 first | (rw [if_pos rfl]) | (simp only [if_true]) | dsimp only
 refine wpAny_bind (wpAny_holding ?_)
 unfold raisedFor
 first | (simp only [Bool.false_eq_true,if_false]) | (rw [if_neg (by decide)]) | skip
 first | (refine wpAny_bind (wpAny_typeOf hT ?_)) | (refine wpAny_bind ?_;refine wpAny_bind (wpAny_typeOf hT ?_))
 refine wpAny_bind (call_issubclass (issubclass_self hc hself) ?_)
 first | (refine wpAny_bind (wpAny_truthy_bool ?_)) | (refine wpAny_truthy_bool ?_) | (dsimp only [wants];first | (refine wpAny_bind (wpAny_truthy_bool ?_)) | (refine wpAny_truthy_bool ?_))
 first | (rw [if_pos rfl]) | (simp only [if_true]) | skip
 refine wpAny_pure ?_
 unfold setFlight raiseNew
 refine wpAny_bind (wpAny_bind (wpAny_field (i:=1) (x:=Value.none) he rfl rfl ?_))
 rw [if_neg (by decide)]
 refine wpAny_pure (wpAny_bind (wpAny_handled ?_))
 rw [hh]
 first
  | exact wpAny_throw (h h' e hn)
  | exact wpAny_bind (wpAny_pure (wpAny_throw (h h' e hn)))
end
theorem Inv1.many {P:Addr} {ln cl:Nat} {q:Str} {h h':Heap} {l:List Addr} (x:Inv1 P ln cl q h) (hl:∀ B∈l,∀ o,h.get? B=some o→Soft o) (k:∀ b o,b ∉ l→h.get? b=some o→h'.get? b=some o):Inv1 P ln cl q h' :=
 x.soft fun b o ns e=>k b o (fun hm=>ns (hl b hm o e)) e
theorem zW.many {h h':Heap} {l:List Addr} (x:zW h) (hl:∀ B∈l,∀ o,h.get? B=some o→Soft o) (k:∀ b o,b ∉ l→h.get? b=some o→h'.get? b=some o):zW h':=⟨x.1.many hl k,x.2.many hl k⟩
structure Kb (L:Addr) (h base:Heap):Prop where
 obj:∀ b o,b≠L→h.get? b=some o→Firm b o→base.get? b=some o
 live:∀ b o,b≠L→h.get? b=some o→∃ o',base.get? b=some o'
 inv:zW base
 loc:base.get? L=none
section
variable {w:World} {k:Nat} {A:Around} {E:Value→Shared→Prop} {off:Addr→Prop} {s:Shared}
noncomputable def dmT:Expr:=match fdB 7 with | .If t _ _ _ :: _=>t | _=>default
theorem cy (P:Params):mgv P ("ZeroDivisionError":Str)=none∧mbv P ("ZeroDivisionError":Str)=some (.type "ZeroDivisionError"):=⟨by kernel_rfl,by kernel_rfl⟩
theorem yXo {vs:List Value} {Q:Value→Shared→Prop} {envL:Env} {LL:Addr} {mL:Str→Option Value} {x:Int} (room:Room (k + 1) A) (G:Glb w s.heap) (ol:Old off s.heap) (r:RdL s.heap off [.int x,.int 0] vs)
  (hfr:A.frames=some [envL]) (hkL:envL.scope.kind≠.module) (hfL:envL.frame=some LL) (hnL:s.heap.Ns LL mL)
  (hE:∀ base e t h' tk,Kb LL s.heap base→Heap.FlyingW base [envL] e (.type "ZeroDivisionError") (.ref t) h'→h'.TupAt t []→base.get? t=none→(∀ o,s.heap.get? LL=some o→∃ sl,h'.get? LL=some { o with slots:=sl })→E (.ref e) { s with heap:=h',toks:=tk }) :
  wpAny (model pw w) A (call (.ref 56) vs) Q E s:=by
 refine qx (at7 w) (names:=["a","b"]) (locs:=["q","r"]) (by rfl) (zW6 _) room G ol r rfl fun env m cm ad s₁ henv F=>?_
 have S:=snd (yZ w k)
 obtain ⟨np,rp,els,ip,hb⟩:∃ np rp els ip,fdB 7=[.If dmT [.Raise (some (.Name "ZeroDivisionError" np)) none rp] els ip]:=⟨_,_,_,_,by rfl⟩
 have hsame:=F.call.toInCall.same
 rw [hb]
 refine wpAny_execs_cons (wpAny_If ((S 20).t (F.at' []) (K:=fun b=>b=true) ?_ fun b h1 tk1 hbt e1=>?_))
 ·conv=>whnf
  rfl
 subst hbt
 have F1:=F.keep (tk:=tk1) e1
 obtain ⟨l1,l2⟩:=cy w.params
 refine wpAny_execs_cons (zKr (s:={ s₁ with heap:=h1,toks:=tk1 }) F1.room.hd (yV F1.glbs F1.en (by rfl) l1 l2 ⟨rfl,rfl⟩) fun h2 e hm=>?_)
 have hlf:env.frame=some env.locals:=by rw [henv];rfl
 have hk1:∀ b o,(gh s).heap.get? b=some o→h1.get? b=some o:=F1.call.toInCall.keep
 have hidL:Hid LL=false:=by
  cases hh:Hid LL with
  | false=>rfl
  | true =>
   apply bc;intro hQ;rcases yQ G.tab hh with ⟨ps,e2⟩;rcases xk hnL e2 with ⟨es,ep,e4⟩;refine hQ ?_;clear hQ
   cases e4
 have hnL1:h1.Ns LL mL:=hnL.at' fun o e=>hk1 _ _ (uv e hidL)
 have hLs:LL < s.heap.objs.size:=by apply bc;intro hQ;rcases hnL with ⟨o,es,ep,e,_⟩;refine hQ ?_;clear hQ;exact Heap.lt_size e
 have hloc:env.locals=s.heap.objs.size:=by rw [henv];rfl
 have hfresh:∀ b o,s.heap.get? b=some o→b≠env.locals:=fun b o e=>by rw [hloc];exact Nat.ne_of_lt (Heap.lt_size e)
 have hns1:h1.Ns env.locals m:=F1.call.toInCall.ns
 have hsoft:∀ B∈[LL,env.locals],∀ o,h1.get? B=some o→Soft o:=fun B hB=>by
  rcases List.mem_cons.mp hB with rfl | hB
  ·exact Soft.ns hnL1
  ·rw [List.mem_singleton.mp hB];exact Soft.ns hns1
 have hbg:∀ b o,b ∉ [LL,env.locals]→h1.get? b=some o→(hideAll h1 [LL,env.locals]).get? b=some o:=fun b o hb e=>hideAll_get _ e hb
 have tb:zW (hideAll h1 [LL,env.locals]):=zW.many F1.tab hsoft hbg
 have kb:Kb LL s.heap (hideAll h1 [LL,env.locals]):=by
  refine ⟨fun b o hb e f=>?_,fun b o hb e=>?_,tb,hideAll_none _ (by simp)⟩
  ·have hn:b ∉ [LL,env.locals]:=by simp [hb,hfresh b o e]
   cases hh:Hid b with
   | false=>exact hbg b o hn (hk1 b o (uv e hh))
   | true =>
    obtain ⟨ps,e2⟩:=yQ G.tab hh
    rw [e] at e2;cases e2
    rcases f with f | f
    ·rw [hh] at f;cases f
    ·cases f
  ·have hn:b ∉ [LL,env.locals]:=by simp [hb,hfresh b o e]
   cases hh:Hid b with
   | false=>exact ⟨o,hbg b o hn (hk1 b o (uv e hh))⟩
   | true =>
    obtain ⟨ps,e2⟩:=yQ F1.tab hh
    exact ⟨_,hbg b _ hn e2⟩
 have stays:(hideAll h1 [LL,env.locals]).StaysIn h1:=fun b o e=>of_hideAll _ e
 have ff:h1.FunFrames (hideAll h1 [LL,env.locals]) [env,envL]:=by
  refine Heap.FunFrames.cons (L:=env.locals) (m:=m) (by rw [F.en.scope,F.en.kind];decide) hlf hns1 (hideAll_none _ (by simp)) ?_
  exact Heap.FunFrames.cons (L:=LL) (m:=mL) hkL hfL hnL1 (hideAll_none _ (by simp)) trivial
 have hmo:Heap.MadeExcOf h1 h2 e (.type "ZeroDivisionError") []:=hm.of
 refine wpAny_leaves_madeW (s:={ s₁ with heap:=h2,toks:=tk1 }) (h:=h1) (Around.frames_deeper hfr) hlf stays ff hmo fun h3 t hfl htup hbt hup=>?_
 apply bc;intro hQ;rcases hsame with ⟨hx,tkx,es⟩;refine hQ ?_;clear hQ
 have:=hE _ e t h3 tk1 kb hfl htup hbt fun o e=>by
  have e2:=hmo.keeps LL o (hk1 _ _ (uv e hidL))
  refine hup LL o e2 fun vs d=>?_
  apply bc;intro hQ;rcases hnL with ⟨o',es',ep',e3,e4,_⟩;refine hQ ?_;clear hQ
  rw [e] at e3;cases e3;rw [d] at e4;cases e4
 rw [es]
 exact this
end
section
variable {w:World} {A:Around} {E:Value→Shared→Prop} {off₀:Addr→Prop} {s₀ s:Shared} {k n:Nat} {sc:Scope} {env:Env} {ρ:SRho} {c:Cx} {m cm:Str→Option Value} {ad:Str→Addr}
theorem Kb.to {L:Addr} {h base h':Heap} (kb:Kb L h base) (st:base.StaysIn h'):∀ b o,b≠L→h.get? b=some o→Firm b o→h'.get? b=some o:=fun b o hb e f=>st b o (kb.obj b o hb e f)
theorem Kb.seqs {off:Addr→Prop} {L:Addr} {h base h':Heap} {mL:Str→Option Value} (kb:Kb L h base) (hn:h.Ns L mL) (st:base.StaysIn h'):Seqs off h h':=fun a o ho ⟨vs,n,d⟩ _=>by
 refine kb.to st a o ?_ ho (.nf fun vs' d'=>by rw [d] at d';contradiction)
 rintro rfl
 apply bc;intro hQ;rcases xk hn ho with ⟨es,ep,e2⟩;refine hQ ?_;clear hQ
 rw [d] at e2;contradiction
theorem Ns.slots {L:Addr} {h h':Heap} {mL:Str→Option Value} (hn:h.Ns L mL) (lo:∀ o,h.get? L=some o→∃ sl,h'.get? L=some { o with slots:=sl }):h'.Ns L mL:=by
 apply bc;intro hQ;rcases hn with ⟨o,es,ep,e1,e2,e3⟩;rcases lo o e1 with ⟨sl,e4⟩;refine hQ ?_;clear hQ
 exact ⟨_,es,ep,e4,e2,e3⟩
theorem Fr.based (F:Fr w k A s₀ sc env off₀ ρ m cm ad s) {base h':Heap} {tk:Nat} (kb:Kb env.locals s.heap base) (st:base.StaysIn h') (lo:∀ o,s.heap.get? env.locals=some o→∃ sl,h'.get? env.locals=some { o with slots:=sl }) :
  Fr w k A s₀ sc env off₀ ρ m cm ad { s with heap:=h',toks:=tk }:=by
 have hn:=F.call.toInCall.ns
 have neL:∀ b o,s₀.heap.get? b=some o→b≠env.locals:=fun b o e=>Nat.ne_of_lt (Nat.lt_of_lt_of_le (Heap.lt_size e) F.call.toInCall.fresh)
 refine ⟨F.room,F.en,⟨⟨?_,Ns.slots hn lo,fun b o e=>kb.to st b o (neL b o e) (F.call.toInCall.keep b o e) (.inl (F.nh e)),F.call.toInCall.fresh⟩,fun kk cc hc=>?_,F.call.apart,F.call.above⟩,F.glb,kb.inv.all st,F.old,fun x sl hx=>?_,F.nd,F.inj,F.hid⟩
 ·apply bc;intro hQ;rcases F.call.toInCall.same with ⟨h₁,tk',es⟩;refine hQ ?_;clear hQ
  exact ⟨h',tk,by rw [es]⟩
 ·apply bc;intro hQ;rcases F.call.cell kk cc hc with ⟨o,h1,h2⟩;refine hQ ?_;clear hQ
  refine ⟨o,kb.to st cc o ?_ h1 (.nf fun vs d=>by rw [h2] at d;contradiction),h2⟩
  rintro rfl
  apply bc;intro hQ;rcases xk hn h1 with ⟨es,ep,e2⟩;refine hQ ?_;clear hQ
  rw [h2] at e2;contradiction
 ·have:=F.slots x sl hx
  cases sl with
  | un=>trivial
  | val X=>apply bc;intro hQ;rcases this with ⟨v,h1,h2⟩;refine hQ ?_;clear hQ;exact ⟨v,h1,h2.move (kb.seqs hn st) fun _ q=>q⟩
  | own l =>
   apply bc;intro hQ;rcases this with ⟨h0,h1,vs,⟨nn,h2⟩,h3⟩;refine hQ ?_;clear hQ
   refine ⟨h0,h1,vs,⟨nn,kb.to st _ _ ?_ h2 (.ty rfl)⟩,h3.move (kb.seqs hn st) fun _ q=>q⟩
   intro e
   apply bc;intro hQ;rcases hn with ⟨o',es,ep,e1,e2,_⟩;refine hQ ?_;clear hQ
   rw [← e,h2] at e1;(injection e1 with e1;subst e1);contradiction
theorem Kb.step {off:Addr→Prop} {L:Addr} {h base h':Heap} {mL:Str→Option Value} (kb:Kb L h base) (hn:h.Ns L mL) (st:base.StaysIn h') (lo:∀ o,h.get? L=some o→∃ sl,h'.get? L=some { o with slots:=sl }):Step off h off h':=by
 refine ⟨fun I o ho t=>kb.to st I o ?_ ho t.firm,kb.seqs hn st,fun _ q=>.inl q,fun a o ho=>?_⟩
 ·rintro rfl
  apply bc;intro hQ;rcases xk hn ho with ⟨es,ep,e2⟩;rcases t with ⟨_,_,_,e3,_⟩;refine hQ ?_;clear hQ
  rw [e2] at e3;contradiction
 ·by_cases hb:a=L
  ·subst hb;obtain ⟨sl,e⟩:=lo o ho;exact ⟨_,e⟩
  ·obtain ⟨o',e⟩:=kb.live a o hb ho;exact ⟨o',st a o' e⟩
theorem Fr.storeLoc (F:Fr w k A s₀ sc env off₀ ρ m cm ad s) {A':Around} {x:Str} {v:Value} {Q:Unit→Shared→Prop} (hl:sc.names.lookup x=some .local)
  (q:∀ h' tk,h'.Ns env.locals (fun y=>if y=x then some v else m y)→Heap.SameBut env.locals s.heap h'→Stored s₀ sc env m cm x v s h' tk (fun y=>if y=x then some v else m y) cm env.locals→Q () { s with heap:=h',toks:=tk }):wpAny (model pw w) A' (storeName env x v) Q E s:=by
 have hk:env.scope.kind=.function:=by rw [F.en.scope,F.en.kind]
 have X:=F.call
 refine wpAny_storeName_local (by unfold Env.kindOf;rw [F.en.scope];exact hl) X.toInCall.ns (fun h' hn' hs'=>q h' (s.toks + 1) hn' hs' ?_) (by rw [hk];rfl)
 refine ⟨fun b o hb e=>hs'.extBut b o hb e,fun o ho vs nn d=>?_,.inl rfl,(let ⟨o,_,_,e,_⟩:=hn';⟨o,e⟩),⟨⟨?_,hn',fun b o e=>?_,X.toInCall.fresh⟩,fun kk c hc=>?_,X.apart,X.above⟩,fun t=>t.but (Soft.ns X.toInCall.ns) fun b o hb e=>hs'.extBut b o hb e,fun y u hy hu=>hu.imp (fun ⟨h1,h2⟩=>⟨h1,(if_neg hy).trans h2⟩) fun h=>h,.inl ⟨hl,if_pos rfl⟩⟩
 ·apply bc;intro hQ;rcases xk X.toInCall.ns ho with ⟨es,ep,e2⟩;refine hQ ?_;clear hQ
  rw [e2] at d;contradiction
 ·apply bc;intro hQ;rcases X.toInCall.same with ⟨h₁,tk,e⟩;refine hQ ?_;clear hQ
  exact ⟨h',_,by rw [e]⟩
 ·exact hs'.extBut b o (Nat.ne_of_lt (Nat.lt_of_lt_of_le (Heap.lt_size e) X.toInCall.fresh)) (X.toInCall.keep b o e)
 ·exact (X.cell kk c hc).sameBut hs' (Nat.ne_of_gt (X.above kk c (mem_of_lookup hc)))
theorem Step.ns {h h':Heap} {L:Addr} {m m':Str→Option Value} (hn:h.Ns L m) (hn':h'.Ns L m') (sb:Heap.SameBut L h h') {off off':Addr→Prop} (le:∀ a,off' a→off a):Step off h off' h':=by
 have kb:∀ b o,b≠L→h.get? b=some o→h'.get? b=some o:=fun b o hb e=>sb.extBut b o hb e
 refine ⟨fun I o ho t=>kb I o (iK hn ho t.nd) ho,uQ hn kb,fun a q=>.inl (le a q),fun a o ho=>?_⟩
 by_cases ha:a=L
 ·apply bc;intro hQ;rcases hn' with ⟨o',_,_,q1,_⟩;refine hQ ?_;clear hQ;rw [ha];exact ⟨o',q1⟩
 ·exact ⟨o,kb a o ha ho⟩
theorem Fr.gone (F:Fr w k A s₀ sc env off₀ ρ m cm ad s) {x:Str} {h':Heap} {tk:Nat} {v:Option Value} (hl:sc.names.lookup x=some .local) (hx:∀ l,ρ.lookup x≠some (.own l)) (hn':h'.Ns env.locals (fun y=>if y=x then v else m y)) (hs':Heap.SameBut env.locals s.heap h') :
  Fr w k A s₀ sc env off₀ (setS x .un ρ) (fun y=>if y=x then v else m y) cm ad { s with heap:=h',toks:=tk }:=by
 have X:=F.call
 have kb:∀ b o,b≠env.locals→s.heap.get? b=some o→h'.get? b=some o:=fun b o hb e=>hs'.extBut b o hb e
 have le:∀ a,offF off₀ (setS x .un ρ) ad a→offF off₀ ρ ad a:=fun a=>dq
 have sq:∀ off,Seqs off s.heap h':=fun off=>uQ X.toInCall.ns kb
 have oth:∀ y u,y≠x→Has sc env m cm y u→Has sc env (fun y=>if y=x then v else m y) cm y u:=fun y u hy hu=>hu.imp (fun ⟨h1,h2⟩=>⟨h1,(if_neg hy).trans h2⟩) fun h=>h
 refine ⟨F.room,F.en,⟨⟨?_,hn',fun b o e=>kb b o (Nat.ne_of_lt (Nat.lt_of_lt_of_le (Heap.lt_size e) X.toInCall.fresh)) (X.toInCall.keep b o e),X.toInCall.fresh⟩,fun kk c hc=>(X.cell kk c hc).sameBut hs' (Nat.ne_of_gt (X.above kk c (mem_of_lookup hc))),X.apart,X.above⟩,F.glb,F.tab.but (Soft.ns X.toInCall.ns) kb,F.old,fun y sl hy=>?_,xV F.nd,fun y z l l' h1 h2 e=>?_,F.hid⟩
 ·apply bc;intro hQ;rcases X.toInCall.same with ⟨h₁,tk',e⟩;refine hQ ?_;clear hQ
  exact ⟨h',tk,by rw [e]⟩
 ·rw [zZ] at hy
  split at hy
  ·(injection hy with hy;subst hy);trivial
  ·rename_i hne
   have so:=F.slots y sl hy
   cases sl with
   | un=>trivial
   | val Y=>apply bc;intro hQ;rcases so with ⟨u,h3,h4⟩;refine hQ ?_;clear hQ;exact ⟨u,oth y u hne h3,h4.move (sq _) le⟩
   | own l =>
    apply bc;intro hQ;rcases so with ⟨h0,h3,items,⟨nn,h4⟩,h5⟩;refine hQ ?_;clear hQ
    exact ⟨h0,oth y _ hne h3,items,⟨nn,kb _ _ (iK X.toInCall.ns h4 fun es ep d=>by contradiction) h4⟩,h5.move (sq _) le⟩
 ·rw [zZ] at h1 h2
  split at h1
  ·cases h1
  ·split at h2
   ·cases h2
   ·exact F.inj y z l l' h1 h2 e
end
theorem zKs (P:Params):mgv P ("str":Str)=none∧mbv P ("str":Str)=some (.type "str"):=⟨by kernel_rfl,by kernel_rfl⟩
section
variable {w:World} {A:Around} {E:Value→Shared→Prop} {off₀:Addr→Prop} {s₀ s:Shared} {k n:Nat} {env:Env} {ρ:SRho} {m cm:Str→Option Value} {ad:Str→Addr}
theorem zKt {x:Str} {X:V} {vs:List Str} {ρ:SRho} (h:ρ.lookup x=some (.val X)):(xy vs ρ).lookup x=some X:=by
 induction ρ with
 | nil=>exact nn h
 | cons p r ih =>
  obtain ⟨y,sl⟩:=p
  unfold xy at ih ⊢
  by_cases hx:x=y
  ·subst hx
   rw [pZ] at h
   rw [Option.some.inj h,List.filterMap_cons]
   exact pZ
  ·rw [sJ hx] at h
   rw [List.filterMap_cons]
   cases sl with
   | un=>exact ih h
   | val Z=>exact (sJ hx).trans (ih h)
   | own l =>
    dsimp only
    cases vs.contains y with
    | true=>exact (sJ hx).trans (ih h)
    | false=>exact ih h
theorem fk {h h1 h2:Heap} {L:Addr} {mL:Str→Option Value} (hn:h.Ns L mL) (lo:∀ o,h.get? L=some o→∃ sl,h1.get? L=some { o with slots:=sl }) (up:h1.UpToSlots h2):∀ o,h.get? L=some o→∃ sl,h2.get? L=some { o with slots:=sl }:=fun o e=>by
 obtain ⟨sl,e1⟩:=lo o e
 obtain ⟨sl2,e2⟩:=up L _ e1 fun vs d=>by
  obtain ⟨es,ep,e4⟩:=xk hn e
  have d:o.data=.fields vs:=d
  rw [d] at e4;contradiction
 exact ⟨sl2,e2⟩
theorem zYr {a b:Str} {u v x:Slt} {ρ:SRho} (y:Str):(setS a u (setS b v ρ)).lookup y=(setS a u (setS b v (setS a x ρ))).lookup y:=by
 rw [zZ,zZ,zZ,zZ,zZ]
 split
 ·rfl
 ·rfl
theorem zKu {B:Around} {Q:Flow→Shared→Prop} {p6 p7 p8 p9 p10 p11 p12:Pos} {n0:Nat} {e t:Addr} (F:Fr w (k + 1) A s₀ (fdSc 28) env off₀ ρ m cm ad s) (hu:B.units + 2 < cLine)
  (hpr:ρ.lookup ("problem":Str)=some (.val (.ref e))) (ea:s.heap.ExcAt e "ZeroDivisionError" (.ref t)) (ht:s.heap.TupAt t [])
  (q:∀ h' tk m',Fr w (k + 1) A s₀ (fdSc 28) env off₀ (setS "refused" (.val (.str "nought")) ρ) m' cm ad { s with heap:=h',toks:=tk }→Step (offF off₀ ρ ad) s.heap (offF off₀ (setS "refused" (.val (.str "nought")) ρ) ad) h'→Q .next { s with heap:=h',toks:=tk }) :
  wpAny (model pw w) B (exec (.Assign [.Name "refused" p6] (.BinOp (.Constant (.str "nought") n0 p7) .Add (.Call (.Name "str" p8) [.Name "problem" p9] [] p10) p11) p12) env) Q E s:=by
 obtain ⟨s1,s2⟩:=zKs w.params
 have a:=F.at' []
 refine wpAny_Assign_Name (wpAny_BinOp (wpAny_Constant_str (Call_ (yV F.glbs F.en (by rfl) s1 s2 (callWith_type1 (args_cons (Sees.name a.sees F.en (zKt (vs:=[]) hpr) fun v r=>args_nil ?_) (zX rfl _ _)) (zX rfl _ _) (wz rfl _ _)))))) (zY rfl _ _ _)
 obtain rfl:=r
 refine P.str_of_exc_none PySem.F.excStr_ZeroDivisionError hu ea ht (PyProof.Rows.add_str (fun t' tk7=>?_) (by decide +kernel))
 have F7:=F.keep (tk:=tk7) (Keep.refl _)
 refine F7.storeLoc (x:="refused") (by rfl) fun h8 tk8 hns8 hs8 st8=>?_
 exact q _ _ _ (F7.setVal (X:=.str "nought") (by
  have:("nought":Str)++Str.empty="nought":=by decide +kernel
  rw [this];exact Rd.str _ _) st8) (Step.stored F7 st8 fun _ z=>zv z)
theorem yWz {Kn:SRho→Prop} {Kr:V→Prop} {Q:Flow→Shared→Prop} {a1 a2:Expr} {p1 p2 p3 p4 p5 p6 p7 p8 p9 p10 p11 p12 p13 p14:Pos} {n0:Nat} (hp:paL A env) (F:Fr w (k + 1) A s₀ (fdSc 28) env off₀ ρ m cm ad s) (n1:yY a1=false) (n2:yY a2=false)
  (hal:jW [a1,a2] ρ fun l=>∃ x,l=[.int x,.int 0]) (kk:Kn (setS "problem" .un (setS "refused" (.val (.str "nought")) ρ)))
  (q:∀ f s',Out w (k + 1) A s₀ (fdSc 28) env off₀ (offF off₀ ρ ad) s.heap Kn Kr (fun _=>False) f s'→Q f s') :
  wpAny (model pw w) A (exec (.Try [.Assign [.Name "refused" p1] (.Call (.Name "int_divmod" p2) [a1,a2] [] p3) p4] [.ExceptHandler (some (.Name "ZeroDivisionError" p5)) (some "problem") [.Assign [.Name "refused" p6] (.BinOp (.Constant (.str "nought") n0 p7) .Add (.Call (.Name "str" p8) [.Name "problem" p9] [] p10) p11) p12] p13] [] [] p14) env) Q E s:=by
 have S:=snd (yZ w (k + 1))
 apply bc;intro hQ;rcases (at7 w).obj with ⟨h3,h4⟩;rcases h4 with ⟨hg,hd⟩;refine hQ ?_;clear hQ
 have hn:=F.call.toInCall.ns
 refine wpAny_Try_except (wpAny_execs_cons (wpAny_Assign_Name (Call_ (xq F.glbs F.en (by rfl) (at7 w).name (callWith_def hd ((S 30).es p3 (F.at' []) hal fun l vs h1 tk1 hl e1 r1=>⟨(F.glbs.keep e1).at_ _ _ hg (.nf fun vs d=>by rw [hd] at d;cases d),?_⟩) (zX n1 _ _)))) (zY rfl _ _ _)))
 apply bc;intro hQ;rcases hl with ⟨x,rfl⟩;refine hQ ?_;clear hQ
 have F1:=F.keep (tk:=tk1) e1
 have hn1:h1.Ns env.locals m:=F1.call.toInCall.ns
 refine yXo (s:={ s with heap:=h1,toks:=tk1 }) F.room F1.glbs (F1.at' []).old r1 hp.1 (by rw [F.en.scope,F.en.kind];decide) hp.2 hn1 fun base e t h2 tk2 kb hfl htup hbt hlo=>?_
 refine wpAny_looks_onW (s:={ s with heap:=h2,toks:=tk2 }) hp.1 hp.2 hfl fun h3' hh up3=>?_
 refine wpAny_landsW (s:={ s with heap:=h3',toks:=tk2 }) hh fun h4' hfl4 up4=>?_
 have lo3:=fk hn1 hlo up3
 have lo4:=fk hn1 lo3 up4
 have F4:=F1.based (tk:=tk2) kb hfl4.1 lo4
 obtain ⟨l1,l2⟩:=cy w.params
 have hT:({ s with heap:=h4',toks:=tk2 }:Shared).TypeIs (.ref e) "ZeroDivisionError":=by
  apply bc;intro hQ;rcases hfl4.there with ⟨ob,g1,g2⟩;refine hQ ?_;clear hQ
  exact ⟨ob,g1,g2⟩
 refine wpAny_handleBy_builtin_as (X:="ZeroDivisionError") (T:="ZeroDivisionError") (b:=true) PySem.F.excRaise_ZeroDivisionError.isExc (isSubtype_of_subB (by decide +kernel)) (by rw [isSubtype_type];kernel_rfl) ?_
 refine yV F4.glbs F4.en (by rfl) l1 l2 ⟨rfl,hT,?_⟩
 rw [if_pos rfl]
 refine wpAny_setFlight_noneW (s:={ s with heap:=h4',toks:=tk2 }) hfl4.1 hfl4.2.2.1 hfl4.2.2.2 fun h5 st5 ff5 tr5 keep5=>?_
 have up5:h4'.UpToSlots h5:=fun b o hb hnf=>⟨o.slots,keep5 b o hb hnf⟩
 have lo5:=fk hn1 lo4 up5
 have F5:=F1.based (tk:=tk2) kb st5 lo5
 have htup5:h5.TupAt t []:=((htup.of_slots up3).of_slots up4).of_slots up5
 have hn5:h5.Ns env.locals m:=F5.call.toInCall.ns
 refine F5.storeLoc (x:="problem") (by rfl) fun h6 tk6 hns6 hs6 st6=>?_
 apply bc;intro hQ;rcases tr5 with ⟨oe,vs5,T5,oT5,ts5,g1,⟨g2,g3⟩,g4,_⟩;refine hQ ?_;clear hQ
 have neE:e≠env.locals:=iK hn5 g1 fun es ep d=>by rw [g4] at d;cases d
 apply bc;intro hQ;rcases htup5 with ⟨o2,nn,q3,q4,q5⟩;refine hQ ?_;clear hQ
 have neT:t≠env.locals:=iK hn5 q3 fun es ep d=>by rw [q5] at d;cases d
 have F6:=F5.setVal (X:=.ref e) (Rd.ref e) st6
 refine wpAny_execs_cons (zKu (e:=e) (t:=t) F6 (show (A.mark (some (Value.ref e))).units + 2 < cLine from (by have:=F.room.un;show A.units + 2 < cLine;lia)) (by rw [zZ];exact if_pos rfl) ⟨oe,vs5,hs6.extBut _ _ neE g1,g2,g4,g3⟩ ⟨o2,nn,hs6.extBut _ _ neT q3,q4,q5⟩ fun h8 tk8 m8 F8 sg8=>?_)
 refine wpAny_execs_nil ?_
 refine wpAny_nameGoes_keeps (by unfold Env.kindOf;rw [F.en.scope];rfl) F8.call.toInCall.ns (by rw [F.en.scope,F.en.kind];rfl) fun h9 v hn9 hs9=>?_
 have F10:=(F8.gone (x:="problem") (tk:=tk8 + 1) (by rfl) (fun l e9=>by rw [zZ,if_neg (by decide),zZ,if_pos rfl] at e9;cases e9) hn9 hs9).congr (ρ':=setS "problem" .un (setS "refused" (.val (.str "nought")) ρ)) zYr (xV (xV F.nd))
 exact q .next _ ⟨_,_,_,_,kk,F10,((((Step.keep (off':=offF off₀ ρ ad) e1 fun _ z=>z).trans (kb.step hn1 st5 lo5)).trans (Step.stored F5 st6 fun _ z=>zv z)).trans (sg8.trans (Step.ns F8.call.toInCall.ns hn9 hs9 fun _ z=>z))).widen fun b hb=>.inl (zv (dq hb))⟩
end
end Mine
end
section
open PySem PySem.W PySem.Calls PyProof.Rows PySem.Builtin PySem.Builtin.Str PySem.F
namespace Mine
inductive Ended (I:Addr) (h h':Heap) (e:Addr):Prop where
 | mk (hm:Heap) (oe:Obj) (vs:Array Value) (a0:Value) (om:Obj) (sb:Heap.SameBut I h hm) (hom:hm.get? I=some om) (htm:Tame om) (hup:∀ b o,hm.get? b=some o→h'.get? b=some o) (hen:hm.get? e=none) (he:h'.get? e=some oe)
  (hc:oe.cls=.type "StopIteration") (hd:oe.data=.fields vs) (h1:vs[1]?=some .none) (h0:vs[0]?=some a0)
section
variable {w:World} {A:Around} {E:Value→Shared→Prop} {s:Shared}
theorem zKv {l:Addr} {items} {Q:Value→Shared→Prop} (hl:s.heap.IsList l items)
  (hQ:Q (.ref s.heap.objs.size) { s with heap:=s.heap.push { cls:=.type "list_iterator",data:=.fields #[.ref l,.int 0 0] } }) :
  wpAny (model pw w) A (call (.builtin "iter") [.ref l]) Q E s:=by
 refine call_function_entry (by decide +kernel) (by decide +kernel) kdk_entry_iter (kdk_args_iter _) ?_
 unfold Builtin.«iter»
 refine wpAny_bind (m:=someArgs "iter" 1 2 _) (wpAny_of_eq (a:=[Value.ref l]) (by first | rfl | kernel_rfl!) ?_)
 show wpAny _ _ (pyIter (.ref l) >>= _) _ _ _
 refine wpAny_bind (wpAny_pyIter_list hl ?_)
 exact wpAny_pure ⟨_,rfl,hQ⟩
theorem zKw {I l:Addr} {i:Nat} {items} {x:Value} {Q:Value→Shared→Prop} (hit:s.heap.IsListIter I l i) (hl:s.heap.IsList l items) (hx:items[i]?=some x)
  (hQ:∀ h',h'.IsListIter I l (i + 1)→Heap.SameBut I s.heap h'→Q x { s with heap:=h' }) :
  wpAny (model pw w) A (call (.builtin "next") [.ref I]) Q E s:=by
 apply bc;intro hQ;rcases id hit with ⟨o,ho,hc,hd⟩;rcases hl with ⟨ol,hol,_,nl,hdl⟩;refine hQ ?_;clear hQ
 refine call_function_entry (by decide +kernel) (by decide +kernel) kdk_entry_next (kdk_args_next _) ?_
 unfold Builtin.«next»
 refine wpAny_bind (m:=someArgs "next" 1 2 _) (wpAny_of_eq (a:=[Value.ref I]) (by first | rfl | kernel_rfl!) ?_)
 dsimp only
 refine wpAny_bind (wpAny_specialOf (name:=Str.ofString "__next__") hit.typeIs slot_listiter_next.lookup ?_)
 refine wpAny_ite_split (fun hab=>absurd hab (by decide)) (fun _=>?_)
 refine wpAny_bind (wpAny_callSpecial?_slot (name:=Str.ofString "__next__") hit.typeIs slot_listiter_next
  (wpAny_call_entry slot_listiter_next hit.typeIs entry_listiter_next ?_ (args_listiter_next _)))
 show wpAny _ _ (field (.ref I) 0 >>= _) _ _ s
 refine wpAny_bind (wpAny_field ho hd (x:=.ref l) rfl ?_)
 show wpAny _ _ (if (Value.ref l == Value.none)=true then _ else _) _ _ s
 rw [if_neg (show ¬ ((Value.ref l == Value.none)=true) from Bool.false_ne_true)]
 show wpAny _ _ (field (.ref I) 1 >>= _) _ _ s
 refine wpAny_bind (wpAny_field ho hd (x:=.int i 0) rfl ?_)
 show wpAny _ _ (seqItems? (.ref l) >>= _) _ _ s
 refine wpAny_bind (wpAny_seqItems hol hdl ?_)
 simp only [Int.toNat_natCast,hx]
 refine wpAny_bind (wpAny_setField ho hd (by simp) (wpAny_pure ⟨x,rfl,wpAny_pure ⟨_,rfl,hQ _ ?_ (Heap.SameBut.update ..)⟩⟩))
 exact ⟨_,Heap.get?_update_self _ ho (Obj.isFreed_of_fields (Obj.data_mapFields hd _)),(Obj.cls_mapFields ..).trans hc,by
  rw [Obj.data_mapFields hd];simp [rawInt]⟩
theorem zYs {I l:Addr} {i:Nat} {items} {Q:Value→Shared→Prop} (hh:A.handled=none) (hit:s.heap.IsListIter I l i) (hl:s.heap.IsList l items) (hx:items[i]?=none)
  (hE:∀ h' e,Ended I s.heap h' e→E (.ref e) { s with heap:=h' }) :
  wpAny (model pw w) A (call (.builtin "next") [.ref I]) Q E s:=by
 apply bc;intro hQ;rcases id hit with ⟨o,ho,hc,hd⟩;rcases hl with ⟨ol,hol,_,nl,hdl⟩;refine hQ ?_;clear hQ
 refine call_function_entry (by decide +kernel) (by decide +kernel) kdk_entry_next (kdk_args_next _) ?_
 unfold Builtin.«next»
 refine wpAny_bind (m:=someArgs "next" 1 2 _) (wpAny_of_eq (a:=[Value.ref I]) (by first | rfl | kernel_rfl!) ?_)
 dsimp only
 refine wpAny_bind (wpAny_specialOf (name:=Str.ofString "__next__") hit.typeIs slot_listiter_next.lookup ?_)
 refine wpAny_ite_split (fun hab=>absurd hab (by decide)) (fun _=>?_)
 refine wpAny_bind (wpAny_callSpecial?_slot (name:=Str.ofString "__next__") hit.typeIs slot_listiter_next
  (wpAny_call_entry slot_listiter_next hit.typeIs entry_listiter_next ?_ (args_listiter_next _)))
 show wpAny _ _ (field (.ref I) 0 >>= _) _ _ s
 refine wpAny_bind (wpAny_field ho hd (x:=.ref l) rfl ?_)
 show wpAny _ _ (if (Value.ref l == Value.none)=true then _ else _) _ _ s
 rw [if_neg (show ¬ ((Value.ref l == Value.none)=true) from Bool.false_ne_true)]
 show wpAny _ _ (field (.ref I) 1 >>= _) _ _ s
 refine wpAny_bind (wpAny_field ho hd (x:=.int i 0) rfl ?_)
 show wpAny _ _ (seqItems? (.ref l) >>= _) _ _ s
 refine wpAny_bind (wpAny_seqItems hol hdl ?_)
 simp only [Int.toNat_natCast,hx]
 refine wpAny_bind (wpAny_rule (wpAny_bind (wpAny_setField ho hd (by simp) ?_)))
 show wpAny _ _ (newExc (.type "StopIteration") [] >>= _) _ _ _
 refine wpAny_bind ?_
 simp only [newExc,newTuple]
 refine wpAny_bind (wpAny_newObj_type ?_ (by size_fits))
 refine wpAny_bind (m:=firstArgMember _ _) (wpAny_of_eq (a:=Value.none) (by first | rfl | (simp only [firstArgMember];rfl)) ?_)
 refine wpAny_newObj_type ?_ (by size_fits)
 simp only [raiseNew]
 refine wpAny_bind (wpAny_handled ?_)
 first | rw [show A.in1.handled=none from hh] | rw [hh]
 refine wpAny_bind (wpAny_pure (wpAny_throw ?_))
 have hu:=Heap.get?_update_self (h:=s.heap) (Obj.mapFields (·.setIfInBounds 0 Value.none)) ho (Obj.isFreed_of_fields (Obj.data_mapFields hd _))
 refine hE _ _ ⟨s.heap.update I (Obj.mapFields (·.setIfInBounds 0 Value.none)),_,_,_,_,Heap.SameBut.update ..,hu,⟨"list_iterator",_,(Obj.cls_mapFields ..).trans hc,Obj.data_mapFields hd _,by decide,fun q t=>by simp⟩,fun b o e=>Heap.get?_push_of_some _ (Heap.get?_push_of_some _ e),?_,Heap.get?_push_size _ rfl,rfl,rfl,rfl,rfl⟩
 refine Option.eq_none_iff_forall_ne_some.mpr fun o' e'=>?_
 have:=Heap.lt_size e'
 rw [Heap.size_push] at this
 exact absurd this (Nat.not_lt.mpr (Nat.le_succ _))
end
theorem wj {h:Heap} {X:List Addr} {b:Addr} (e:h.get? b=none):(hideAll h X).get? b=none:=by
 cases q:(hideAll h X).get? b with
 | none=>rfl
 | some o=>have:=of_hideAll _ q;rw [e] at this;contradiction
section
variable {w:World} {A:Around} {E:Value→Shared→Prop} {off₀:Addr→Prop} {s₀ s:Shared} {k n:Nat} {sc:Scope} {env:Env} {ρ:SRho} {m cm:Str→Option Value} {ad:Str→Addr}
theorem Fr.hide (F:Fr w k A s₀ sc env off₀ ρ m cm ad s) (X:List Addr) (hG:∀ x∈X,(tG w.params).get x=none) (ho:∀ x∈X,¬ off₀ x) :
  Fr w k A { s₀ with heap:=hideAll s₀.heap X } sc env off₀ ρ m cm ad s:=by
 refine ⟨F.room,F.en,⟨⟨?_,F.call.toInCall.ns,fun b o e=>F.call.toInCall.keep b o (of_hideAll _ e),?_⟩,F.call.cell,F.call.apart,F.call.above⟩,fun a o e=>?_,F.tab,fun a ha=>?_,fun x sl hx=>?_,F.nd,F.inj,fun b hb=>wj (F.hid b hb)⟩
 ·apply bc;intro hQ;rcases F.call.toInCall.same with ⟨h,tk,e⟩;refine hQ ?_;clear hQ
  exact ⟨h,tk,by rw [e]⟩
 ·rw [hideAll_size];exact F.call.toInCall.fresh
 ·obtain ⟨h1,h2⟩:=F.glb a o e
  refine ⟨by rw [hideAll_size];exact h1,fun q=>hideAll_get _ (h2 q) fun hm=>?_⟩
  rw [hG a hm] at e;contradiction
 ·exact (F.old a ha).imp (fun ⟨o,e⟩=>⟨o,hideAll_get _ e fun hm=>ho a hm ha⟩) _root_.id
 ·have:=F.slots x sl hx
  cases sl with
  | un=>trivial
  | val X=>exact this
  | own l=>obtain ⟨h0,r⟩:=this;exact ⟨wj h0,r⟩
theorem Fr.basedX (F:Fr w k A s₀ sc env off₀ ρ m cm ad s) {X:List Addr} {h':Heap} {tk:Nat} (kb:∀ b o,b ∉ X→s.heap.get? b=some o→Firm b o→h'.get? b=some o) (ti:zW h')
  (hX:∀ x∈X,∀ o,s.heap.get? x=some o→(∀ vs n,o.data≠.seq vs n)∧∀ v,¬ s.heap.IsCell x v) (h0:∀ x∈X,s₀.heap.get? x=none) (hn:h'.Ns env.locals m) :
  Fr w k A s₀ sc env off₀ ρ m cm ad { s with heap:=h',toks:=tk }:=by
 have sq:∀ off,Seqs off s.heap h':=fun off a o e ⟨vs,n,d⟩ _=>kb a o (fun hm=>(hX a hm o e).1 vs n d) e (.nf fun vs' d'=>by rw [d] at d';contradiction)
 refine ⟨F.room,F.en,⟨⟨?_,hn,fun b o e=>kb b o (fun hm=>by rw [h0 b hm] at e;contradiction) (F.call.toInCall.keep b o e) (.inl (F.nh e)),F.call.toInCall.fresh⟩,fun kk cc hc=>?_,F.call.apart,F.call.above⟩,F.glb,ti,F.old,fun x sl hx=>?_,F.nd,F.inj,F.hid⟩
 ·apply bc;intro hQ;rcases F.call.toInCall.same with ⟨h₁,tk',es⟩;refine hQ ?_;clear hQ
  exact ⟨h',tk,by rw [es]⟩
 ·have hc':=F.call.cell kk cc hc
  apply bc;intro hQ;rcases id hc' with ⟨o,h1,h2⟩;refine hQ ?_;clear hQ
  exact ⟨o,kb cc o (fun hm=>(hX cc hm o h1).2 _ hc') h1 (.nf fun vs d=>by rw [h2] at d;contradiction),h2⟩
 ·have:=F.slots x sl hx
  cases sl with
  | un=>trivial
  | val Y=>apply bc;intro hQ;rcases this with ⟨v,h1,h2⟩;refine hQ ?_;clear hQ;exact ⟨v,h1,h2.move (sq _) fun _ q=>q⟩
  | own l =>
   apply bc;intro hQ;rcases this with ⟨q0,h1,vs,⟨nn,h2⟩,h3⟩;refine hQ ?_;clear hQ
   exact ⟨q0,h1,vs,⟨nn,kb _ _ (fun hm=>(hX _ hm _ h2).1 _ _ rfl) h2 (.ty rfl)⟩,h3.move (sq _) fun _ q=>q⟩
end
noncomputable def pvW:List Nat→Nat→Nat→(Nat→List Nat→Prop)→Prop→Prop
 | rest,b,v,K,Ke=>match b / 64 % 2 == 0,rest with
  | true,rest=>K v rest
  | false,[]=>v < 2 ^ 18∧Ke
  | false,c :: r=>v < 2 ^ 18∧pvW r c (v * 64 + c % 64) K Ke
noncomputable def pvS (I:Addr) (b v:Slt):SRho:=[("iterator",.val (.ref I)),("b",b),("val",v)]
theorem zYt {rest:List Nat} {b v:Nat} {K:Nat→List Nat→Prop} {Ke:Prop} (k:pvW rest b v K Ke) (h:(b / 64 % 2 == 0)=true):K v rest:=by
 unfold pvW at k;rw [h] at k;exact k
theorem zKx {b v:Nat} {K:Nat→List Nat→Prop} {Ke:Prop} (k:pvW [] b v K Ke) (h:(b / 64 % 2 == 0)=false):v < 2 ^ 18∧Ke:=by
 unfold pvW at k;rw [h] at k;exact k
theorem yQ0 {r:List Nat} {b c v:Nat} {K:Nat→List Nat→Prop} {Ke:Prop} (k:pvW (c :: r) b v K Ke) (h:(b / 64 % 2 == 0)=false):v < 2 ^ 18∧pvW r c (v * 64 + c % 64) K Ke:=by
 unfold pvW at k;rw [h] at k;exact k
theorem yW0 {rest:List Nat} {b v:Nat} {K:Nat→List Nat→Prop} {Ke:Prop} (k:pvW rest b v K Ke) (h:(b / 64 % 2 == 0)=false):v < 2 ^ 18:=by
 cases rest with
 | nil=>exact (zKx k h).1
 | cons c r=>exact (yQ0 k h).1
theorem zXp (P:Params):mgv P ("next":Str)=none∧mbv P ("next":Str)=some (.builtin "next"):=⟨by kernel_rfl,by kernel_rfl⟩
theorem zXq (P:Params):mgv P ("iter":Str)=none∧mbv P ("iter":Str)=some (.builtin "iter"):=⟨by kernel_rfl,by kernel_rfl⟩
section
variable {w:World} {A:Around} {E:Value→Shared→Prop} {s₀ s:Shared} {k n:Nat} {env:Env} {m cm:Str→Option Value} {ad:Str→Addr}
theorem zKy {h:Heap} {I l:Addr} {pos:Nat} (hit:h.IsListIter I l pos):∃ o,h.get? I=some o∧Tame o:=by
 apply bc;intro hQ;rcases hit with ⟨o,h1,h2,h3⟩;refine hQ ?_;clear hQ
 exact ⟨o,h1,"list_iterator",_,h2,h3,by decide,fun q t=>by simp⟩
theorem iY {h h':Heap} {I l:Addr} {pos:Nat} (hit:h.IsListIter I l pos) (k:∀ o,h.get? I=some o→Tame o→h'.get? I=some o):h'.IsListIter I l pos:=by
 apply bc;intro hQ;rcases hit with ⟨o,h1,h2,h3⟩;refine hQ ?_;clear hQ
 exact ⟨o,k o h1 ⟨"list_iterator",_,h2,h3,by decide,fun q t=>by simp⟩,h2,h3⟩
structure Pv (w:World) (k:Nat) (A:Around) (s₀:Shared) (env:Env) (I l:Addr) (items:Array Value) (pos:Nat) (b v:Slt) (s:Shared):Prop where
 fr:∃ m cm ad,Fr w k A s₀ (fdSc 11) env (fun _=>False) (pvS I b v) m cm ad s
 it:s.heap.IsListIter I l pos
 pl:s.heap.PlainList l items
section
variable {I l:Addr} {items:Array Value} {pos:Nat} {b v:Slt} (P:Pv w k A s₀ env I l items pos b v s)
include P
theorem Pv.keep {h':Heap} {tk:Nat} (e:Keep s.heap h'):Pv w k A s₀ env I l items pos b v { s with heap:=h',toks:=tk } :=
 let ⟨m,cm,ad,F⟩:=P.fr
 ⟨⟨m,cm,ad,F.keep e⟩,iY P.it fun o g t=>e.obj I o g t.firm,PlainList.keep P.pl e⟩
theorem Pv.int {e:Expr} {i:Int} {Q:Value→Shared→Prop} (kk:ew cx0 (fdSc 11) 20 e (xy [] (pvS I b v)) fun X=>X=.int i) (q:∀ t h' tk,Pv w k A s₀ env I l items pos b v { s with heap:=h',toks:=tk }→Q (.int i t) { s with heap:=h',toks:=tk }):wpAny (model pw w) A (eval e env) Q E s :=
 let ⟨_,_,_,F⟩:=P.fr
 (snd (yZ w k) 20).int (F.at' []) kk fun t h' tk e=>q t h' tk (P.keep e)
theorem Pv.tst {e:Expr} {b0:Bool} {Q:Bool→Shared→Prop} (kk:tw cx0 (fdSc 11) 20 e (xy [] (pvS I b v)) fun b=>b=b0) (q:∀ h' tk,Pv w k A s₀ env I l items pos b v { s with heap:=h',toks:=tk }→Q b0 { s with heap:=h',toks:=tk }):wpAny (model pw w) A (isTrue e env (eval e env)) Q E s :=
 let ⟨_,_,_,F⟩:=P.fr
 (snd (yZ w k) 20).tst (F.at' []) kk fun h' tk e=>q h' tk (P.keep e)
theorem Pv.set {i:Int} {t:Tok} {Q:Unit→Shared→Prop} (q:∀ h' tk,Pv w k A s₀ env I l items pos b (.val (.int i)) { s with heap:=h',toks:=tk }→Q () { s with heap:=h',toks:=tk }):wpAny (model pw w) A (storeName env "val" (.int i t)) Q E s:=by
 apply bc;intro hQ;rcases P.fr with ⟨m,cm,ad,F⟩;refine hQ ?_;clear hQ
 exact F.storeRaw (by rfl) fun h' tk m' cm' B st=>q h' tk ⟨⟨m',cm',ad,F.setVal (X:=.int i) (Rd.int _ _) st⟩,iY P.it fun o e t=>(Step.stored (off:=fun _=>False) (off':=fun _=>False) F st fun _ z=>z).tame I o e t,st.plain P.pl⟩
end
theorem Pv.get {I l:Addr} {items:Array Value} {pos:Nat} {b:Slt} {i:Int} (P:Pv w k A s₀ env I l items pos b (.val (.int i)) s):∃ m cm ad t,Fr w k A s₀ (fdSc 11) env (fun _=>False) (pvS I b (.val (.int i))) m cm ad s∧Has (fdSc 11) env m cm "val" (.int i t):=by
 apply bc;intro hQ;rcases P.fr with ⟨m,cm,ad,F⟩;rcases F.slots "val" (.val (.int i)) (by rfl) with ⟨v0,g1,g2⟩;rcases g2.int_inv with ⟨t,e⟩;refine hQ ?_;clear hQ
 exact ⟨m,cm,ad,t,F,e ▸ g1⟩
theorem zKz {I l:Addr} {pos:Nat} {items:Array Value} {octs:List Nat} {b v:Slt} {p1 p2 p3 p4 p5:Pos} {Q:Flow→Shared→Prop} (P:Pv w k A s₀ env I l items pos b v s) (g0:s₀.heap.get? I=none)
  (hio:∀ i:Nat,∀ c,octs[i]?=some c→∃ t,items[i]?=some (.int (c:Nat) t)) (hsz:items.size=octs.length)
  (kk:match octs.drop pos with
   | []=>∀ h' e,Ended I s.heap h' e→E (.ref e) { s with heap:=h' }
   | c :: r=>∀ s',Pv w k A s₀ env I l items (pos + 1) (.val (.int (c:Nat))) v s'→Q .next s') :
  wpAny (model pw w) A (exec (.Assign [.Name "b" p1] (.Call (.Name "next" p2) [.Name "iterator" p3] [] p4) p5) env) Q E s:=by
 apply bc;intro hQ;rcases P.fr with ⟨m,cm,ad,F⟩;rcases zXp w.params with ⟨l1,l2⟩;rcases F.slots "iterator" (.val (.ref I)) (by rfl) with ⟨v0,g1,g2⟩;refine hQ ?_;clear hQ
 rw [g2] at g1
 refine wpAny_Assign_Name (Call_ (yV F.glbs F.en (by rfl) l1 l2 (yy rfl (args_cons (wV F g1 (args_nil ?_)) (zX rfl _ _))))) (zY rfl _ _ _)
 cases hd:octs.drop pos with
 | nil =>
  rw [hd] at kk
  refine zYs F.room.hd P.it P.pl.isList ?_ kk
  have:=List.drop_eq_nil_iff.mp hd
  simp [hsz,this]
 | cons c r =>
  rw [hd] at kk
  obtain ⟨t,ht⟩:=hio pos c (sV hd)
  refine zKw P.it P.pl.isList ht fun h1 hit1 sb1=>?_
  apply bc;intro hQ;rcases zKy P.it with ⟨o,ho,ht0⟩;refine hQ ?_;clear hQ
  have F1:=F.iter (tk:=s.toks) ho ht0 g0 fun b o hb e=>sb1.extBut b o hb e
  refine F1.storeRaw (by rfl) fun h2 tk2 m2 cm2 B2 st2=>?_
  have hpl1:h1.PlainList l items:=by
   obtain ⟨nn,h3⟩:=P.pl
   exact ⟨nn,sb1.extBut l _ (by rintro rfl;rw [ho] at h3;(injection h3 with h3;subst h3);apply bc;intro hQ;rcases ht0 with ⟨_,_,_,d,_⟩;refine hQ ?_;clear hQ;contradiction) h3⟩
  exact kk _ ⟨⟨m2,cm2,ad,F1.setVal (X:=.int (c:Nat)) (Rd.int _ _) st2⟩,iY hit1 fun o e t=>(Step.stored (off:=fun _=>False) (off':=fun _=>False) F1 st2 fun _ z=>z).tame I o e t,st2.plain hpl1⟩
end
theorem xZu (b:Nat):Builtin.bitAnd (b:Int) 64=(((b / 64 % 2) * 64:Nat):Int):=by
 rw [bitAnd_pp (Int.natCast_nonneg _) (by decide),Int.toNat_natCast]
 show ((b &&& 2 ^ 6:Nat):Int)=_
 rw [zKm,Nat.testBit_eq_decide_div_mod_eq]
 have:b / 64 % 2 < 2:=Nat.mod_lt _ (by decide)
 congr 1
 rcases (by lia:b / 64 % 2=0∨b / 64 % 2=1) with h | h
 ·rw [h];simp
 ·rw [h];simp
theorem yW1 (b:Nat):Builtin.bitAnd (b:Int) 63=((b % 64:Nat):Int):=by
 rw [bitAnd_pp (Int.natCast_nonneg _) (by decide),Int.toNat_natCast]
 show ((b &&& 2 ^ 6 - 1:Nat):Int)=_
 rw [Nat.and_two_pow_sub_one_eq_mod]
theorem or63 (v c:Nat):Builtin.bitOr ((v:Int) * 2 ^ (6:Int).toNat) ((c % 64:Nat):Int)=((v * 64 + c % 64:Nat):Int):=by
 rw [PyProof.Rows.bitOr_and]
 have e:(v:Int) * 2 ^ (6:Int).toNat=((v * 64:Nat):Int):=by push_cast;rfl
 rw [e,bitAnd_pp (Int.natCast_nonneg _) (Int.natCast_nonneg _),Int.toNat_natCast,Int.toNat_natCast]
 have:v * 64 &&& c % 64=0:=by
  have h2:c % 64 < 2 ^ 6:=Nat.mod_lt _ (by decide)
  rw [show v * 64=2 ^ 6 * v by lia]
  rw [Nat.and_comm]
  refine Nat.eq_of_testBit_eq fun i=>?_
  rw [Nat.testBit_and,Nat.testBit_two_pow_mul,Nat.zero_testBit]
  by_cases hi:6≤i
  ·rw [Nat.testBit_lt_two_pow (Nat.lt_of_lt_of_le h2 (Nat.pow_le_pow_right (by decide) hi))];rfl
  ·simp [hi]
 rw [this];push_cast;lia
section
variable {w:World} {A:Around} {E:Value→Shared→Prop} {s₀ s:Shared} {k n:Nat} {env:Env} {m cm:Str→Option Value} {ad:Str→Addr}
noncomputable def whT:Expr:=match fdB 11 with | _ :: _ :: .While t _ _ _ :: _=>t | _=>default
noncomputable def orE:Expr:=match fdB 11 with | _ :: _ :: .While _ (_ :: _ :: .AugAssign _ _ e _ :: _) _ _ :: _=>e | _=>default
noncomputable def whB:List Stmt:=match fdB 11 with | _ :: _ :: .While _ b _ _ :: _=>b | _=>default
theorem xZv {I l:Addr} {items:Array Value} {octs:List Nat} {Kv:Nat→List Nat→Prop} {Ke:Prop} {Q:Flow→Shared→Prop} {pos0:Pos} (g0:s₀.heap.get? I=none)
  (hio:∀ i:Nat,∀ c,octs[i]?=some c→∃ t,items[i]?=some (.int (c:Nat) t)) (hsz:items.size=octs.length) (hE:PassesOwn (model pw w) A env E)
  (hend:Ke→∀ s v b pos,Pv w k A s₀ env I l items pos b v s→∀ h' e,Ended I s.heap h' e→E (.ref e) { s with heap:=h' })
  (hq:∀ s v b pos,Kv v (octs.drop pos)→Pv w k A s₀ env I l items pos b (.val (.int (v:Nat))) s→Q .next s)
  {b v pos:Nat} (kk:pvW (octs.drop pos) b v Kv Ke) (P:Pv w k A s₀ env I l items pos (.val (.int b)) (.val (.int v)) s) :
  wpAny (model pw w) A (exec (.While whT whB [] pos0) env) Q E s:=by
 refine wpAny_While ?_
 refine codeAny_whileLoop (R:=fun r s'=>match r with | .ok f=>Q f s' | .error e=>cameBackBy (model pw w) A env E e s')
  (fun n s'=>∃ pos b v,n=(octs.drop pos).length∧pvW (octs.drop pos) b v Kv Ke∧Pv w k A s₀ env I l items pos (.val (.int (b:Nat))) (.val (.int (v:Nat))) s') (fun n s' hI=>?_) _ ⟨pos,b,v,rfl,kk,P⟩
 clear kk P
 apply bc;intro hQ;rcases hI with ⟨pos,b,v,hn,kk,P⟩;refine hQ ?_;clear hQ
 refine wpAny_passesOwn hE (P.tst (b0:=!(b / 64 % 2 == 0)) ?_ fun h1 tk1 P1=>?_)
 ·conv=>whnf
  rw [xZu]
  rcases (by lia:b / 64 % 2=0∨b / 64 % 2=1) with h | h <;> (rw [h];rfl)
 clear P
 cases hbb:b / 64 % 2 == 0 with
 | true=>exact wpAny_execs_nil (hq _ v _ pos (zYt kk hbb) P1)
 | false =>
  refine wpAny_passesOwn hE ?_
  show wpAny _ _ (execs [.AugAssign (.Name "val" _) .LShift (.Constant (.int 6) _ _) _,.Assign [.Name "b" _] (.Call (.Name "next" _) [.Name "iterator" _] [] _) _,.AugAssign (.Name "val" _) .BitOr orE _] env) _ _ _
  apply bc;intro hQ;rcases P1.get with ⟨m,cm,ad,t0,F1,g1⟩;refine hQ ?_;clear hQ
  refine wpAny_execs_cons (wpAny_AugAssign_Name (fY F1 g1 (P1.int (i:=6) (by conv=>whnf) fun t1 h2 tk2 P2=>?_)))
  refine ilshift_int (by decide) (bits_add_le (Nat.lt_trans (yW0 kk hbb) (by decide)) (by decide)) ?_
  refine (P2.keep (tk:=tk2 + 1) (Keep.refl _)).set fun h3 tk3 P3=>?_
  clear F1 g1 P1 P2
  refine wpAny_execs_cons (zKz P3 g0 hio hsz ?_)
  cases hd:octs.drop pos with
  | nil =>
   rw [hd] at kk
   exact hend (zKx kk hbb).2 _ _ _ pos P3
  | cons c r =>
   rw [hd] at kk
   intro s4 P4
   clear P3
   apply bc;intro hQ;rcases P4.get with ⟨m,cm,ad,t5,F4,g5⟩;refine hQ ?_;clear hQ
   have c63:ew cx0 (fdSc 11) 20 orE (xy [] (pvS I (.val (.int c)) (.val (.int ((v:Int) * 2 ^ (6:Int).toNat))))) (fun X=>X=.int ((c % 64:Nat):Int)):=by
    conv=>whnf
    rw [yW1]
   refine wpAny_execs_cons (wpAny_AugAssign_Name (fY F4 g5 (P4.int (i:=((c % 64:Nat):Int)) c63 fun t6 h5 tk5 P5=>?_)))
   refine ior_int ?_
   rw [or63]
   exact (P5.keep (tk:=tk5 + 1) (Keep.refl _)).set fun h6 tk6 P6=>wpAny_execs_nil ⟨r.length,by rw [hn,hd,List.length_cons];exact Nat.lt_succ_self _,pos + 1,c,v * 64 + c % 64,by rw [vZ hd],by rw [vZ hd];exact (yQ0 kk hbb).2,P6⟩
end
section
variable {w:World} {A:Around} {E:Value→Shared→Prop} {s:Shared} {k:Nat}
noncomputable def inE:Expr:=match fdB 11 with | _ :: .Assign _ e _ :: _=>e | _=>default
theorem zK0 {h:Heap} {a l:Addr} {m:Str→Option Value} {pos:Nat} (hn:h.Ns a m) (hit:h.IsListIter a l pos):False:=by
 apply bc;intro hQ;rcases hn with ⟨o,es,ep,e1,e2,_⟩;rcases hit with ⟨o',h1,h2,h3⟩;refine hQ ?_;clear hQ
 rw [e1] at h1;(injection h1 with h1;subst h1);rw [e2] at h3;contradiction
theorem wk {h:Heap} {a:Addr} {m:Str→Option Value} (t:zW h) (hn:h.Ns a m):Hid a=false:=by
 cases hh:Hid a with
 | false=>rfl
 | true =>
  apply bc;intro hQ;rcases yQ t hh with ⟨ps,e2⟩;rcases xk hn e2 with ⟨es,ep,e4⟩;refine hQ ?_;clear hQ
  contradiction
theorem zXr {h:Heap} {I l:Addr} {pos:Nat} (tab:zW h) (hit:h.IsListIter I l pos):Hid I=false:=by
 cases hh:Hid I with
 | false=>rfl
 | true =>
  apply bc;intro hQ;rcases yQ tab hh with ⟨ps,e2⟩;rcases hit with ⟨o,h1,h2,h3⟩;refine hQ ?_;clear hQ
  rw [e2] at h1;(injection h1 with h1;subst h1);contradiction
theorem zXs {h:Heap} {l:Addr} {items:Array Value} (tab:zW h) (hpl:h.PlainList l items):Hid l=false:=by
 cases hh:Hid l with
 | false=>rfl
 | true =>
  apply bc;intro hQ;rcases yQ tab hh with ⟨ps,e2⟩;rcases hpl with ⟨nn,h1⟩;refine hQ ?_;clear hQ
  rw [e2] at h1;cases h1
theorem lZ {h:Heap} {a I l:Addr} {m:Str→Option Value} {pos:Nat} (hn:h.Ns a m) (hit:h.IsListIter I l pos):a≠I:=fun e=>zK0 (e ▸ hn) hit
theorem yW2 {I l:Addr} {items:Array Value} {envR envL env:Env} {LR LL:Addr} {mR mL:Str→Option Value} {s0 s':Shared} {pos':Nat} {b v:Slt} {h':Heap} {e:Addr} {E':Value→Shared→Prop} (tab:zW s.heap) (hfr:A.frames=some [envR,envL]) (hkR:envR.scope.kind≠.module) (hfR:envR.frame=some LR) (hnR:s.heap.Ns LR mR) (hkL:envL.scope.kind≠.module) (hfL:envL.frame=some LL) (hnL:s.heap.Ns LL mL)
  (neLR:LR≠I) (neLL:LL≠I) (hlf:env.frame=some env.locals) (hfresh:∀ b o,s.heap.get? b=some o→b≠env.locals) (hs0:∀ h t,({ s0 with heap:=h,toks:=t }:Shared)={ s with heap:=h,toks:=t }) (hk0:∀ b o,b≠I→s.heap.get? b=some o→Hid b=false→s0.heap.get? b=some o)
  (hE:∀ base e a0 h' tk,(∀ b o,b≠I→b≠LL→b≠LR→s.heap.get? b=some o→Hid b=false→base.get? b=some o)→zW base→Heap.FlyingW base [envR,envL] e (.type "StopIteration") a0 h' →
   (∀ o,s.heap.get? LR=some o→∃ sl,h'.get? LR=some { o with slots:=sl })→(∀ o,s.heap.get? LL=some o→∃ sl,h'.get? LL=some { o with slots:=sl })→E' (.ref e) { s with heap:=h',toks:=tk })
  (P:Pv w k (A.deeper env) s0 env I l items pos' b v s') (X:Ended I s'.heap h' e) :
  wpAny (model pw w) (A.deeper env) (leaving env (.ref e)) (fun _ s''=>E' (.ref e) s'') (fun e' s''=>E' e' s'') { s' with heap:=h' }:=by
 apply bc;intro hQ;rcases P.fr with ⟨m',cm',ad',F'⟩;rcases X with ⟨hm,oe,vs,a0,om,sb,hom,htm,hup,hen,he,hc,hd,h1,h0⟩;refine hQ ?_;clear hQ
 have km:∀ b o,b≠I→s'.heap.get? b=some o→hm.get? b=some o:=fun b o hb e1=>sb.extBut b o hb e1
 have kg:∀ b o,b≠I→s.heap.get? b=some o→Hid b=false→hm.get? b=some o:=fun b o hb e1 hh=>km b o hb (F'.call.toInCall.keep b o (hk0 b o hb e1 hh))
 have hns':s'.heap.Ns env.locals m':=F'.call.toInCall.ns
 have nR:hm.Ns LR mR:=hnR.at' fun o e1=>kg _ _ neLR e1 (wk tab hnR)
 have nL:hm.Ns LL mL:=hnL.at' fun o e1=>kg _ _ neLL e1 (wk tab hnL)
 have nE:hm.Ns env.locals m':=hns'.at' fun o e1=>km _ _ (lZ hns' P.it) e1
 have thm:zW hm:=F'.tab.but (let ⟨_,h2,t2⟩:=zKy P.it;t2.of h2) km
 have ⟨X,hX⟩:∃ X,X=[LL,LR,env.locals]:=⟨_,rfl⟩
 have inL:LL∈X:=by rw [hX];exact List.mem_cons_self
 have inR:LR∈X:=by rw [hX];exact List.mem_cons_of_mem _ List.mem_cons_self
 have inE:env.locals∈X:=by rw [hX];exact List.mem_cons_of_mem _ (List.mem_cons_of_mem _ List.mem_cons_self)
 have out:∀ b,b≠LL→b≠LR→b≠env.locals→b ∉ X:=fun b h1 h2 h3=>by rw [hX];simp [h1,h2,h3]
 have hsoft:∀ B∈X,∀ o,hm.get? B=some o→Soft o:=by
  rw [hX]
  exact lW (Soft.ns nL) (Soft.ns nR) (Soft.ns nE)
 have tb:zW (hideAll hm X):=zW.many thm hsoft fun b o hb e1=>hideAll_get _ e1 hb
 have ff:h'.FunFrames (hideAll hm X) [env,envR,envL] :=
  Heap.FunFrames.cons (L:=env.locals) (m:=m') (by rw [F'.en.scope,F'.en.kind];decide) hlf (nE.at' fun o e1=>hup _ _ e1) (hideAll_none _ inE)
   (Heap.FunFrames.cons (L:=LR) (m:=mR) hkR hfR (nR.at' fun o e1=>hup _ _ e1) (hideAll_none _ inR)
    (Heap.FunFrames.cons (L:=LL) (m:=mL) hkL hfL (nL.at' fun o e1=>hup _ _ e1) (hideAll_none _ inL) trivial))
 refine wpAny_leaving_firstW (s:={ s' with heap:=h' }) (base:=hideAll hm X) (Around.frames_deeper hfr) ff hlf he (fun b o e1=>hup b o (of_hideAll _ e1)) (wj hen) hd h1 h0 fun h2 hL=>?_
 apply bc;intro hQ;rcases hL with ⟨k1,⟨_,_,k2⟩,k3,k4⟩;refine hQ ?_;clear hQ
 rw [hc] at k3
 apply bc;intro hQ;rcases F'.call.toInCall.same with ⟨hx,tkx,es⟩;refine hQ ?_;clear hQ
 have lo:∀ {L:Addr} {mL:Str→Option Value},s.heap.Ns L mL→L≠I→∀ o,s.heap.get? L=some o→∃ sl,h2.get? L=some { o with slots:=sl }:=fun {L mL} hn hne o e1 =>
  k4 L o (hup _ _ (kg _ _ hne e1 (wk tab hn))) fun ws d=>by
   apply bc;intro hQ;rcases xk hn e1 with ⟨es',ep',e4⟩;refine hQ ?_;clear hQ
   rw [d] at e4;contradiction
 rw [es,hs0]
 exact hE (hideAll hm X) e a0 h2 tkx (fun b o hb1 hb2 hb3 e1 hh=>hideAll_get _ (kg b o hb1 e1 hh) (out b hb2 hb3 (hfresh b o e1))) tb ⟨k1,wj hen,k2,k3⟩ (lo hnR neLR) (lo hnL neLL)
theorem yXp {I l:Addr} {items:Array Value} {octs:List Nat} {pos:Nat} {Kv:Nat→List Nat→Prop} {Ke:Prop} {envR envL:Env} {LR LL:Addr} {mR mL:Str→Option Value} {Q:Value→Shared→Prop}
  (room:Room (k + 1) A) (G:Glb w s.heap) (hG:(tG w.params).get I=none) (hfr:A.frames=some [envR,envL]) (hkR:envR.scope.kind≠.module) (hfR:envR.frame=some LR) (hnR:s.heap.Ns LR mR) (hkL:envL.scope.kind≠.module) (hfL:envL.frame=some LL) (hnL:s.heap.Ns LL mL)
  (hit:s.heap.IsListIter I l pos) (hpl:s.heap.PlainList l items) (hio:∀ i:Nat,∀ c,octs[i]?=some c→∃ t,items[i]?=some (.int (c:Nat) t)) (hsz:items.size=octs.length)
  (kk:match octs.drop pos with | []=>Ke | b :: r=>pvW r b (b % 64) Kv Ke)
  (hQ:∀ (v:Nat) i h' tk t,Kv v (octs.drop i)→h'.IsListIter I l i→(∀ b o,b≠I→s.heap.get? b=some o→Hid b=false→h'.get? b=some o)→zW h'→Q (.int v t) { s with heap:=h',toks:=tk })
  (hE:Ke→∀ base e a0 h' tk,(∀ b o,b≠I→b≠LL→b≠LR→s.heap.get? b=some o→Hid b=false→base.get? b=some o)→zW base→Heap.FlyingW base [envR,envL] e (.type "StopIteration") a0 h' →
   (∀ o,s.heap.get? LR=some o→∃ sl,h'.get? LR=some { o with slots:=sl })→(∀ o,s.heap.get? LL=some o→∃ sl,h'.get? LL=some { o with slots:=sl })→E (.ref e) { s with heap:=h',toks:=tk }) :
  wpAny (model pw w) A (call (.ref 71) [.ref I]) Q E s:=by
 refine qx (at11 w) (names:=["iterator"]) (locs:=["b","val"]) (off:=fun _=>False) (l:=[.ref I]) (by rfl) (yV4 _) room G (fun _ h=>h.elim) (RdL.one (Rd.ref I)) rfl fun env m cm ad s₁ henv F0=>?_
 have hlf:env.frame=some env.locals:=by rw [henv];rfl
 have hfresh:∀ b o,s.heap.get? b=some o→b≠env.locals:=fun b o e=>by rw [henv];exact Nat.ne_of_lt (Heap.lt_size e)
 have hk1:∀ b o,s.heap.get? b=some o→Hid b=false→s₁.heap.get? b=some o:=fun b o e hh=>F0.call.toInCall.keep b o (uv e hh)
 have hit1:s₁.heap.IsListIter I l pos:=iY hit fun o e t=>hk1 I o e (zXr G.tab hit)
 have hpl1:s₁.heap.PlainList l items:=by
  obtain ⟨nn,h1⟩:=id hpl
  exact ⟨nn,hk1 l _ h1 (zXs G.tab hpl)⟩
 obtain ⟨s0,P,gI,hs0,hk0⟩:∃ s0,Pv w k (A.deeper env) s0 env I l items pos .un .un s₁∧s0.heap.get? I=none∧(∀ h t,({ s0 with heap:=h,toks:=t }:Shared)={ s with heap:=h,toks:=t })∧(∀ b o,b≠I→s.heap.get? b=some o→Hid b=false→s0.heap.get? b=some o) :=
  ⟨_,⟨⟨m,cm,ad,F0.hide [I] (fun x hx=>by rw [List.mem_singleton.mp hx];exact hG) fun _ _ h=>h⟩,hit1,hpl1⟩,hideAll_none _ (List.mem_singleton.mpr rfl),fun h t=>rfl,fun b o hb e hh=>hideAll_get _ (uv e hh) (by simpa using hb)⟩
 have neLR:LR≠I:=lZ hnR hit
 have neLL:LL≠I:=lZ hnL hit
 clear F0 hk1 henv hit1 hpl1
 have hend:Ke→∀ s' v b pos',Pv w k (A.deeper env) s0 env I l items pos' b v s'→∀ h' e,Ended I s'.heap h' e→wpAny (model pw w) (A.deeper env) (leaving env (.ref e)) (fun _ s''=>E (.ref e) s'') (fun e' s''=>E e' s'') { s' with heap:=h' } :=
  fun ke s' v b pos' P h' e X=>yW2 G.tab hfr hkR hfR hnR hkL hfL hnL neLR neLL hlf hfresh hs0 hk0 (hE ke) P X
 clear hE
 show wpAny _ _ (execs [.Assign [.Name "b" _] (.Call (.Name "next" _) [.Name "iterator" _] [] _) _,.Assign [.Name "val" _] inE _,.While whT whB [] _,.Return (some (.Name "val" _)) _] env) _ _ _
 refine wpAny_execs_cons (zKz P gI hio hsz ?_)
 cases hd:octs.drop pos with
 | nil =>
  rw [hd] at kk
  exact hend kk _ _ _ pos P
 | cons c r =>
  rw [hd] at kk
  intro s2 P2
  have c63:ew cx0 (fdSc 11) 20 inE (xy [] (pvS I (.val (.int c)) .un)) (fun X=>X=.int ((c % 64:Nat):Int)):=by
   conv=>whnf
   rw [yW1]
  refine wpAny_execs_cons (wpAny_Assign_Name (P2.int c63 fun t h3 tk3 P3=>P3.set fun h4 tk4 P4=>?_) (zY rfl _ _ _))
  refine wpAny_execs_cons (xZv (b:=c) (v:=c % 64) (pos:=pos + 1) (octs:=octs) (Kv:=Kv) (Ke:=Ke) gI hio hsz PassesOwn.leaving hend (fun s5 v5 b5 pos5 kv P5=>?_) (by rw [vZ hd];exact kk) P4)
  apply bc;intro hQ;rcases P5.get with ⟨m,cm,ad,t,F5,g1⟩;refine hQ ?_;clear hQ
  refine wpAny_execs_cons (wpAny_Return_some (wV F5 g1 ?_))
  apply bc;intro hQ;rcases F5.call.toInCall.same with ⟨hx,tkx,es⟩;refine hQ ?_;clear hQ
  have:=hQ v5 pos5 s5.heap tkx t kv P5.it (fun b o hb e1 hh=>F5.call.toInCall.keep b o (hk0 b o hb e1 hh)) F5.tab
  rw [es,hs0] at this ⊢
  exact this
end
noncomputable def rdW:Nat→List Nat→List Nat→(List Nat→Prop)→Prop
 | 0,_,_,_=>False
 | m + 1,rest,done,K=>match rest with
  | []=>K done
  | b :: r=>pvW r b (b % 64) (fun v rest'=>done.length≤sizeLine∧rdW m rest' (done++[v]) K) (K done)
noncomputable def zK1 (n:Nat) (cs:List Nat):Prop :=
 (n < 64∧∃ a,cs=[a]∧a % 64=n∧a / 64 % 2=0)∨(64≤n∧n < 4096∧∃ a b,cs=[a,b]∧a % 64=n / 64∧a / 64 % 2=1∧b % 64=n % 64∧b / 64 % 2=0) ∨
 (4096≤n∧∃ a b c,cs=[a,b,c]∧a % 64=n / 4096∧a / 64 % 2=1∧b % 64=n / 64 % 64∧b / 64 % 2=1∧c % 64=n % 64∧c / 64 % 2=0)
noncomputable def mX:List Nat→List Nat→Prop
 | [],L=>L=[]
 | n :: ns,L=>∃ cs L',L=cs++L'∧zK1 n cs∧mX ns L'
theorem zQm {r:List Nat} {b v:Nat} {K Ke} (h:b / 64 % 2=0) (k:K v r):pvW r b v K Ke:=by
 unfold pvW;rw [h];exact k
theorem zYu {r:List Nat} {b v c:Nat} {K Ke} (h:b / 64 % 2=1) (hv:v < 2 ^ 18) (k:pvW r c (v * 64 + c % 64) K Ke):pvW (c :: r) b v K Ke:=by
 unfold pvW;rw [h];exact ⟨hv,k⟩
theorem yQ1 {b v:Nat} {K:Nat→List Nat→Prop} {Ke:Prop} (h:b / 64 % 2=1) (hv:v < 2 ^ 18) (k:Ke):pvW [] b v K Ke:=by
 unfold pvW;rw [h];exact ⟨hv,k⟩
theorem oct0 {d:Nat} (e:Nat) (hd:d < 64):(d + 128 * (e % 2)) % 64=d∧(d + 128 * (e % 2)) / 64 % 2=0∧d + 128 * (e % 2) < 256 :=
 (by decide +kernel:∀ d:Fin 64,∀ e:Fin 2,(d.1 + 128 * e.1) % 64=d.1∧(d.1 + 128 * e.1) / 64 % 2=0∧d.1 + 128 * e.1 < 256) ⟨d,hd⟩ ⟨e % 2,Nat.mod_lt _ (by decide)⟩
theorem oct1 {d:Nat} (e:Nat) (hd:d < 64):(d + 64 + 128 * (e % 2)) % 64=d∧(d + 64 + 128 * (e % 2)) / 64 % 2=1∧d + 64 + 128 * (e % 2) < 256 :=
 (by decide +kernel:∀ d:Fin 64,∀ e:Fin 2,(d.1 + 64 + 128 * e.1) % 64=d.1∧(d.1 + 64 + 128 * e.1) / 64 % 2=1∧d.1 + 64 + 128 * e.1 < 256) ⟨d,hd⟩ ⟨e % 2,Nat.mod_lt _ (by decide)⟩
theorem zYv (n:Nat):n % 64 < 64:=Nat.mod_lt _ (by decide)
theorem yW3 (n:Nat):n / 64 * 64 + n % 64=n:=Nat.div_add_mod' n 64
theorem yW4 (n:Nat):n / 4096 * 64 + n / 64 % 64=n / 64:=by
 have:=Nat.div_add_mod' (n / 64) 64
 rwa [Nat.div_div_eq_div_mul] at this
theorem lt18 (n:Nat):n % 64 < 2 ^ 18:=Nat.lt_trans (zYv n) (by decide)
theorem zYw {n:Nat} {cs tl:List Nat} (h:zK1 n cs) (hn:n < 2 ^ 18) {K:Nat→List Nat→Prop} {Ke:Prop} (k:K n tl):∃ b r,cs++tl=b :: r∧pvW r b (b % 64) K Ke:=by
 rcases h with ⟨h0,a,rfl,h1,h2⟩ | ⟨h0,h0',a,b,rfl,h1,h2,h3,h4⟩ | ⟨h0,a,b,c,rfl,h1,h2,h3,h4,h5,h6⟩
 ·exact ⟨a,tl,rfl,zQm h2 (by rw [h1];exact k)⟩
 ·refine ⟨a,b :: tl,rfl,zYu h2 (lt18 a) (zQm h4 ?_)⟩
  rw [h1,h3,yW3];exact k
 ·refine ⟨a,b :: c :: tl,rfl,zYu h2 (lt18 a) ?_⟩
  rw [h1,h3,yW4]
  refine zYu h4 (Nat.lt_of_le_of_lt (Nat.div_le_self n 64) hn) (zQm h6 ?_)
  rw [h5,yW3];exact k
theorem zK2 {n:Nat} {cs:List Nat} (h:zK1 n cs) (hn:n < 2 ^ 18) {m:Nat} {done:List Nat} {K:List Nat→Prop} (k:K done):rdW (m + 1) cs.dropLast done K:=by
 rcases h with ⟨h0,a,rfl,h1,h2⟩ | ⟨h0,h0',a,b,rfl,h1,h2,h3,h4⟩ | ⟨h0,a,b,c,rfl,h1,h2,h3,h4,h5,h6⟩
 ·exact k
 ·exact yQ1 h2 (lt18 a) k
 ·refine zYu h2 (lt18 a) ?_
  rw [h1,h3,yW4]
  exact yQ1 h4 (Nat.lt_of_le_of_lt (Nat.div_le_self n 64) hn) k
theorem jq:∀ {ns L:List Nat} {tl done:List Nat} {m:Nat} {K:List Nat→Prop},mX ns L→(∀ n∈ns,n < 2 ^ 18)→done.length + ns.length≤sizeLine→rdW m tl (done++ns) K→rdW (m + ns.length) (L++tl) done K
 | [],L,tl,done,m,K,h,_,_,k=>by
  have h:L=[]:=h
  subst h
  rw [List.append_nil] at k
  exact k
 | n :: ns,L,tl,done,m,K,h,hn,hl,k=>by
  obtain ⟨cs,L',rfl,h1,h2⟩:=h
  rw [List.length_cons] at hl
  obtain ⟨b,r,e,hp⟩:=zYw (tl:=L'++tl) h1 (hn n List.mem_cons_self) (K:=fun v rest'=>done.length≤sizeLine∧rdW (m + ns.length) rest' (done++[v]) K) (Ke:=K done)
   ⟨by lia,jq h2 (fun x hx=>hn x (List.mem_cons_of_mem _ hx)) (by rw [List.length_append];show done.length + 1 + _≤_;lia) (by rw [List.append_assoc];exact k)⟩
  rw [List.append_assoc,e]
  exact hp
theorem nK:∀ {ns L:List Nat},mX ns L→ns.length≤L.length
 | [],L,_=>Nat.zero_le _
 | n :: ns,L,h=>by
  apply bc;intro hQ;rcases h with ⟨cs,L',rfl,h1,h2⟩;refine hQ ?_;clear hQ
  have:=nK h2
  rw [List.length_cons,List.length_append]
  have:1≤cs.length:=by
   rcases h1 with ⟨h0,a,rfl,_⟩ | ⟨_,_,a,b,rfl,_⟩ | ⟨_,a,b,c,rfl,_⟩ <;> simp
  lia
theorem jz:∀ {a:List Nat} {n:Nat} {L:List Nat},mX (a++[n]) L→∃ L' cs,L=L'++cs∧mX a L'∧zK1 n cs
 | [],n,L,h=>by
  apply bc;intro hQ;rcases h with ⟨cs,L',rfl,h1,h2⟩;refine hQ ?_;clear hQ
  have h2:L'=[]:=h2
  subst h2
  exact ⟨[],cs,by simp,rfl,h1⟩
 | x :: a,n,L,h=>by
  apply bc;intro hQ;rcases h with ⟨cs,L',rfl,h1,h2⟩;rcases jz h2 with ⟨L2,c2,rfl,h3,h4⟩;refine hQ ?_;clear hQ
  exact ⟨cs++L2,c2,by simp,⟨cs,L2,rfl,h1,h3⟩,h4⟩
theorem yW5 {ns L:List Nat} (h:mX ns L) (hn:∀ n∈ns,n < 2 ^ 18) (hl:ns.length≤sizeLine) {K:List Nat→Prop} (k:K ns):rdW (L.length + 1) L [] K:=by
 have hc:=nK h
 have:=jq (tl:=[]) (done:=[]) (m:=L.length + 1 - ns.length) (K:=K) h hn (by simpa using hl) (by
  rw [show L.length + 1 - ns.length=(L.length - ns.length) + 1 from Nat.succ_sub hc,List.nil_append];exact k)
 rw [List.append_nil,Nat.sub_add_cancel (Nat.le_succ_of_le hc)] at this
 exact this
theorem yW6 {ns L:List Nat} (h:mX ns L) (hne:ns≠[]) (hn:∀ n∈ns,n < 2 ^ 18) (hl:ns.length≤sizeLine) {K:List Nat→Prop} (k:K ns.dropLast):rdW (L.dropLast.length + 1) L.dropLast [] K:=by
 have e:=(List.dropLast_concat_getLast hne).symm
 rw [e] at h
 apply bc;intro hQ;rcases jz h with ⟨L',cs,rfl,h1,h2⟩;refine hQ ?_;clear hQ
 have hcs:cs≠[]:=by
  rcases h2 with ⟨h0,a,rfl,_⟩ | ⟨_,_,a,b,rfl,_⟩ | ⟨_,a,b,c,rfl,_⟩ <;> simp
 have hd:(L'++cs).dropLast=L'++cs.dropLast:=List.dropLast_append_of_ne_nil hcs
 rw [hd]
 have hc:=nK h1
 have hle:L'.length≤(L'++cs.dropLast).length:=by rw [List.length_append];lia
 have:=jq (tl:=cs.dropLast) (done:=[]) (m:=((L'++cs.dropLast).length - ns.dropLast.length) + 1) (K:=K) h1 (fun n hm=>hn n (List.dropLast_subset _ hm)) (by
  rw [List.length_dropLast];show 0 + _≤_;rw [Nat.zero_add];exact Nat.le_trans (Nat.sub_le _ _) hl) (by rw [List.nil_append];exact zK2 h2 (hn _ (List.getLast_mem hne)) k)
 rw [Nat.add_right_comm,Nat.sub_add_cancel (Nat.le_trans hc hle)] at this
 exact this
theorem yXq (n:Nat) (acc:List Int) (hn0:n < 2 ^ 18):∃ cs:List Nat,yv acc n=acc++cs.map (fun (c:Nat)=>(c:Int))∧zK1 n cs∧∀ c∈cs,c < 256:=by
 have all1:∀ {a:Nat},a < 256→∀ c∈[a],c < 256:=fun h c hm=>by rw [List.mem_singleton.mp hm];exact h
 have all2:∀ {a:Nat} {l:List Nat},a < 256→(∀ c∈l,c < 256)→∀ c∈a :: l,c < 256:=fun h hl c hm=>(List.mem_cons.mp hm).elim (fun e=>by rw [e];exact h) (hl c)
 unfold yv digs
 by_cases h1:4096≤n
 ·rw [if_pos h1]
  have a:=oct1 acc.length (Nat.div_lt_of_lt_mul hn0:n / 4096 < 64)
  have b:=oct1 (acc.length + 1) (zYv (n / 64))
  have c:=oct0 (acc.length + 1 + 1) (zYv n)
  refine ⟨[n / 4096 + 64 + 128 * (acc.length % 2),n / 64 % 64 + 64 + 128 * ((acc.length + 1) % 2),n % 64 + 128 * ((acc.length + 1 + 1) % 2)],?_,.inr (.inr ⟨h1,_,_,_,rfl,a.1,a.2.1,b.1,b.2.1,c.1,c.2.1⟩),all2 a.2.2 (all2 b.2.2 (all1 c.2.2))⟩
  show mY (mY (mY acc (n / 4096) 64) (n / 64 % 64) 64) (n % 64) 0=_
  simp only [mY,List.length_append,List.length_singleton,List.append_assoc,List.singleton_append,List.map_cons,List.map_nil,Nat.add_zero]
  rfl
 ·rw [if_neg h1]
  have h1:=Nat.lt_of_not_le h1
  by_cases h2:64≤n
  ·rw [if_pos h2]
   have a:=oct1 acc.length (Nat.div_lt_of_lt_mul h1:n / 64 < 64)
   have b:=oct0 (acc.length + 1) (zYv n)
   refine ⟨[n / 64 + 64 + 128 * (acc.length % 2),n % 64 + 128 * ((acc.length + 1) % 2)],?_,.inr (.inl ⟨h2,h1,_,_,rfl,a.1,a.2.1,b.1,b.2.1⟩),all2 a.2.2 (all1 b.2.2)⟩
   show mY (mY acc (n / 64) 64) (n % 64) 0=_
   simp only [mY,List.length_append,List.length_singleton,List.append_assoc,List.singleton_append,List.map_cons,List.map_nil,Nat.add_zero]
  ·rw [if_neg h2]
   have h2:=Nat.lt_of_not_le h2
   have a:=oct0 acc.length h2
   exact ⟨[n + 128 * (acc.length % 2)],rfl,.inl ⟨h2,_,rfl,a.1,a.2.1⟩,all1 a.2.2⟩
theorem nV:∀ (ns:List Nat) (acc:List Int),(∀ n∈ns,n < 2 ^ 18)→∃ L:List Nat,ns.foldl yv acc=acc++L.map (fun (c:Nat)=>(c:Int))∧mX ns L∧∀ c∈L,c < 256
 | [],acc,_=>⟨[],by simp,rfl,fun _ h=>(nm h)⟩
 | n :: ns,acc,hn=>by
  apply bc;intro hQ;rcases yXq n acc (hn n List.mem_cons_self) with ⟨cs,e,hc,hb⟩;rcases nV ns (yv acc n) fun x hx=>hn x (List.mem_cons_of_mem _ hx) with ⟨L,e2,h3,h4⟩;refine hQ ?_;clear hQ
  refine ⟨cs++L,?_,⟨cs,L,rfl,hc,h3⟩,fun c hm=>(List.mem_append.mp hm).elim (hb c) (h4 c)⟩
  rw [List.foldl_cons,e2,e,List.map_append,List.append_assoc]
noncomputable def lrS (l:List V) (t n u:Slt):SRho:=[("octets",.val (.lst l)),("tape",t),("numbers",n),("turn",u)]
section
variable {w:World} {A:Around} {E:Value→Shared→Prop} {s₀ s:Shared} {k:Nat} {env:Env} {off₀:Addr→Prop} {m cm:Str→Option Value} {ad:Str→Addr}
theorem zYx {l:List V} {kt:Nat} {p1 p2 p3 p4 p5 p6 p7 p8 p9:Pos} {Q:Flow→Shared→Prop} (hsw:kX (fdSc 25) [.Name "tape" p1,.Name "numbers" p2] (.Tuple [.Call (.Name "iter" p4) [.Name "octets" p5] [] p6,.List [] p7] kt p8)=some (some [Str.ofString "tape",Str.ofString "numbers"])) (F:Fr w k A s₀ (fdSc 25) env off₀ (lrS l .un .un .un) m cm ad s)
  (kk:∀ s' m' cm' ad' I a items,Fr w k A s₀ (fdSc 25) env off₀ (lrS l (.val (.ref I)) (.own []) .un) m' cm' ad' s'→s.heap.get? I=none→s'.heap.IsListIter I a 0→s'.heap.PlainList a items→RdL s'.heap off₀ l items.toList→¬ off₀ a→a≠ad' "numbers"→Q .next s') :
  wpAny (model pw w) A (exec (.Assign [.Tuple [.Name "tape" p1,.Name "numbers" p2] kt p3] (.Tuple [.Call (.Name "iter" p4) [.Name "octets" p5] [] p6,.List [] p7] kt p8) p9) env) Q E s:=by
 apply bc;intro hQ;rcases zXq w.params with ⟨l1,l2⟩;rcases F.slots "octets" (.val (.lst l)) (by rfl) with ⟨v0,g1,g2⟩;refine hQ ?_;clear hQ
 have hno:∀ z l',(lrS l .un .un .un).lookup z=some (.own l')→False:=fun z l' e=>zJx (ρ:=lrS l .un .un .un) (by rfl) e
 apply bc;intro hQ;rcases g2.lst_plain with ⟨a,items,rfl,ha,hp,hr⟩;refine hQ ?_;clear hQ
 have sw:=mv F.en (k:=kt) (p:=p3) hsw
 refine Assign_Tuple_swapped (wpAny_Tuple (args_cons (Call_ (yV F.glbs F.en (by rfl) l1 l2 (yy rfl (args_cons (wV F g1 (args_nil ?_)) (zX rfl _ _))))) (zX rfl _ _))) (kK _ _ _ _ _ _) sw
 refine zKv hp.isList ?_
 refine args_cons (wpAny_List (args_nil ⟨by show 0≤sizeLine;exact Nat.zero_le _,?_⟩)) (zX rfl _ _)
 refine args_nil ⟨by show 2≤sizeLine;decide,?_⟩
 have hl2:=hr.length
 have ha0:∃ o,s.heap.get? a=some o:=by obtain ⟨nn,e⟩:=hp;exact ⟨_,e⟩
 have k1:Keep s.heap (s.heap.push { cls:=.type "list_iterator",data:=.fields #[.ref a,.int 0 0] }):=Keep.push _ _
 generalize hh1:s.heap.push { cls:=.type "list_iterator",data:=.fields #[.ref a,.int 0 0] }=h1 at k1
 have hI1:h1.get? s.heap.objs.size=some { cls:=.type "list_iterator",data:=.fields #[.ref a,.int 0 0] }:=by rw [← hh1];exact Heap.get?_push_size _ rfl
 have hIn:s.heap.get? s.heap.objs.size=none:=Option.eq_none_iff_forall_ne_some.mpr fun o e=>absurd (Heap.lt_size e) (Nat.lt_irrefl _)
 have hBn1:h1.get? h1.objs.size=none:=Option.eq_none_iff_forall_ne_some.mpr fun o e=>absurd (Heap.lt_size e) (Nat.lt_irrefl _)
 have hBn:s.heap.get? h1.objs.size=none:=k1.none hBn1
 have k2:Keep h1 (h1.push { cls:=.type "list",data:=.seq ([]:List Value).toArray }):=Keep.push _ _
 have hB2:(h1.push { cls:=.type "list",data:=.seq ([]:List Value).toArray }).get? h1.objs.size=some { cls:=.type "list",data:=.seq ([]:List Value).toArray }:=Heap.get?_push_size _ rfl
 generalize hh2:h1.push { cls:=.type "list",data:=.seq ([]:List Value).toArray }=h2 at k2 hB2
 have k3:Keep h2 (h2.push { cls:=.type "tuple",data:=.seq ([.ref s.heap.objs.size,.ref h1.objs.size]:List Value).toArray }):=Keep.push _ _
 have hT3:(h2.push { cls:=.type "tuple",data:=.seq ([.ref s.heap.objs.size,.ref h1.objs.size]:List Value).toArray }).get? h2.objs.size=some { cls:=.type "tuple",data:=.seq ([.ref s.heap.objs.size,.ref h1.objs.size]:List Value).toArray }:=Heap.get?_push_size _ rfl
 subst hh1
 dsimp only at hh2 hB2 hT3 k3 ⊢
 subst hh2
 refine wpAny_unpackItems_tuple (items:=([.ref s.heap.objs.size,.ref (s.heap.push { cls:=.type "list_iterator",data:=.fields #[.ref a,.int 0 0] }).objs.size]:List Value).toArray) F.room.hd ⟨_,hT3,rfl,_,rfl⟩ fun h4 he=>?_
 have k4:=(k1.trans k2).trans (k3.trans (.of fun b o e=>he b o (Nat.ne_of_lt (Heap.lt_size e)) e))
 have kI:=((k2.trans k3).trans (.of fun b o e=>he b o (Nat.ne_of_lt (Heap.lt_size e)) e)).obj _ _ hI1 (.ty rfl)
 have kB:=(k3.trans (.of fun b o e=>he b o (Nat.ne_of_lt (Heap.lt_size e)) e)).obj _ _ hB2 (.ty rfl)
 generalize (s.heap.push { cls:=.type "list_iterator",data:=.fields #[.ref a,.int 0 0] }).objs.size=B at *
 generalize hIs:s.heap.objs.size=I at *
 have F1:=F.keep (tk:=s.toks) k4
 have hpl4:h4.PlainList B #[]:=⟨_,kB⟩
 refine assignInOrder_cons (bindName_ (F1.storeRaw (by rfl) fun h5 tk5 m5 cm5 B5 st5=>?_))
 obtain ⟨F2,stp2⟩:=F.newOwn (x:="numbers") (l:=[]) (a:=B) (items:=#[]) k4 rfl (o:=off₀) hpl4 RdL.nil hBn st5
 refine assignInOrder_cons (bindName_ (F2.storeRaw (by rfl) fun h6 tk6 m6 cm6 B6 st6=>assignInOrder_nil ?_))
 have F3:=F2.setVal (X:=.ref I) (Rd.ref I) st6
 have stpA:=Step.stored (off:=offF off₀ (lrS l .un .un .un) ad) (off':=offF off₀ (lrS l .un .un .un) ad) F1 st5 fun _ z=>z
 have stpB:=Step.stored (off:=off₀) (off':=off₀) F2 st6 fun _ z=>z
 have hit4:h4.IsListIter I a 0:=⟨_,kI,rfl,rfl⟩
 refine kk _ m6 cm6 _ I a items F3 (hIs ▸ hIn) (iY (iY hit4 fun o e t=>stpA.tame I o e t) fun o e t=>stpB.tame I o e t) (st6.plain (st5.plain (PlainList.keep hp k4))) ?_ (fun z=>ha (.inl z)) (fun e=>by
  have e:a=B:=e
  obtain ⟨o,h0⟩:=ha0
  rw [e,hBn] at h0;contradiction)
 exact ((hr.keep k4).move (off':=off₀) (st5.seqs _) fun b z=>.inl z).move (st6.seqs _) fun b z=>z
end
theorem zXt (P:Params):mgv P ("StopIteration":Str)=none∧mbv P ("StopIteration":Str)=some (.type "StopIteration"):=⟨by kernel_rfl,by kernel_rfl⟩
theorem jx {h:Heap} (t:zW h) {b:Addr} {o:Obj} (e:h.get? b=some o) (f:Firm b o):Hid b=false:=by
 rcases f with f | f
 ·exact f
 ·cases hh:Hid b with
  | false=>rfl
  | true =>
   obtain ⟨ps,e2⟩:=yQ t hh
   rw [e] at e2;(injection e2 with e2;subst e2);contradiction
theorem zK3 {h:Heap} {I a:Addr} {pos:Nat} (hit:h.IsListIter I a pos):∀ o,h.get? I=some o→(∀ vs n,o.data≠.seq vs n)∧∀ v,¬ h.IsCell I v:=fun o e=>by
 apply bc;intro hQ;rcases hit with ⟨o',q1,q2,q3⟩;refine hQ ?_;clear hQ
 rw [e] at q1;(injection q1 with q1;subst q1)
 refine ⟨fun vs n d=>(by rw [q3] at d;contradiction),fun v hv=>?_⟩
 apply bc;intro hQ;rcases hv with ⟨o2,q4,q5⟩;refine hQ ?_;clear hQ
 rw [e] at q4;(injection q4 with q4;subst q4);rw [q3] at q5;contradiction
theorem zK4 {h:Heap} {x:Addr} {mx:Str→Option Value} (hx:h.Ns x mx):∀ o,h.get? x=some o→(∀ vs n,o.data≠.seq vs n)∧∀ v,¬ h.IsCell x v:=fun o e=>by
 apply bc;intro hQ;rcases xk hx e with ⟨es,ep,q2⟩;refine hQ ?_;clear hQ
 refine ⟨fun vs n d=>(by rw [q2] at d;contradiction),fun v hv=>?_⟩
 apply bc;intro hQ;rcases hv with ⟨o2,q4,q5⟩;refine hQ ?_;clear hQ
 rw [e] at q4;(injection q4 with q4;subst q4);rw [q2] at q5;contradiction
section
variable {w:World} {A:Around} {E:Value→Shared→Prop} {s₀ s:Shared} {k:Nat} {env:Env} {off₀:Addr→Prop} {m cm:Str→Option Value} {ad:Str→Addr}
structure LrC (w:World) (A:Around) (s₀:Shared) (env envL:Env) (I a LL:Addr) (mL:Str→Option Value) (items:Array Value) (octs:List Nat) (off₀:Addr→Prop) (ad:Str→Addr):Prop where
 fr:A.frames=some [env,envL]
 lf:env.frame=some env.locals
 kL:envL.scope.kind≠.module
 fL:envL.frame=some LL
 nL:s₀.heap.Ns LL mL
 gI:(tG w.params).get I=none
 gL:(tG w.params).get LL=none
 oL:¬ off₀ LL
 i0:s₀.heap.get? I=none
 na:a≠ad "numbers"
 io:∀ i:Nat,∀ c,octs[i]?=some c→∃ t,items[i]?=some (.int (c:Nat) t)
 sz:items.size=octs.length
noncomputable def yXr (K:List Nat→Prop) (off₀:Addr→Prop) (LL:Addr) (s₀:Shared) (R:Value→Shared→Prop):Prop :=
 ∀ ns B h' tk,K ns→Rd h' off₀ (.lst (zQ ns)) (.ref B)→(∀ b o,b≠LL→s₀.heap.get? b=some o→h'.get? b=some o)→zW h'→(∀ o,s₀.heap.get? LL=some o→∃ sl,h'.get? LL=some { o with slots:=sl })→R (.ref B) { s₀ with heap:=h',toks:=tk }
section
variable {octs done:List Nat} {n pos I a LL:Addr} {items:Array Value} {envL:Env} {mL:Str→Option Value} {ρ:SRho} {K:List Nat→Prop}
theorem zK5 {v:Nat} {i:Nat} {t:Tok} {h':Heap} {tk:Nat} {Q:Value→Shared→Prop} (C:LrC w A s₀ env envL I a LL mL items octs off₀ ad) (F:Fr w (k + 1) A s₀ (fdSc 25) env off₀ ρ m cm ad s) (hl:ρ.lookup ("numbers":Str)=some (.own (zQ done)))
  (hit:s.heap.IsListIter I a pos) (hpl:s.heap.PlainList a items) (hlen:done.length≤sizeLine) (hit':h'.IsListIter I a i) (keep':∀ b o,b≠I→s.heap.get? b=some o→Hid b=false→h'.get? b=some o) (tb':zW h')
  (q:∀ h2,Fr w (k + 1) A s₀ (fdSc 25) env off₀ (setS "numbers" (.own (zQ (done++[v]))) ρ) m cm ad { s with heap:=h2,toks:=tk }→h2.IsListIter I a i→h2.PlainList a items →
   (∀ b o,b≠I→s.heap.get? b=some o→Tame o→h2.get? b=some o)→Seqs (offF off₀ ρ ad) s.heap h2→Q .none { s with heap:=h2,toks:=tk }) :
  wpAny (model pw w) A (call (.builtin "list.append") [.ref (ad "numbers"),.int (v:Nat) t]) Q E { s with heap:=h',toks:=tk }:=by
 have hn:=F.call.toInCall.ns
 have hXI:=zK3 hit
 have kb1:∀ b o,b ∉ [I]→s.heap.get? b=some o→Firm b o→h'.get? b=some o:=fun b o hb e f=>keep' b o (fun q=>hb (List.mem_singleton.mpr q)) e (jx F.tab e f)
 have nI:∀ {b o},s.heap.get? b=some o→(∃ vs n,o.data=.seq vs n)→b ∉ [I]:=fun e ⟨vs,n,d⟩ hm=>(hXI _ (List.mem_singleton.mp hm ▸ e)).1 _ _ d
 have F1:=F.basedX (X:=[I]) (tk:=tk) kb1 tb' (fun x hx=>List.mem_singleton.mp hx ▸ hXI) (fun x hx=>List.mem_singleton.mp hx ▸ C.i0) (hn.at' fun o e=>keep' _ _ (lZ hn hit) e (wk F.tab hn))
 apply bc;intro hQ;rcases F1.slots "numbers" _ hl with ⟨_,_,its,g2,g3⟩;refine hQ ?_;clear hQ
 have e3:=g3.length
 rw [Array.length_toList,zQ,List.length_map] at e3
 refine wpAny_list_append_plain (s:={ s with heap:=h',toks:=tk }) g2 (fun h2 hp sb=>?_) (by rw [e3];exact hlen)
 have stp:=Step.own (l':=zQ (done++[v])) F1 hl hp sb
 refine q h2 (F1.setOwnIn (l':=zQ (done++[v])) hl hp sb ?_) (iY hit' fun o e t=>stp.tame I o e t) ?_ (fun b o hb e t=>stp.tame b o (kb1 b o (fun q=>hb (List.mem_singleton.mp q)) e t.firm) t) fun b o e sq no=>?_
 ·rw [Array.toList_push,zQ,List.map_append]
  exact g3.append (RdL.one (Rd.int _ _))
 ·obtain ⟨nn,q1⟩:=hpl
  exact ⟨nn,sb.extBut _ _ C.na (kb1 a _ (nI q1 ⟨_,_,rfl⟩) q1 (.ty rfl))⟩
 ·exact sb.extBut b o (fun ee=>no (.inr ⟨_,_,hl,ee.symm⟩)) (kb1 b o (nI e sq) e (.nf fun vs d=>by apply bc;intro hQ;rcases sq with ⟨_,_,d2⟩;refine hQ ?_;clear hQ;rw [d2] at d;contradiction))
theorem zK6 {base h5:Heap} {tk:Nat} (C:LrC w A s₀ env envL I a LL mL items octs off₀ ad) (F:Fr w (k + 1) A s₀ (fdSc 25) env off₀ ρ m cm ad s) (hit:s.heap.IsListIter I a pos)
  (kb:∀ b o,b≠I→b≠LL→b≠env.locals→s.heap.get? b=some o→Hid b=false→base.get? b=some o) (tb:zW base) (st:base.StaysIn h5) (lo:∀ o,s.heap.get? env.locals=some o→∃ sl,h5.get? env.locals=some { o with slots:=sl }) :
  Fr w (k + 1) A { s₀ with heap:=hideAll s₀.heap [LL] } (fdSc 25) env off₀ ρ m cm ad { s with heap:=h5,toks:=tk }:=by
 have hn:=F.call.toInCall.ns
 have nL1:s.heap.Ns LL mL:=C.nL.at' fun o e=>F.call.toInCall.keep _ _ e
 refine (F.hide [LL] (fun x hx=>List.mem_singleton.mp hx ▸ C.gL) fun x hx=>List.mem_singleton.mp hx ▸ C.oL).basedX (X:=[I,LL,env.locals])
  (fun b o hb e f=>st b o (kb b o (fun q=>hb (q ▸ List.mem_cons_self)) (fun q=>hb (q ▸ List.mem_cons_of_mem _ List.mem_cons_self)) (fun q=>hb (q ▸ List.mem_cons_of_mem _ (List.mem_cons_of_mem _ List.mem_cons_self))) e (jx F.tab e f)))
  (tb.all st) (lW (zK3 hit) (zK4 nL1) (zK4 hn)) (lW (wj C.i0) (hideAll_none _ (List.mem_singleton.mpr rfl)) (wj ?_)) (Ns.slots hn lo)
 exact iq F.call.toInCall.fresh
theorem zYy {h5:Heap} {tk:Nat} {R:Value→Shared→Prop} (hret:yXr K off₀ LL s₀ R) (F:Fr w (k + 1) A s₀ (fdSc 25) env off₀ ρ m cm ad s) (F5:Fr w (k + 1) A { s₀ with heap:=hideAll s₀.heap [LL] } (fdSc 25) env off₀ ρ m cm ad { s with heap:=h5,toks:=tk })
  (hl:ρ.lookup ("numbers":Str)=some (.own (zQ done))) (hk:K done) (lo:∀ o,s.heap.get? LL=some o→∃ sl,h5.get? LL=some { o with slots:=sl }):R (.ref (ad "numbers")) { s with heap:=h5,toks:=tk }:=by
 apply bc;intro hQ;rcases F.call.toInCall.same with ⟨hy,tky,ey⟩;refine hQ ?_;clear hQ
 rw [show ({ s with heap:=h5,toks:=tk }:Shared)={ s₀ with heap:=h5,toks:=tk } by rw [ey]]
 exact hret done (ad "numbers") h5 tk hk ((F5.ownRd (vs:=["numbers"]) hl (by rfl)).move (Keep.refl _).seqs fun b z=>.inl z) (fun b o hb e1=>F5.call.toInCall.keep b o (hideAll_get _ e1 (fun q=>hb (List.mem_singleton.mp q)))) F5.tab (fun o e1=>lo o (F.call.toInCall.keep _ _ e1))
theorem yXs {l:List V} {u:Slt} {Q:Flow→Shared→Prop} {p1 p2 p3 p4 p5 p6 p7 p8 p9 p10 p11 p12:Pos} (hline:(p2.endLine == p6.line)=true) (C:LrC w A s₀ env envL I a LL mL items octs off₀ ad)
  (F:Fr w (k + 1) A s₀ (fdSc 25) env off₀ (lrS l (.val (.ref I)) (.own (zQ done)) u) m cm ad s)
  (hit:s.heap.IsListIter I a pos) (hpl:s.heap.PlainList a items) (kk:rdW (n + 1) (octs.drop pos) done K)
  (hnext:∀ s' (v:Nat) pos',Fr w (k + 1) A s₀ (fdSc 25) env off₀ (lrS l (.val (.ref I)) (.own (zQ (done++[v]))) u) m cm ad s'→s'.heap.IsListIter I a pos'→s'.heap.PlainList a items→rdW n (octs.drop pos') (done++[v]) K →
   (∀ b o,b≠I→s.heap.get? b=some o→Tame o→s'.heap.get? b=some o)→Seqs (offF off₀ (lrS l (.val (.ref I)) (.own (zQ done)) u) ad) s.heap s'.heap→Q .next s')
  (hret:yXr K off₀ LL s₀ fun v=>Q (.ret v)) :
  wpAny (model pw w) A (exec (.Try [.Expr (.Call (.Attribute (.Name "numbers" p1) "append" p2) [.Call (.Name "_parse_varint" p3) [.Name "tape" p4] [] p5] [] p6) p7] [.ExceptHandler (some (.Name "StopIteration" p8)) none [.Return (some (.Name "numbers" p9)) p10] p11] [] [] p12) env) Q E s:=by
 apply bc;intro hQ;rcases (at11 w).obj with ⟨h3,hg,hd⟩;refine hQ ?_;clear hQ
 have hn:=F.call.toInCall.ns
 have hl:(lrS l (.val (.ref I)) (.own (zQ done)) u).lookup ("numbers":Str)=some (.own (zQ done)):=by rfl
 apply bc;intro hQ;rcases F.slots "numbers" _ hl with ⟨g0,g1,its,g2,g3⟩;refine hQ ?_;clear hQ
 have t1:Has (fdSc 25) env m cm "tape" (.ref I):=by
  apply bc;intro hQ;rcases F.slots "tape" (.val (.ref I)) (by rfl) with ⟨vt,t1,t2⟩;refine hQ ?_;clear hQ
  exact t2 ▸ t1
 refine wpAny_Try_except (wpAny_execs_cons (wpAny_Expr (wpAny_Call_method_late rfl ?_ hline rfl (wV F g1 ?_)) (by unfold interactive;rw [F.en.scope,F.en.kind];rfl) rfl))
 ·rw [Bool.and_eq_true,Bool.and_eq_true]
  exact ⟨⟨uK rfl p6 env,rfl⟩,rfl⟩
 refine ⟨"list","list.append",PySem.F.plainAttrs_list,PySem.F.slot_list_append,PySem.F.type_list_append,g2.isList.typeIs,fun a ea=>by (injection ea with ea;subst ea);obtain ⟨nn,g2⟩:=g2;exact ⟨_,g2,rfl⟩,?_⟩
 clear g0 g1 g2 g3
 have hnL1:s.heap.Ns LL mL:=C.nL.at' fun o e=>F.call.toInCall.keep _ _ e
 refine yy rfl (args_cons (Call_ (xq F.glbs F.en (by rfl) (at11 w).name (callWith_def hd (args_cons (wV F t1 (args_nil ⟨F.glbs.at_ _ _ hg (.nf fun vs d=>by rw [hd] at d;contradiction),?_⟩)) (zX rfl _ _)) (zX rfl _ _)))) (zX rfl _ _))
 clear hd hg t1
 refine yXp (Kv:=fun v rest'=>done.length≤sizeLine∧rdW n rest' (done++[v]) K) (Ke:=K done) F.room F.glbs C.gI C.fr (by rw [F.en.scope,F.en.kind];decide) C.lf hn C.kL C.fL hnL1 hit hpl C.io C.sz ?_
  (fun v i h' tk t hk hit' keep' tb'=>args_nil (zK5 C F hl hit hpl hk.1 hit' keep' tb' fun h2 F2 hit2 hpl2 tm sq=>wpAny_execs_nil (wpAny_execs_nil (hnext _ v i F2 hit2 hpl2 hk.2 tm sq))))
  (fun hk base e a0 h2 tk2 kb tb hfl loR loL=>wpAny_looks_onW (s:={ s with heap:=h2,toks:=tk2 }) C.fr C.lf hfl fun h3' hh up3=>wpAny_landsW (s:={ s with heap:=h3',toks:=tk2 }) hh fun h4' hfl4 up4=>?_)
 ·unfold rdW at kk
  cases hdr:octs.drop pos with
  | nil=>rw [hdr] at kk;exact kk
  | cons b r=>rw [hdr] at kk;exact kk
 ·have lo4:=fk hn (fk hn loR up3) up4
  have F4:=zK6 (tk:=tk2) C F hit kb tb hfl4.1 lo4
  obtain ⟨l1,l2⟩:=zXt w.params
  refine wpAny_handleBy_builtin (X:="StopIteration") (T:="StopIteration") (b:=true) (isSubtype_of_subB (by decide +kernel)) (isSubtype_of_subB (by decide +kernel)) (by rw [isSubtype_type];kernel_rfl)
   (yV F4.glbs F4.en (by rfl) l1 l2 ⟨rfl,(let ⟨ob,g1,g2⟩:=hfl4.there;⟨ob,g1,g2⟩),?_⟩)
  rw [if_pos rfl]
  refine wpAny_setFlight_noneW (s:={ s with heap:=h4',toks:=tk2 }) hfl4.1 hfl4.2.2.1 hfl4.2.2.2 fun h5 st5 ff5 tr5 keep5=>?_
  have up5:h4'.UpToSlots h5:=fun b o hb hnf=>⟨o.slots,keep5 b o hb hnf⟩
  have F5:=zK6 (tk:=tk2) C F hit kb tb st5 (fk hn lo4 up5)
  have q1:=(F5.slots "numbers" _ hl).2.1
  exact wpAny_execs_cons (wpAny_Return_some (wV F5 q1 (zYy (R:=fun v=>Q (.ret v)) hret F F5 hl hk (fk hnL1 (fk hnL1 (fk hnL1 loL up3) up4) up5))))
end
end
theorem yQ2 {l xs l':List V} {T:V} {u:Slt} {y:Str} (hu:∀ z,u≠.own z) (h:(lrS l (.val T) (.own xs) u).lookup y=some (.own l')):y="numbers":=by
 have:=yJ h
 unfold lrS at this
 rcases List.mem_cons.mp this with e | this
 ·cases e
 rcases List.mem_cons.mp this with e | this
 ·cases e
 rcases List.mem_cons.mp this with e | this
 ·cases e;rfl
 rcases List.mem_cons.mp this with e | this
 ·cases e;exact absurd rfl (hu _)
 ·contradiction
theorem yW7 {l xs ys:List V} {T:V} {u u':Slt} {off₀:Addr→Prop} {ad:Str→Addr} (hu:∀ z,u≠.own z):∀ b,offF off₀ (lrS l (.val T) (.own xs) u) ad b→offF off₀ (lrS l (.val T) (.own ys) u') ad b:=fun b h=>h.imp _root_.id fun ⟨y,l',h1,h2⟩=>by
 have:=yQ2 hu h1
 subst this
 exact ⟨"numbers",ys,by rfl,h2⟩
theorem zXu {l xs:List V} {T:V} {off₀:Addr→Prop} {ad:Str→Addr} {b:Addr} (h:offF off₀ (lrS l (.val T) (.own xs) .un) ad b):offV off₀ (lrS l (.val T) (.own xs) .un) ad [] b:=h.imp _root_.id fun ⟨y,l',h1,h2⟩=>⟨y,l',h1,h2,rfl⟩
section
variable {w:World} {A:Around} {E:Value→Shared→Prop} {s₀ s:Shared} {k:Nat} {env:Env} {off₀:Addr→Prop} {m cm:Str→Option Value} {ad:Str→Addr}
theorem yXt {octs:List Nat} {I a LL J:Addr} {St:(Addr→Prop)→Nat→Heap→Prop} {its:List V} {items:Array Value} {envL:Env} {mL:Str→Option Value} {l:List V} {K:List Nat→Prop} {R:Result→Shared→Prop} {p0 p1 p2 p3 p4 p5 p6 p7 p8 p9 p10 p11 p12:Pos} (hline:(p2.endLine == p6.line)=true)
  (C:LrC w A s₀ env envL I a LL mL items octs off₀ ad) (It:Iter w J its St) (g0:s₀.heap.get? J=none) (hIJ:I≠J) (haJ:a≠J) (hoa0:¬ off₀ a) (hR:yXr K off₀ LL s₀ fun v=>R (.ok (.ret v))) :
  ∀ (rem:List V) (i:Nat) (s:Shared) (done:List Nat) (pos:Nat) (u:Slt) (m cm:Str→Option Value),(∀ z,u≠.own z)→i≤its.length→its.drop i=rem→Fr w (k + 1) A s₀ (fdSc 25) env off₀ (lrS l (.val (.ref I)) (.own (zQ done)) u) m cm ad s→St (offF off₀ (lrS l (.val (.ref I)) (.own (zQ done)) u) ad) i s.heap→s.heap.IsListIter I a pos→s.heap.PlainList a items→rdW rem.length (octs.drop pos) done K →
   codeAny (model pw w) A (.forLoop (.Name "turn" p0) (.ref J) [.Try [.Expr (.Call (.Attribute (.Name "numbers" p1) "append" p2) [.Call (.Name "_parse_varint" p3) [.Name "tape" p4] [] p5] [] p6) p7] [.ExceptHandler (some (.Name "StopIteration" p8)) none [.Return (some (.Name "numbers" p9)) p10] p11] [] [] p12] [] env) R s:=by
 intro rem
 induction rem with
 | nil=>intro i s done pos u m cm hu hi hd F st hit hpl kk;unfold rdW at kk;exact kk.elim
 | cons Y r ih =>
  intro i s done pos u m cm hu hi hd F st hit hpl kk
  refine wK fun _=>It.item A _ i s Y _ _ F.room.hd (sV hd) st fun v h1 tk1 r1 st1 kb1=>?_
  apply bc;intro hQ;rcases It.tame _ _ _ st with ⟨o,ho,ht⟩;refine hQ ?_;clear hQ
  have F1:=F.iter (tk:=tk1) ho ht g0 kb1
  apply bc;intro hQ;rcases It.tame _ _ _ st1 with ⟨o1,ho1,ht1⟩;refine hQ ?_;clear hQ
  refine tX ho1 ht1 (fV F1 (X:=Y) (ρ':=lrS l (.val (.ref I)) (.own (zQ done)) (.val Y)) (by rfl) r1 fun m2 cm2 s2 F2 stp2=>?_)
  have st2:St (offF off₀ (lrS l (.val (.ref I)) (.own (zQ done)) (.val Y)) ad) (i + 1) s2.heap:=It.frame A _ _ _ _ _ F.room.hd st1 (fun o e=>stp2.tame J o e (by rw [ho1] at e;(injection e with e;subst e);exact ht1)) stp2.seqs stp2.offs
  have hpl2:s2.heap.PlainList a items:=by
   obtain ⟨nn,q⟩:=hpl
   exact ⟨nn,stp2.seqs a _ (kb1 a _ haJ q) ⟨_,_,rfl⟩ fun h=>h.elim hoa0 fun ⟨y,l',h1,h2⟩=>C.na (yQ2 hu h1 ▸ h2).symm⟩
  refine wpAny_execs_cons (yXs (octs:=octs) (K:=K) hline C F2 (iY (iY hit fun o e _=>kb1 I o hIJ e) fun o e t=>stp2.tame I o e t) hpl2 kk (fun s3 v3 pos3 F3 hit3 hpl3 kk3 tm sq=>?_) hR)
  refine wpAny_execs_nil (ih (i + 1) s3 (done++[v3]) pos3 (.val Y) m2 cm2 (fun z h=>by contradiction) (lY hd) (vZ hd) F3 (It.frame A _ _ _ _ _ F.room.hd st2 (fun o e=>?_) sq fun b q=>.inl (yW7 (fun z h=>by contradiction) b q)) hit3 hpl3 kk3)
  apply bc;intro hQ;rcases It.tame _ _ _ st2 with ⟨o2,ho2,ht2⟩;refine hQ ?_;clear hQ
  exact tm J o hIJ.symm e (by rw [ho2] at e;(injection e with e;subst e);exact ht2)
theorem it25 {octs:List Nat} {I:Addr} {L:List V} {q1 q2 q3 q4 q5 q6 q7:Pos} {n0:Nat} (hl:octs.length≤10000) :
  itw cx0 (fdSc 25) 20 (.Call (.Name "range" q1) [.BinOp (.Call (.Name "len" q2) [.Name "octets" q3] [] q4) .Add (.Constant (.int 1) n0 q5) q6] [] q7) (xy [] (lrS (octs.map fun (c:Nat)=>V.int c) (.val (.ref I)) (.own L) .un)) fun its=>its.length=octs.length + 1:=by
 have e:(octs.map fun (c:Nat)=>V.int c).length=octs.length:=List.length_map _
 conv=>whnf
 refine ⟨by rw [e];lia,?_⟩
 conv=>whnf
 refine ⟨by lia,by rw [e];lia,?_⟩
 rw [show (((octs.map fun (c:Nat)=>V.int c).length:Nat):Int) + 1=((octs.length + 1:Nat):Int) by rw [e];rfl]
 conv=>whnf
 show (pK _).length=_
 rw [vw,List.length_map,List.length_range]
theorem bQ {octs:List Nat} {v:Value} {off:Addr→Prop} {LL:Addr} {envL:Env} {mL:Str→Option Value} {K:List Nat→Prop} {Q:Value→Shared→Prop} (room:Room (k + 2) A) (G:Glb w s.heap) (ol:Old off s.heap)
  (hfr:A.frames=some [envL]) (hkL:envL.scope.kind≠.module) (hfL:envL.frame=some LL) (hnL:s.heap.Ns LL mL) (hGL:(tG w.params).get LL=none) (hoL:¬ off LL)
  (r:Rd s.heap off (.lst (octs.map fun (c:Nat)=>V.int c)) v) (hlen:octs.length≤10000) (kk:rdW (octs.length + 1) octs [] K)
  (hQ:∀ ns v' h' tk,K ns→Rd h' off (.lst (zQ ns)) v'→(∀ b o,b≠LL→s.heap.get? b=some o→Hid b=false→h'.get? b=some o)→zW h'→(∀ o,s.heap.get? LL=some o→∃ sl,h'.get? LL=some { o with slots:=sl })→Q v' { s with heap:=h',toks:=tk }) :
  wpAny (model pw w) A (call (.ref 175) [v]) Q E s:=by
 refine qx (at25 w) (names:=["octets"]) (locs:=["tape","numbers","turn"]) (l:=[.lst (octs.map fun (c:Nat)=>V.int c)]) (by rfl) (yWc _) room G ol (RdL.one r) rfl fun env m cm ad s₁ henv F=>?_
 have hlf:env.frame=some env.locals:=by rw [henv];rfl
 show wpAny _ _ (execs [.Assign [.Tuple [.Name "tape" _,.Name "numbers" _] _ _] (.Tuple [.Call (.Name "iter" _) [.Name "octets" _] [] _,.List [] _] _ _) _,.For (.Name "turn" _) (.Call (.Name "range" _) [.BinOp (.Call (.Name "len" _) [.Name "octets" _] [] _) .Add (.Constant (.int 1) _ _) _] [] _)
  [.Try [.Expr (.Call (.Attribute (.Name "numbers" _) "append" _) [.Call (.Name "_parse_varint" _) [.Name "tape" _] [] _] [] _) _] [.ExceptHandler (some (.Name "StopIteration" _)) none [.Return (some (.Name "numbers" _)) _] _] [] [] _] [] _] env) _ _ _
 refine wpAny_execs_cons (zYx (by rfl) F fun s2 m2 cm2 ad2 I a items F2 hIn hit2 hpl2 hr2 hoa hna=>wpAny_execs_cons ?_)
 have hl2:=hr2.length
 rw [Array.length_toList,List.length_map] at hl2
 have gone:∀ {s':Shared} {J:Addr},s'.heap.get? J=none→(∀ b o,(gh s).heap.get? b=some o→s'.heap.get? b=some o)→(gh s).heap.get? J=none:=fun h1 h2 =>
  Option.eq_none_iff_forall_ne_some.mpr fun o e=>by rw [h2 _ o e] at h1;contradiction
 have hI0:=gone hIn F.call.toInCall.keep
 have C:LrC w (A.deeper env) (gh s) env envL I a LL mL items octs off ad2:=by
  refine ⟨Around.frames_deeper hfr,by rw [henv];rfl,hkL,hfL,hnL.at' fun o e=>uv e (wk G.tab hnL),Option.eq_none_iff_forall_ne_some.mpr fun o e=>?_,hGL,hoL,hI0,hna,fun i c hc=>?_,hl2⟩
  ·cases hh:Hid I with
   | false=>have:=(F.glb I o e).2 hh;rw [hI0] at this;contradiction
   | true=>obtain ⟨ps,e2⟩:=yQ F.tab hh;rw [hIn] at e2;contradiction
  ·apply bc;intro hQ;rcases hr2.get (i:=i) (X:=.int (c:Nat)) (by rw [List.getElem?_map,hc];rfl) with ⟨v,h1,h2⟩;rcases h2.int_inv with ⟨t,e⟩;refine hQ ?_;clear hQ
   exact ⟨t,by rw [← e,← Array.getElem?_toList];exact h1⟩
 refine wpAny_For ((snd (yZ w (k + 1)) 20).it (F2.at' []) (it25 hlen) fun its J h3 tk3 St kx e3 fr It st=>?_) (sj (K:=fun its=>its.length=octs.length + 1) (it25 (I:=I) (L:=[]) hlen) env)
 have neJ:∀ {b o},s2.heap.get? b=some o→b≠J:=fun e q=>by rw [q,fr] at e;contradiction
 refine yXt (K:=K) rfl C It (gone fr F2.call.toInCall.keep) (let ⟨_,q,_⟩:=hit2;neJ q) (let ⟨_,q⟩:=hpl2;neJ q) hoa (fun ns B h' tk hk hrd hkp htb hlo=>hQ ns (.ref B) h' tk hk hrd (fun b o hb e hh=>hkp b o hb (uv e hh)) htb fun o e=>hlo o (uv e (wk G.tab hnL)))
  its 0 _ [] 0 .un m2 cm2 (fun z h=>by contradiction) (Nat.zero_le _) rfl (F2.keep (tk:=tk3) e3) (It.frame A _ _ _ _ _ F.room.hd st (fun _ e=>e) (Keep.refl _).seqs fun a z=>.inl (zXu z)) (iY hit2 fun o e t=>e3.obj I o e t.firm) (PlainList.keep hpl2 e3) (by rw [kx];exact kk)
end
end Mine
end
section
open PySem PySem.W PySem.Calls PyProof.Rows PySem.Builtin PySem.Builtin.Str
namespace Mine
noncomputable def tQ:V→Bool
 | .none=>true
 | .bool _=>true
 | .int _=>true
 | .str x=>PyData.canLay0 (.str x)
 | _=>false
theorem bZ {x:V} (h:tQ x=true):okV x=true∧(toP x).canLay0=true∧(toP x).depth=0:=by
 cases x with
 | none=>exact ⟨rfl,rfl,rfl⟩
 | bool b=>exact ⟨rfl,rfl,rfl⟩
 | int i=>exact ⟨rfl,rfl,rfl⟩
 | str x=>exact ⟨rfl,h,rfl⟩
 | _=>contradiction
theorem tZ:∀ {l:List V},l.all tQ=true→okL l=true∧PyData.canLayAll0 (toPL l)=true∧PyData.depthAll (toPL l)=0
 | [],_=>⟨by unfold okL;rfl,by unfold toPL;rfl,by unfold toPL;rfl⟩
 | x :: l,h=>by
  rw [List.all_cons,Bool.and_eq_true] at h
  apply bc;intro hQ;rcases bZ h.1 with ⟨h1,h2,h3⟩;rcases tZ h.2 with ⟨g1,g2,g3⟩;refine hQ ?_;clear hQ
  refine ⟨by unfold okL;rw [h1,g1];rfl,by unfold toPL;rw [PyData.canLayAll0,h2,g2];rfl,by unfold toPL;rw [PyData.depthAll,h3,g3];rfl⟩
theorem xJ {x:V} (h:tQ x=true):zx x=true:=by
 apply bc;intro hQ;rcases bZ h with ⟨h1,h2,h3⟩;refine hQ ?_;clear hQ
 unfold zx SeqAt.shaped
 rw [h1,h2,h3];rfl
theorem zq {l:List V} (h:l.all tQ=true):zx (.lst l)=true:=by
 apply bc;intro hQ;rcases tZ h with ⟨h1,h2,h3⟩;refine hQ ?_;clear hQ
 unfold zx SeqAt.shaped okV toP
 rw [h1,PyData.canLay0,h2,PyData.depth,h3];rfl
theorem nW {l:List V} (h:l.all tQ=true):zx (.tup l)=true:=by
 apply bc;intro hQ;rcases tZ h with ⟨h1,h2,h3⟩;refine hQ ?_;clear hQ
 unfold zx SeqAt.shaped okV toP
 rw [h1,PyData.canLay0,h2,PyData.depth,h3];rfl
theorem uW {l:List V} (h:l.all tQ=true):(toP (.lst l)).eqv (toP (.lst l))=true:=PySem.SeqAt.eqv_refl _ (by
 apply bc;intro hQ;rcases tZ h with ⟨h1,h2,h3⟩;refine hQ ?_;clear hQ
 unfold toP;rw [PyData.canLay0,h2])
theorem bX {l:List V} (h:l.all tQ=true):(toP (.tup l)).eqv (toP (.tup l))=true:=PySem.SeqAt.eqv_refl _ (by
 apply bc;intro hQ;rcases tZ h with ⟨h1,h2,h3⟩;refine hQ ?_;clear hQ
 unfold toP;rw [PyData.canLay0,h2])
theorem xW (l:List Nat):(zQ l).all tQ=true:=by
 unfold zQ
 rw [List.all_map,List.all_eq_true]
 exact fun _ _=>rfl
theorem zK7 {l:List V} (h:l.all tQ=true) {K:Kp} (k:K (.bool false)):zZ8 .NotEq (.lst l) (.lst l) K:=by
 show zx (.lst l)=true∧zx (.lst l)=true∧K (.bool (true != (toP (.lst l)).eqv (toP (.lst l))))
 rw [uW h]
 exact ⟨zq h,zq h,k⟩
end Mine
end
section
open PySem PySem.W PySem.Calls PyProof.Rows PySem.Builtin PySem.Builtin.Str PySem.F
namespace Mine
section
variable {w:World} {A:Around} {E:Value→Shared→Prop} {off₀:Addr→Prop} {s₀ s:Shared} {k n:Nat} {sc:Scope} {env:Env} {ρ:SRho} {m cm:Str→Option Value} {ad:Str→Addr}
theorem hK (F:Fr w k A s₀ sc env off₀ ρ m cm ad s):¬ offF off₀ ρ ad env.locals:=by
 have hn:=F.call.toInCall.ns
 rintro (h | ⟨y,l,h1,h2⟩)
 ·rcases F.old _ h with ⟨o,e⟩ | e
  ·exact absurd (Heap.lt_size e) (Nat.not_lt.mpr F.call.toInCall.fresh)
  ·rw [wk F.tab hn] at e;contradiction
 ·apply bc;intro hQ;rcases F.slots y _ h1 with ⟨_,_,items,⟨nn,e⟩,_⟩;rcases hn with ⟨o,es,ep,e1,e2,_⟩;refine hQ ?_;clear hQ
  rw [← h2,e] at e1;(injection e1 with e1;subst e1);contradiction
theorem bJ (F:Fr w k A s₀ sc env off₀ ρ m cm ad s) {h':Heap} {tk:Nat} (kb:∀ b o,b≠env.locals→s.heap.get? b=some o→Hid b=false→h'.get? b=some o) (tb:zW h')
  (lo:∀ o,s.heap.get? env.locals=some o→∃ sl,h'.get? env.locals=some { o with slots:=sl }) :
  Fr w k A s₀ sc env off₀ ρ m cm ad { s with heap:=h',toks:=tk }∧Step (offF off₀ ρ ad) s.heap (offF off₀ ρ ad) h':=by
 have hn:=F.call.toInCall.ns
 have nd:∀ o,s.heap.get? env.locals=some o→(∀ vs n,o.data≠.seq vs n)∧(∀ vs,o.data≠.fields vs)∧∀ v,¬ s.heap.IsCell env.locals v:=fun o e=>by
  apply bc;intro hQ;rcases xk hn e with ⟨es,ep,q2⟩;refine hQ ?_;clear hQ
  refine ⟨fun vs n d=>(by rw [q2] at d;contradiction),fun vs d=>(by rw [q2] at d;contradiction),fun v hv=>?_⟩
  apply bc;intro hQ;rcases hv with ⟨o2,q4,q5⟩;refine hQ ?_;clear hQ
  rw [e] at q4;(injection q4 with q4;subst q4);rw [q2] at q5;contradiction
 refine ⟨F.basedX (X:=[env.locals]) (fun b o hb e f=>kb b o (by simpa using hb) e (jx F.tab e f)) tb (fun x hx o e=>?_) (fun x hx=>?_) (Ns.slots hn lo),fun I o e t=>?_,fun a o e sq no=>?_,fun a q=>.inl q,fun a o e=>?_⟩
 ·rw [List.mem_singleton.mp hx] at e ⊢
  exact ⟨(nd o e).1,(nd o e).2.2⟩
 ·rw [List.mem_singleton.mp hx]
  exact Option.eq_none_iff_forall_ne_some.mpr fun o e=>absurd (Heap.lt_size e) (Nat.not_lt.mpr F.call.toInCall.fresh)
 ·refine kb I o ?_ e (jx F.tab e t.firm)
  rintro rfl
  apply bc;intro hQ;rcases t with ⟨_,_,_,d,_⟩;refine hQ ?_;clear hQ
  exact (nd o e).2.1 _ d
 ·apply bc;intro hQ;rcases sq with ⟨vs,nn,d⟩;refine hQ ?_;clear hQ
  refine kb a o ?_ e (jx F.tab e (.nf fun vs' d'=>by rw [d] at d';contradiction))
  rintro rfl
  exact (nd o e).1 _ _ d
 ·by_cases ha:a=env.locals
  ·subst ha
   obtain ⟨sl,e1⟩:=lo o e
   exact ⟨_,e1⟩
  ·cases hh:Hid a with
   | false=>exact ⟨o,kb a o ha e hh⟩
   | true=>obtain ⟨ps,e1⟩:=yQ tb hh;exact ⟨_,e1⟩
theorem yXu {p1 p2 p3 p4 p5:Pos} {Kn:SRho→Prop} {Kr:V→Prop} {Q:Flow→Shared→Prop} (hp:paL A env) (F:Fr w (k + 2) A s₀ (fdSc 28) env off₀ ρ m cm ad s)
  (kk:∃ ns:List Nat,ρ.lookup ("octets":Str)=some (.val (.lst ((enc ns).map V.int)))∧(∀ n∈ns,0 < n∧n < 2 ^ 18)∧ns.length≤300∧Kn (setS "told" (.val (.lst (zQ ns))) ρ))
  (q:∀ f s',Out w (k + 2) A s₀ (fdSc 28) env off₀ (offF off₀ ρ ad) s.heap Kn Kr (fun _=>False) f s'→Q f s') :
  wpAny (model pw w) A (exec (.Assign [.Name "told" p1] (.Call (.Name "_law_read" p2) [.Name "octets" p3] [] p4) p5) env) Q E s:=by
 apply bc;intro hQ;rcases kk with ⟨ns,hl,hb,hlen,kk⟩;rcases F.slots _ _ hl with ⟨v0,g1,g2⟩;rcases nV ns [] fun n hn=>(hb n hn).2 with ⟨L,e1,e2,e3⟩;refine hQ ?_;clear hQ
 have eL:(enc ns).map V.int=L.map fun (c:Nat)=>V.int c:=by
  show (ns.foldl yv []).map V.int=_
  rw [e1,List.nil_append,List.map_map];rfl
 rw [eL] at g2
 have hLl:L.length≤10000:=by
  have h1:(enc ns).length=L.length:=by
   have:=congrArg List.length eL
   rwa [List.length_map,List.length_map] at this
  have h2:∀ (l:List Nat) (acc:List Int),(l.foldl yv acc).length≤acc.length + 3 * l.length:=fun l=>by
   induction l with
   | nil=>intro acc;exact Nat.le_add_right _ _
   | cons n r ih =>
    intro acc
    have h1:=ih (yv acc n)
    have h2:=tq acc n
    rw [List.foldl_cons,List.length_cons];lia
  have h3:=h2 ns []
  have h4:(enc ns).length≤0 + 3 * ns.length:=h3
  lia
 apply bc;intro hQ;rcases (at25 w).obj with ⟨h3,h4⟩;rcases h4 with ⟨hg,hd⟩;refine hQ ?_;clear hQ
 have hn:=F.call.toInCall.ns
 refine wpAny_Assign_Name (Call_ (xq F.glbs F.en (by rfl) (at25 w).name (callWith_def hd (args_cons (wV F g1 (args_nil ⟨F.glbs.at_ _ _ hg (.nf fun vs d=>by rw [hd] at d;contradiction),?_⟩)) (zX rfl _ _)) (zX rfl _ _)))) (zY rfl _ _ _)
 refine bQ (K:=fun x=>x=ns) F.room F.glbs F.ownOld hp.1 (by rw [F.en.scope,F.en.kind];decide) hp.2 hn F.apart (hK F) g2 hLl (yW5 e2 (fun n hn=>(hb n hn).2) (by rw [sizeLine_eq];lia) rfl) fun ns' v' h' tk hk hrd hkb htb hlo=>?_
 subst hk
 obtain ⟨F1,st1⟩:=bJ (tk:=tk) F hkb htb hlo
 refine F1.storeRaw (by rfl) fun h5 tk5 m5 cm5 B5 st5=>?_
 have F2:=F1.setVal (X:=.lst (zQ ns')) hrd st5
 exact q .next _ ⟨_,m5,cm5,ad,kk,F2,st1.trans (Step.stored F1 st5 fun a z=>zv z)⟩
theorem yW8 {c:Cx} {sc:Scope} {n:Nat} {l r:Expr} {op:CmpOp} {p:Pos} {ρ:Rho} {K:Kp} (hc:c.ext sc (.Compare l [op] [r] p)=none) (k:ew c sc (n + 1) (.Compare l [op] [r] p) ρ K) :
  behindInMarks op r=false∧ew c sc n l ρ fun a=>ew c sc n r ρ fun b=>zZ8 op a b K:=by
 rcases onO.inv k with ⟨f,hf,_⟩ | ⟨-,k⟩
 ·rw [hc] at hf;contradiction
 ·obtain ⟨h,k⟩:=onT.inv k
  rw [Bool.not_eq_true'] at h
  exact ⟨h,k⟩
theorem zXv {a1 a2:Expr} {p1 p2 p3 p4 p5 p6 p7 p8:Pos} {b1:List Stmt} {Kn:SRho→Prop} {Kr:V→Prop} {Q:Flow→Shared→Prop} (hp:paL A env) (F:Fr w (k + 2) A s₀ (fdSc 28) env off₀ ρ m cm ad s) (n1:yY a1=false) (n2:behindInMarks .NotEq a2=false)
  (kk:∃ ns:List Nat,ns≠[]∧(∀ n∈ns,0 < n∧n < 2 ^ 18)∧ns.length≤300∧zQl (.Compare (.Name "told" p1) [.NotEq] [.Name "written" p2] p3) ρ (fun X=>X=.bool false)∧jW [a1] ρ (fun l=>l=[.lst ((enc ns).dropLast.map V.int)])∧zQl a2 ρ (fun X=>X=.lst (zQ ns.dropLast))∧Kn ρ)
  (q:∀ f s',Out w (k + 2) A s₀ (fdSc 28) env off₀ (offF off₀ ρ ad) s.heap Kn Kr (fun _=>False) f s'→Q f s') :
  wpAny (model pw w) A (exec (.If (.BoolOp .Or [.Compare (.Name "told" p1) [.NotEq] [.Name "written" p2] p3,.Compare (.Call (.Name "_law_read" p4) [a1] [] p5) [.NotEq] [a2] p6] p7) b1 [] p8) env) Q E s:=by
 apply bc;intro hQ;rcases kk with ⟨ns,hne,hb,hlen,k1,k2,k3,kk⟩;refine hQ ?_;clear hQ
 have S:=snd (yZ w (k + 2))
 apply bc;intro hQ;rcases nV ns [] fun n hn=>(hb n hn).2 with ⟨L,e1,e2,e3⟩;refine hQ ?_;clear hQ
 have eL0:enc ns=L.map fun (c:Nat)=>(c:Int):=by
  show ns.foldl yv []=_
  rw [e1,List.nil_append]
 have eL:(enc ns).dropLast.map V.int=L.dropLast.map fun (c:Nat)=>V.int c:=by
  rw [eL0,← List.map_dropLast,List.map_map];rfl
 have hLl:L.dropLast.length≤10000:=by
  have h2:∀ (l:List Nat) (acc:List Int),(l.foldl yv acc).length≤acc.length + 3 * l.length:=fun l=>by
   induction l with
   | nil=>intro acc;exact Nat.le_add_right _ _
   | cons n r ih =>
    intro acc
    have h1:=ih (yv acc n)
    have h2:=tq acc n
    rw [List.foldl_cons,List.length_cons];lia
  have h4:(enc ns).length≤0 + 3 * ns.length:=h2 ns []
  rw [eL0,List.length_map] at h4
  rw [List.length_dropLast]
  lia
 apply bc;intro hQ;rcases (at25 w).obj with ⟨h3,h4⟩;rcases h4 with ⟨hg,hd⟩;refine hQ ?_;clear hQ
 unfold zQl at k1 k3
 unfold jW at k2
 refine wpAny_If (wpAny_isTrue_BoolOp (wpAny_allTrue_Or_cons ?_))
 obtain ⟨hmk,k1⟩:=yW8 (n:=29) rfl k1
 refine wpAny_isTrue_Compare1 ((S 29).e (F.at' []) k1 fun X v h1 tk1 kx ee1 r1=>(S 29).e ((F.at' []).keep ee1) kx fun Y u h2 tk2 ky ee2 r2=>?_) hmk
 have F2:=F.keep (tk:=tk2) (ee1.trans ee2)
 refine zQ7 (s:={ s with heap:=h2,toks:=tk2 }) (F.at' []).room (r1.keep ee2) r2 ky fun Z z h3 tk3 kz ee3 r3=>?_
 subst kz
 obtain rfl:=r3
 refine wpAny_truthy_bool ?_
 rw [if_neg (by decide)]
 have k03:=(ee1.trans ee2).trans ee3
 have F3:=F.keep (tk:=tk3) k03
 refine wpAny_allTrue_Or_cons (wpAny_isTrue_Compare1 (Call_ (xq F3.glbs F3.en (by rfl) (at25 w).name (callWith_def hd ((S 30).es p5 (F3.at' []) k2 fun l vs h4 tk4 hl ee4 r4=>⟨(F3.glbs.keep ee4).at_ _ _ hg (.nf fun vs d=>by rw [hd] at d;contradiction),?_⟩) (zX n1 _ _)))) n2)
 subst hl
 have F4:=F3.keep (tk:=tk4) ee4
 apply bc;intro hQ;rcases r4 with ⟨v5,vs5,rfl,r5,r6⟩;refine hQ ?_;clear hQ
 obtain rfl:=r6
 rw [eL] at r5
 have le:∀ b,offF off₀ ρ ad b→offF off₀ ρ ad b:=fun _ z=>z
 have hn4:=F4.call.toInCall.ns
 refine bQ (s:={ s with heap:=h4,toks:=tk4 }) (K:=fun x=>x=ns.dropLast) (off:=offV off₀ ρ ad []) F.room F4.glbs (fun a ha=>F4.ownOld a (uz ha)) hp.1 (by rw [F.en.scope,F.en.kind];decide) hp.2 hn4 F.apart (fun z=>hK F4 (uz z)) r5 hLl (yW6 e2 hne (fun n hn=>(hb n hn).2) (by rw [sizeLine_eq];lia) rfl) fun ns' v' h5 tk5 hk hrd hkb htb hlo=>?_
 subst hk
 obtain ⟨F5,st5⟩:=bJ (tk:=tk5) F4 hkb htb hlo
 refine (S 30).e (F5.at' []) k3 fun Y u h6 tk6 hY ee6 r6=>?_
 subst hY
 have F6:=F5.keep (tk:=tk6) ee6
 refine zQ7 (s:={ s with heap:=h6,toks:=tk6 }) (op:=.NotEq) (K:=fun Z=>Z=.bool false) (F.at' []).room (hrd.keep ee6) r6 ⟨zq (xW _),zq (xW _),by rw [uW (xW _)];rfl⟩ fun Z z h7 tk7 kz ee7 r7=>?_
 subst kz
 obtain rfl:=r7
 refine wpAny_truthy_bool ?_
 rw [if_neg (by decide)]
 refine wpAny_allTrue_Or_nil ?_
 simp only [Bool.false_eq_true,if_false]
 refine wpAny_execs_nil (q .next _ ⟨ρ,m,cm,ad,kk,F6.keep (tk:=tk7) ee7,?_⟩)
 exact ((Step.keep (off:=offF off₀ ρ ad) (off':=offF off₀ ρ ad) (k03.trans ee4) le).trans st5).trans (Step.keep (ee6.trans ee7) le)
end
end Mine
end
section
open PySem PySem.W PySem.Calls PyProof.Rows PySem.Builtin PySem.Builtin.Str
namespace Mine
theorem fv (w:Nat):∀ l:List Nat,(∀ d∈l,d < 2 ^ w)→valD w l < 2 ^ (w * l.length)
 | [],_=>Nat.two_pow_pos _
 | d :: r,h=>by
  have h1:=fv w r fun x hx=>h x (List.mem_cons_of_mem _ hx)
  have h2:=h d List.mem_cons_self
  show d + 2 ^ w * valD w r < _
  rw [List.length_cons,Nat.mul_succ,Nat.pow_add,Nat.mul_comm (2 ^ (w * r.length))]
  have:2 ^ w * (valD w r + 1)≤2 ^ w * 2 ^ (w * r.length):=Nat.mul_le_mul_left _ h1
  rw [Nat.mul_add,Nat.mul_one] at this
  lia
theorem bK (w:Nat):∀ l:List Nat,l≠[]→(∀ d∈l,d < 2 ^ w)→digN w l.length (valD w l)=l
 | [],h,_=>absurd rfl h
 | [d],_,_=>by
  show digN w 1 (d + 2 ^ w * 0)=[d]
  rw [oX];simp
 | d :: e :: r,_,h=>by
  have hd:=h d List.mem_cons_self
  have e1:(d :: e :: r).length=1 + (e :: r).length:=by simp [Nat.add_comm]
  rw [e1,nJ w 1 _ _ (by decide) (by simp),oX,Nat.mul_one]
  have hv:valD w (d :: e :: r)=d + 2 ^ w * valD w (e :: r):=rfl
  rw [hv,Nat.add_mul_mod_self_left,Nat.mod_eq_of_lt hd,Nat.add_mul_div_left _ _ (Nat.two_pow_pos w),Nat.div_eq_of_lt hd,Nat.zero_add,bK w (e :: r) (by simp) fun x hx=>h x (List.mem_cons_of_mem _ hx)]
  rfl
theorem yXv {a j:Nat} (h:2 ^ j≤a):j < Builtin.Int.intBits (a:Int):=by
 have:=zQk a
 rcases Nat.lt_or_ge j (Builtin.Int.intBits (a:Int)) with h1 | h1
 ·exact h1
 ·have:=Nat.pow_le_pow_right (n:=2) (by decide) h1
  lia
theorem zQn {w:Nat} (hw:0 < w) {l:List Nat} {d:Nat} (hd:0 < d) (h:∀ x∈l++[d],x < 2 ^ w) (z:List Nat) (hz:∀ x∈z,x=0) :
  cntD (valD w ((l++[d])++z)) w=l.length + 1∧digN w (l.length + 1) (valD w ((l++[d])++z))=l++[d]:=by
 have hz0:valD w z=0:=by
  clear h
  induction z with
  | nil=>rfl
  | cons a r ih =>
   show a + 2 ^ w * valD w r=0
   rw [ih fun x hx=>hz x (List.mem_cons_of_mem _ hx),hz a List.mem_cons_self];simp
 rw [tV,hz0,Nat.mul_zero,Nat.add_zero]
 have e1:(l++[d]).length=l.length + 1:=by simp
 have h1:=fv w _ h
 rw [e1] at h1
 have h2:2 ^ (w * l.length)≤valD w (l++[d]):=by
  rw [tV]
  have:valD w [d]=d:=by simp [valD]
  rw [this]
  have:2 ^ (w * l.length) * 1≤2 ^ (w * l.length) * d:=Nat.mul_le_mul_left _ hd
  omega
 refine ⟨?_,?_⟩
 ·have b1:=tW h1
  have b2:=yXv h2
  unfold cntD
  rw [Nat.mul_succ] at b1
  refine Nat.div_eq_of_lt_le ?_ ?_
  ·rw [Nat.mul_comm,Nat.mul_succ];omega
  ·rw [Nat.mul_comm,Nat.mul_succ,Nat.mul_succ];omega
 ·have:=bK w (l++[d]) (by simp) h
  rw [e1] at this
  exact this
theorem zQo {L:List Nat} (h:L≠[]):∃ r a,L=r++[a]:=⟨L.dropLast,L.getLast h,(List.dropLast_concat_getLast h).symm⟩
theorem zZo (r:List Nat) (a:Nat):((r++[a]).map (2 ^ ·)).sum=2 ^ a + (r.map (2 ^ ·)).sum:=by
 rw [List.map_append,List.sum_append];simp [Nat.add_comm]
theorem yQ3 (n:Nat):∀ (L:List Nat),L.Pairwise (· < ·)→(∀ x∈L,x < n)→(L.map (2 ^ ·)).sum < 2 ^ n:=by
 induction n using Nat.strongRecOn with
 | ind n ih =>
  intro L hs h
  by_cases hL:L=[]
  ·subst hL;exact Nat.two_pow_pos _
  apply bc;intro hQ;rcases zQo hL with ⟨r,a,rfl⟩;refine hQ ?_;clear hQ
  rw [List.pairwise_append] at hs
  have h2:=h a (List.mem_append_right _ List.mem_cons_self)
  have h1:=ih a h2 r hs.1 fun x hx=>hs.2.2 x hx a List.mem_cons_self
  rw [zZo]
  have:2 ^ a * 2≤2 ^ n:=by rw [← Nat.pow_succ];exact Nat.pow_le_pow_right (by decide) (by lia)
  lia
theorem zQp (i:Nat):∀ (n:Nat) (L:List Nat),L.length=n→L.Pairwise (· < ·)→((L.map (2 ^ ·)).sum).testBit i=decide (i∈L)
 | 0,L,hl,_=>by have:=List.eq_nil_of_length_eq_zero hl;subst this;simp
 | n + 1,L,hl,hs=>by
  apply bc;intro hQ;rcases zQo (L:=L) (by rintro rfl;contradiction) with ⟨r,a,rfl⟩;refine hQ ?_;clear hQ
  rw [List.pairwise_append] at hs
  have hlt:∀ x∈r,x < a:=fun x hx=>hs.2.2 x hx a List.mem_cons_self
  have h1:=yQ3 a r hs.1 hlt
  have ih:=zQp i n r (by simpa using hl) hs.1
  rw [zZo]
  rcases Nat.lt_trichotomy i a with h | h | h
  ·rw [Nat.testBit_two_pow_add_gt h,ih]
   refine decide_eq_decide.mpr ?_
   simp;lia
  ·subst h
   rw [Nat.testBit_two_pow_add_eq,Nat.testBit_lt_two_pow h1]
   simp
  ·rw [Nat.testBit_lt_two_pow]
   ·symm;rw [decide_eq_false_iff_not]
    intro hm
    rcases List.mem_append.mp hm with hm | hm
    ·have:=hlt i hm;lia
    ·rw [List.mem_singleton] at hm;lia
   ·have:2 ^ a * 2≤2 ^ i:=by rw [← Nat.pow_succ];exact Nat.pow_le_pow_right (by decide) (by lia)
    lia
theorem nY (n:Nat):∀ (L:List Nat),L.Pairwise (· < ·)→(∀ x∈L,x < n)→(List.range n).filter (fun i=>decide (i∈L))=L:=by
 induction n with
 | zero =>
  intro L hs h
  cases L with
  | nil=>rfl
  | cons a r=>exact absurd (h a List.mem_cons_self) (Nat.not_lt_zero _)
 | succ n ih =>
  intro L hs h
  rw [List.range_succ,List.filter_append]
  by_cases hn:n∈L
  ·obtain ⟨r,a,rfl⟩:=zQo (L:=L) (by rintro rfl;contradiction)
   rw [List.pairwise_append] at hs
   have hlt:∀ x∈r,x < a:=fun x hx=>hs.2.2 x hx a List.mem_cons_self
   have ha:a=n:=Nat.le_antisymm (Nat.le_of_lt_succ (h a (List.mem_append_right _ List.mem_cons_self))) ((List.mem_append.mp hn).elim (fun hn=>Nat.le_of_lt (hlt n hn)) fun hn=>Nat.le_of_eq (List.mem_singleton.mp hn))
   rw [ha] at hlt ⊢
   have e:(List.range n).filter (fun i=>decide (i∈r++[n]))=(List.range n).filter (fun i=>decide (i∈r)):=by
    refine List.filter_congr fun i hi=>decide_eq_decide.mpr ⟨fun h=>(List.mem_append.mp h).resolve_right fun h=>?_,List.mem_append_left _⟩
    rw [List.mem_range,List.mem_singleton.mp h] at hi
    exact Nat.lt_irrefl _ hi
   rw [e,ih r hs.1 hlt]
   simp
  ·rw [ih L hs fun x hx=>Nat.lt_of_le_of_ne (Nat.le_of_lt_succ (h x hx)) (by rintro rfl;exact hn hx)]
   simp [hn]
theorem fw {L:List Nat} (hs:L.Pairwise (· < ·)) (h:∀ x∈L,x < 32):vK ((L.map (2 ^ ·)).sum)=L.map ny:=by
 unfold vK
 have:(fun i=>((L.map (2 ^ ·)).sum).testBit i)=fun i=>decide (i∈L):=funext fun i=>zQp i L.length L rfl hs
 rw [this,nY 32 L hs h]
noncomputable def wv (k:Nat):Str:=if k < 10 then (flagL0.getD k default) else ("0x":Str)++Txt.item "1248" ((k % 4:Nat):Int)++Txt.mul "0" ((k / 4:Nat):Int)
where flagL0:List Str:=["OPTIMIZED","NEWLOCALS","VARARGS","VARKEYWORDS","NESTED","GENERATOR","NOFREE","COROUTINE","ITERABLE_COROUTINE","ASYNC_GENERATOR"]
theorem zXw:∀ k:Fin 32,wv k.val=ny k.val:=by decide +kernel
theorem zQq:∀ k:Fin 32,(wv k.val).length≤40:=by decide +kernel
theorem zV (l:List Nat):(zQ l).length=l.length:=by unfold zQ;rw [List.length_map]
theorem zj {l:List Nat} {k d:Nat} (h:l[k]?=some d):(zQ l)[k]?=some (.int d):=by unfold zQ;rw [List.getElem?_map,h];rfl
theorem getD_some {l:List Nat} {k:Nat} (h:k < l.length):l[k]?=some (l.getD k 0):=by rw [List.getD_eq_getElem?_getD,List.getElem?_eq_getElem h];rfl
theorem tv (n:Nat):pK (n:Int)=zQ (List.range n):=by rw [vw];rfl
theorem qk:∀ (l:List Nat) (B n:Nat),(∀ x∈l,x≤B)→l.length≤n→B * n < 2 ^ 62→∀ j,j < (l.map fun (n:Nat)=>(n:Int)).length→InLong ((l.map fun (n:Nat)=>(n:Int)).getD j 0)∧InLong (((l.map fun (n:Nat)=>(n:Int)).take (j + 1)).sum):=by
 intro l B n h hl hb j hj
 rw [List.length_map] at hj
 have hs:∀ r:List Nat,(∀ x∈r,x≤B)→0≤((r.map fun (n:Nat)=>(n:Int))).sum∧((r.map fun (n:Nat)=>(n:Int))).sum≤((B * r.length:Nat):Int):=fun r=>by
  induction r with
  | nil=>intro _;exact ⟨Int.le_refl _,by simp⟩
  | cons a r ih =>
   intro h
   have h1:=ih fun x hx=>h x (List.mem_cons_of_mem _ hx)
   have h2:=h a List.mem_cons_self
   rw [List.map_cons,List.sum_cons,List.length_cons,Nat.mul_succ]
   exact ⟨Int.add_nonneg (Int.natCast_nonneg _) h1.1,by rw [Int.natCast_add,Int.add_comm];exact Int.add_le_add h1.2 (Int.ofNat_le.mpr h2)⟩
 have e1:(l.map fun (n:Nat)=>(n:Int)).getD j 0=(l[j]:Int):=by
  rw [List.getD_eq_getElem?_getD,List.getElem?_map,List.getElem?_eq_getElem hj];rfl
 have h1:=h l[j] (List.getElem_mem _)
 have hn:0 < n:=by lia
 have h3:B≤B * n:=Nat.le_mul_of_pos_right _ hn
 have h4:=hs (l.take (j + 1)) fun x hx=>h x (List.mem_of_mem_take hx)
 have h5:B * (l.take (j + 1)).length≤B * n:=Nat.mul_le_mul_left _ (by rw [List.length_take];lia)
 rw [e1,← List.map_take]
 unfold InLong
 have hB:∀ z:Int,0≤z→z≤((B * n:Nat):Int)→-2 ^ 63≤z∧z < 2 ^ 63:=fun z h0 h1=>by lia
 exact ⟨hB _ (Int.natCast_nonneg _) (Int.ofNat_le.mpr (Nat.le_trans h1 h3)),hB _ h4.1 (Int.le_trans h4.2 (Int.ofNat_le.mpr h5))⟩
noncomputable def oK (T:List Nat):List Nat:=(List.range 14).filter fun k=>T.getD k 0 != 0
theorem segY (th:List Nat) (ba:Nat) (hb:ba < 19) (hs:th.Pairwise (· < ·)) (h14:∀ q∈th,q < 14) (hne:th≠[]) (K:Kp) (k:K (.bool true)) :
  xs cxL (fdSc 28) ["grown"] 72 ((fdB 28).drop 28) (st0 [("there",.lst (zQ th)),("base",.int ba)]) (fun _=>K .none) K (fun _=>False):=by
 have hth:∀ (l:List Nat) (f:Nat→Nat),(zQ l).map (fun v=>match v with | .int k=>V.int ((f k.toNat:Nat):Int) | _=>.none)=zQ (l.map f):=fun l f=>by
  unfold zQ
  rw [List.map_map,List.map_map]
  exact List.map_congr_left fun k _=>rfl
 have hl14:th.length≤14:=by
  have h1:=nY 14 th hs h14
  rw [← h1]
  exact Nat.le_trans (List.length_filter_le _ _) (by simp)
 conv=>whnf
 refine no_implicit_lambda% (uw (fun v=>match v with | .int k=>V.int (((ba + k.toNat:Nat)):Int) | _=>.none) _ _ _ (by rw [zV,sizeLine_eq];show 0 + _≤_;lia) (fun v hv acc K' hacc k'=>?_) ?_)
 ·unfold zQ at hv
  apply bc;intro hQ;rcases List.mem_map.mp hv with ⟨m,hm,rfl⟩;refine hQ ?_;clear hQ
  conv=>whnf
  refine ⟨hacc,?_⟩
  dsimp only at k'
  rw [Int.toNat_natCast] at k'
  push_cast at k'
  exact k'
 rw [List.nil_append,hth th (fun q=>ba + q)]
 conv=>whnf
 have h32:∀ x∈th.map (fun q=>ba + q),x < 32:=fun x hx=>by
  apply bc;intro hQ;rcases List.mem_map.mp hx with ⟨q,hq,rfl⟩;refine hQ ?_;clear hQ
  have:=h14 q hq
  lia
 have hsL:(th.map (fun q=>ba + q)).Pairwise (· < ·):=by
  rw [List.pairwise_map]
  exact hs.imp fun h=>by lia
 have hneL:th.map (fun q=>ba + q)≠[]:=by simpa using hne
 have hlL:(th.map (fun q=>ba + q)).length≤14:=by rw [List.length_map];exact hl14
 refine no_implicit_lambda% (uw (fun v=>match v with | .int k=>V.str (wv k.toNat) | _=>.none) _ _ _ (by rw [zV,sizeLine_eq];show 0 + _≤_;lia) (fun v hv acc K' hacc k'=>?_) ?_)
 ·unfold zQ at hv
  apply bc;intro hQ;rcases List.mem_map.mp hv with ⟨m,hm,rfl⟩;refine hQ ?_;clear hQ
  have hm32:=h32 m hm
  dsimp only at k'
  rw [Int.toNat_natCast] at k'
  have hdw:wv m=if m < 10 then (wv.flagL0.getD m default) else ("0x":Str)++Txt.item "1248" ((m % 4:Nat):Int)++Txt.mul "0" ((m / 4:Nat):Int):=rfl
  conv=>whnf
  by_cases h10:m < 10
  ·rw [show decide ((m:Int) < 10)=true from decide_eq_true (by lia)]
   have hsp:Txt.split "OPTIMIZED NEWLOCALS VARARGS VARKEYWORDS NESTED GENERATOR NOFREE COROUTINE ITERABLE_COROUTINE ASYNC_GENERATOR" " "=wv.flagL0:=by decide +kernel
   conv=>whnf
   refine ⟨rfl,Nat.le_of_ble_eq_true rfl,by rw [hsp];exact Nat.le_of_ble_eq_true rfl,?_⟩
   rw [hsp]
   conv=>whnf
   rw [hdw,if_pos h10] at k'
   refine ⟨by lia,by lia,m,.str (wv.flagL0.getD m default),?_,?_,?_⟩
   ·rw [List.length_map];exact seqIndex_of (Int.natCast_nonneg _) (by show (m:Int) < ((10:Nat):Int);lia)
   ·rw [List.getElem?_map,List.getElem?_eq_getElem (by show m < 10;exact h10),List.getD_eq_getElem?_getD,List.getElem?_eq_getElem (by show m < 10;exact h10)];rfl
   exact ⟨hacc,k'⟩
  ·rw [show decide ((m:Int) < 10)=false from decide_eq_false (by lia)]
   rw [hdw,if_neg h10] at k'
   conv=>whnf
   refine ⟨by decide,?_⟩
   have e4:Int.fmod (m:Int) 4=((m % 4:Nat):Int):=by rw [Int.fmod_eq_emod_of_nonneg _ (by decide)];norm_cast
   have e5:Int.fdiv (m:Int) 4=((m / 4:Nat):Int):=by rw [Int.fdiv_eq_ediv_of_nonneg _ (by decide)];norm_cast
   have hm4:m % 4 < 4:=Nat.mod_lt _ (by decide)
   have hmd:m / 4≤7:=by lia
   conv=>whnf
   rw [e4]
   refine ⟨by unfold fitsSsize;simp;lia,by lia,by show ((m % 4:Nat):Int) < 4;lia,?_⟩
   conv=>whnf
   refine ⟨Nat.le_of_ble_eq_true rfl,?_⟩
   conv=>whnf
   refine ⟨by decide,vJ (by decide),?_⟩
   conv=>whnf
   rw [e5]
   have hmul:∀ i:Fin 8,(Txt.mul "0" ((i.val:Nat):Int)).length≤10:=by decide +kernel
   have hm7:=hmul ⟨m / 4,by lia⟩
   dsimp only at hm7
   generalize m / 4=j at hmd hm7 k' ⊢
   have hj:MulOk "0" ((j:Nat):Int):=by
    refine ⟨by simp;lia,fun h1 h2=>?_,fun h1 h2=>?_⟩
    ·refine Int.not_lt.mpr ?_
     refine Int.le_ediv_of_mul_le (by lia) ?_
     show (1:Int) * j≤_
     lia
    ·rw [Int.toNat_natCast]
     show tooLong (1 * j)=false
     unfold tooLong
     rw [decide_eq_false_iff_not]
     rw [Nat.one_mul]
     exact Nat.not_lt.mpr (Nat.le_trans hmd (Nat.le_of_ble_eq_true rfl))
   refine ⟨hj,?_⟩
   conv=>whnf
   refine ⟨?_,hacc,k'⟩
   rw [sizeLine_eq]
   show 3 + _≤_
   lia
 have hdw:∀ l:List Nat,(zQ l).map (fun v=>match v with | .int k=>V.str (wv k.toNat) | _=>.none)=(l.map wv).map V.str:=fun l=>by
  unfold zQ
  rw [List.map_map,List.map_map]
  exact List.map_congr_left fun k _=>rfl
 rw [List.nil_append,hdw]
 conv=>whnf
 refine no_implicit_lambda% (uw (fun v=>match v with | .int k=>V.int (((2 ^ (ba + k.toNat):Nat)):Int) | _=>.none) _ _ _ (by rw [zV,sizeLine_eq];show 0 + _≤_;lia) (fun v hv acc K' hacc k'=>?_) ?_)
 ·unfold zQ at hv
  apply bc;intro hQ;rcases List.mem_map.mp hv with ⟨m,hm,rfl⟩;refine hQ ?_;clear hQ
  have:=h14 m hm
  conv=>whnf
  refine ⟨by lia,by lia,by decide,?_⟩
  conv=>whnf
  refine ⟨hacc,?_⟩
  dsimp only at k'
  rw [Int.toNat_natCast] at k'
  rw [show ((ba:Int) + (m:Int)).toNat=ba + m by lia]
  push_cast at k'
  exact k'
 rw [List.nil_append,hth th (fun q=>2 ^ (ba + q))]
 have hsum:((th.map fun q=>2 ^ (ba + q)).map fun (n:Nat)=>(n:Int)).sum=(((th.map (fun q=>ba + q)).map (2 ^ ·)).sum:Nat):=by
  rw [List.map_map (l:=th) (f:=fun q=>ba + q)]
  show ((th.map fun q=>2 ^ (ba + q)).map fun (n:Nat)=>(n:Int)).sum=((th.map fun q=>2 ^ (ba + q)).sum:Nat)
  generalize (th.map fun q=>2 ^ (ba + q))=l
  induction l with
  | nil=>rfl
  | cons a r ih=>rw [List.map_cons,List.sum_cons,List.sum_cons,ih];push_cast;rfl
 have hN:=yQ3 32 _ hsL h32
 have hfw:=fw hsL h32
 have hlong:=qk (th.map fun q=>2 ^ (ba + q)) (2 ^ 32) 14 (fun x hx=>by
  apply bc;intro hQ;rcases List.mem_map.mp hx with ⟨q,hq,rfl⟩;refine hQ ?_;clear hQ
  have:=h14 q hq
  exact Nat.pow_le_pow_right (by decide) (by lia)) (by rw [List.length_map];exact hl14) (by decide)
 have hpos:((th.map (fun q=>ba + q)).map (2 ^ ·)).sum≠0:=by
  intro h0
  have hb:=fun i=>zQp i _ _ rfl hsL
  rw [h0] at hb
  obtain ⟨x,hx⟩:=List.exists_mem_of_ne_nil _ hneL
  have:=hb x
  rw [Nat.zero_testBit,decide_eq_true hx] at this
  contradiction
 have hwds:vK ((th.map (fun q=>ba + q)).map (2 ^ ·)).sum=(th.map (fun q=>ba + q)).map wv:=by
  rw [hfw]
  exact List.map_congr_left fun x hx=>(zXw ⟨x,h32 x hx⟩).symm
 have hjoin:JoinOk ", " ((th.map (fun q=>ba + q)).map wv)=true:=by
  unfold JoinOk
  rw [← Array.foldl_toList,List.toList_toArray]
  have:∀ (l:List Nat) (n:Nat),(∀ x∈l,x < 32)→(l.map wv).foldl (· + ·.length + (", ":Str).length) n≤n + l.length * 42:=fun l=>by
   induction l with
   | nil=>intro n _;exact Nat.le_add_right _ _
   | cons x r ih =>
    intro n h
    have h1:=zQq ⟨x,h x List.mem_cons_self⟩
    dsimp only at h1
    have h2:=ih (n + (wv x).length + (", ":Str).length) fun y hy=>h y (List.mem_cons_of_mem _ hy)
    rw [List.map_cons,List.foldl_cons,List.length_cons]
    refine Nat.le_trans h2 ?_
    have:(", ":Str).length=2:=rfl
    rw [this];lia
  have:=this _ 0 h32
  unfold tooLong
  rw [Bool.not_eq_true',decide_eq_false_iff_not]
  refine Nat.not_lt.mpr (Nat.le_trans this ?_)
  refine Nat.le_trans (m:=1000) (by lia) (Nat.le_of_ble_eq_true rfl)
 conv=>whnf
 refine ⟨(th.map fun q=>2 ^ (ba + q)).map fun (n:Nat)=>(n:Int),by unfold zQ;simp [List.map_map,Function.comp_def],hlong,?_⟩
 rw [hsum]
 conv=>whnf
 refine ⟨_,rfl,hpos,hN,by rw [hwds];exact hjoin,?_⟩
 rw [hwds]
 conv=>whnf
 refine ⟨_,rfl,hjoin,?_⟩
 show K _
 rw [beq_self_eq_true]
 exact k
theorem hV:∀ T:List Nat,(∃ t∈T,t≠0)→∃ l d z,T=(l++[d])++z∧0 < d∧∀ x∈z,x=0
 | [],⟨_,h,_⟩=>nomatch h
 | a :: r,h=>by
  by_cases hr:∃ t∈r,t≠0
  ·apply bc;intro hQ;rcases hV r hr with ⟨l,d,z,e,h1,h2⟩;refine hQ ?_;clear hQ
   exact ⟨a :: l,d,z,by rw [e];rfl,h1,h2⟩
  ·apply bc;intro hQ;rcases h with ⟨t,ht,h0⟩;refine hQ ?_;clear hQ
   have hz:∀ x∈r,x=0:=fun x hx=>by
    by_cases h:x=0
    ·exact h
    ·exact absurd ⟨x,hx,h⟩ hr
   rcases List.mem_cons.mp ht with rfl | ht
   ·exact ⟨[],t,r,rfl,Nat.pos_of_ne_zero h0,hz⟩
   ·exact absurd (hz t ht) h0
theorem zQr {T l z:List Nat} {d:Nat} (hT:T.length=14) (e:T=(l++[d])++z) (hd:0 < d) (hz:∀ x∈z,x=0):oK T=((List.range l.length).filter fun k=>T.getD k 0 != 0)++[l.length]:=by
 have hl:l.length + 1 + z.length=14:=by rw [e] at hT;simp at hT;lia
 unfold oK
 have h1:(14:Nat)=l.length + 1 + z.length:=hl.symm
 rw [h1,List.range_add,List.filter_append,List.range_succ,List.filter_append]
 have h2:((List.range z.length).map (fun x=>l.length + 1 + x)).filter (fun k=>T.getD k 0 != 0)=[]:=by
  rw [List.filter_eq_nil_iff]
  intro k hk
  apply bc;intro hQ;rcases List.mem_map.mp hk with ⟨j,hj,rfl⟩;refine hQ ?_;clear hQ
  rw [List.mem_range] at hj
  have:T.getD (l.length + 1 + j) 0=0:=by
   rw [List.getD_eq_getElem?_getD,e,List.getElem?_append_right (by simp),List.length_append,List.length_singleton,Nat.add_sub_cancel_left,List.getElem?_eq_getElem hj]
   exact hz _ (List.getElem_mem _)
  rw [this];simp
 have h3:T.getD l.length 0=d:=by
  rw [List.getD_eq_getElem?_getD,e,List.getElem?_append_left (by simp),List.getElem?_append_right (Nat.le_refl _),Nat.sub_self];rfl
 have h4:[l.length].filter (fun k=>T.getD k 0 != 0)=[l.length]:=by
  rw [List.filter_cons,h3,if_pos (by rw [bne_iff_ne];lia)];rfl
 rw [h2,h4,List.append_nil]
theorem yW9 {c:Cx} {sc:Scope} {n:Nat} {ρ:Rho} {K:Bool→Prop} (h:K false):(gen c (n + 1)).bo sc .Or [] ρ K:=h
theorem yXw {c:Cx} {sc:Scope} {ow:List Str} {n:Nat} {ρ:SRho} {Kn Kb:SRho→Prop} {Kr:V→Prop} (h:Kn ρ):xs c sc ow (n + 1) [] ρ Kn Kr Kb:=h
theorem segZ (T D:List Nat) (d4:Nat) (hd:D[4]?=some d4) (hD:D.length=6) (hT:T.length=14) (h10:∀ t∈T,t < 16) (hne:∃ t∈T,t≠0) (K:Kp) (k:K (.bool true)) :
  xs cxL (fdSc 28) ["grown"] 75 ((fdB 28).drop 25) (st0 [("draws",.lst (zQ D)),("table",.lst (zQ T)),("refused",.str "nought")]) (fun _=>K .none) K (fun _=>False):=by
 conv=>whnf
 refine ⟨by decide,by decide,?_⟩
 rw [show (14:Int)=((14:Nat):Int) from rfl,tv]
 refine no_implicit_lambda% (qQ (fun v=>match v with | .int k=>(if T.getD k.toNat 0 != 0 then [v] else []) | _=>[]) _ _ _ ?_ (fun v hv acc K' hacc k'=>?_) ?_)
 ·refine Nat.le_trans (m:=14) ?_ (by decide)
  have:∀ l:List Nat,((zQ l).flatMap fun v=>match v with | .int k=>(if T.getD k.toNat 0 != 0 then [v] else []) | _=>[]).length≤l.length:=fun l=>by
   induction l with
   | nil=>exact Nat.zero_le _
   | cons a r ih =>
    unfold zQ at ih ⊢
    rw [List.map_cons,List.flatMap_cons,List.length_append,List.length_cons]
    have:(if T.getD (Int.toNat (a:Int)) 0 != 0 then [V.int (a:Int)] else []).length≤1:=by split <;> simp
    dsimp only
    rw [Nat.add_comm]
    exact Nat.add_le_add ih this
  have:=this (List.range 14)
  simpa using this
 ·unfold zQ at hv
  apply bc;intro hQ;rcases List.mem_map.mp hv with ⟨m,hm,rfl⟩;refine hQ ?_;clear hQ
  rw [List.mem_range] at hm
  conv=>whnf
  refine ⟨by lia,by lia,m,.int (T.getD m 0:Nat),?_,zj (getD_some (by lia)),?_⟩
  ·rw [zV,hT];exact seqIndex_of (Int.natCast_nonneg _) (by lia)
  have e:(((T.getD m 0:Nat):Int) != 0)=(T.getD m 0 != 0):=by
   rw [Bool.eq_iff_iff,bne_iff_ne,bne_iff_ne];lia
  conv=>whnf
  rw [e]
  dsimp only at k' hacc
  rw [Int.toNat_natCast] at k' hacc
  cases hc:(T.getD m 0 != 0) with
  | true =>
   rw [hc] at k' hacc
   conv=>whnf
   exact ⟨by simp at hacc;lia,k'⟩
  | false =>
   rw [hc] at k'
   conv=>whnf
   simpa using k'
 have hth:([]:List V)++(zQ (List.range 14)).flatMap (fun v=>match v with | .int k=>(if T.getD k.toNat 0 != 0 then [v] else []) | _=>[])=zQ (oK T):=by
  rw [List.nil_append]
  unfold oK
  have:∀ l:List Nat,((zQ l).flatMap fun v=>match v with | .int k=>(if T.getD k.toNat 0 != 0 then [v] else []) | _=>[])=zQ (l.filter fun k=>T.getD k 0 != 0):=fun l=>by
   induction l with
   | nil=>rfl
   | cons a r ih =>
    unfold zQ at ih ⊢
    rw [List.map_cons,List.flatMap_cons,ih,List.filter_cons]
    dsimp only
    rw [Int.toNat_natCast]
    split <;> rfl
  exact this _
 rw [hth]
 have ix4:seqIndex? 4 (zQ D).length=some 4:=by rw [zV,hD];rfl
 have pl:∀ (a:Int) (b:Nat),b < 2 ^ 64→divisionGoesByPylong a (b:Int)=false:=fun a b hb=>vJ (by rw [Int.natAbs_natCast];exact Nat.lt_trans hb (by decide))
 conv=>whnf
 refine ⟨by decide,by decide,4,_,ix4,zj hd,?_⟩
 conv=>whnf
 refine ⟨by decide,pl _ 532 (by decide),?_⟩
 conv=>whnf
 refine ⟨by decide,?_⟩
 conv=>whnf
 refine ⟨by decide,by decide,4,_,ix4,zj hd,?_⟩
 conv=>whnf
 refine ⟨by decide,pl _ 28 (by decide),?_⟩
 conv=>whnf
 refine ⟨by decide,?_⟩
 conv=>whnf
 refine ⟨Nat.le_of_ble_eq_true rfl,?_⟩
 have hw:(4:Int) + Int.fmod (Int.fdiv (d4:Int) 532) 60=((4 + d4 / 532 % 60:Nat):Int):=by
  rw [Int.fdiv_eq_ediv_of_nonneg _ (by decide),Int.fmod_eq_emod_of_nonneg _ (by decide)];norm_cast
 have hb:Int.fmod (Int.fdiv (d4:Int) 28) 19=((d4 / 28 % 19:Nat):Int):=by
  rw [Int.fdiv_eq_ediv_of_nonneg _ (by decide),Int.fmod_eq_emod_of_nonneg _ (by decide)];norm_cast
 conv=>whnf
 rw [hw,hb]
 apply bc;intro hQ;rcases hV T hne with ⟨l,d,z,eT,hd0,hz⟩;refine hQ ?_;clear hQ
 have hl14:l.length + 1 + z.length=14:=by rw [eT] at hT;simp at hT;lia
 have hts:=zQr hT eT hd0 hz
 have hw4:4≤4 + d4 / 532 % 60:=by lia
 have hw63:4 + d4 / 532 % 60≤63:=by have:=Nat.mod_lt (d4 / 532) (show 0 < 60 by decide);lia
 have hbase:d4 / 28 % 19 < 19:=Nat.mod_lt _ (by decide)
 generalize 4 + d4 / 532 % 60=wi at hw4 hw63 ⊢
 generalize d4 / 28 % 19=ba at hbase ⊢
 have h16:∀ t∈T,t < 2 ^ wi:=fun t ht=>Nat.lt_of_lt_of_le (h10 t ht) (Nat.pow_le_pow_right (n:=2) (by decide) hw4)
 obtain ⟨c1,c2⟩:=zQn (w:=wi) (by lia) hd0 (fun x hx=>h16 x (by rw [eT];exact List.mem_append_left _ hx)) z hz
 rw [← eT] at c1 c2
 have hval:=fv wi T h16
 have hbig:valD wi T < 2 ^ 4096:=Nat.lt_of_lt_of_le hval (Nat.pow_le_pow_right (by decide) (by rw [hT];lia))
 refine ⟨T,wi,rfl,by lia,fun t ht=>Nat.lt_of_lt_of_le (h10 t ht) (by decide),by lia,?_⟩
 conv=>whnf
 refine ⟨valD wi T,wi,rfl,hbig,by lia,by lia,by rw [c1];lia,?_⟩
 rw [c1,c2]
 conv=>whnf
 have hlast:(zQ (oK T)).length=((List.range l.length).filter fun k=>T.getD k 0 != 0).length + 1:=by rw [zV,hts,List.length_append];rfl
 refine ⟨by decide,by decide,((List.range l.length).filter fun k=>T.getD k 0 != 0).length,.int (l.length:Nat),?_,?_,?_⟩
 ·rw [hlast];exact PyProof.Rows.seqIndex?_neg_one (Nat.succ_pos _)
 ·rw [hts]
  exact zj (by rw [List.getElem?_append_right (Nat.le_refl _),Nat.sub_self];rfl)
 conv=>whnf
 refine ⟨by decide,by rw [zV,sizeLine_eq];lia,?_⟩
 have hpick:lz (zQ T) none (some ((l.length:Int) + 1)) none=zQ (l++[d]):=by
  have:=oQ (zQ T) none (some (l.length + 1))
  rw [show Option.map (fun (n:Nat)=>(n:Int)) (none:Option Nat)=none from rfl,show Option.map (fun (n:Nat)=>(n:Int)) (some (l.length + 1))=some ((l.length:Int) + 1) from rfl] at this
  rw [this]
  unfold cut
  rw [Option.getD_none,Option.getD_some,List.drop_zero,eT]
  unfold zQ
  rw [← List.map_take,List.take_append_of_le_length (by simp),List.take_of_length_le (by simp)]
 rw [hpick]
 refine zK7 (xW _) ?_
 unfold zZ9
 dsimp only
 refine no_implicit_lambda% (yW9 ?_)
 refine no_implicit_lambda% (yXw ?_)
 rw [xZs (st0 [("there",.lst (zQ (oK T))),("base",.int ba)])]
 rotate_left
 ·kernel_rfl
 exact segY (oK T) ba hbase (by unfold oK;exact (List.pairwise_lt_range).filter _) (fun q hq=>by unfold oK at hq;exact List.mem_range.mp (List.mem_filter.mp hq).1) (by rw [hts];simp) K k
noncomputable def jj {α:Type} (x:α):List α→List (List α)
 | []=>[[x]]
 | y :: r=>(x :: y :: r) :: (jj x r).map (y :: ·)
noncomputable def zK8 {α:Type}:List α→List (List α)
 | []=>[[]]
 | x :: r=>(zK8 r).flatMap (jj x)
theorem zK9 {α:Type} (x:α):∀ (s t:List α),s++x :: t∈jj x (s++t)
 | [],[]=>by simp [jj]
 | [],y :: t=>by simp [jj]
 | a :: s,t=>by
  show a :: (s++x :: t)∈jj x (a :: (s++t))
  unfold jj
  exact List.mem_cons_of_mem _ (List.mem_map.mpr ⟨_,zK9 x s t,rfl⟩)
theorem zZp {α:Type}:∀ (r l:List α),l.Perm r→l∈zK8 r
 | [],l,h=>by have:=h.eq_nil;subst this;simp [zK8]
 | x :: r,l,h=>by
  apply bc;intro hQ;rcases List.append_of_mem (h.symm.subset List.mem_cons_self) with ⟨s,t,rfl⟩;refine hQ ?_;clear hQ
  have h2:(s++t).Perm r:=by
   have:=(List.perm_middle (a:=x) (l₁:=s) (l₂:=t)).symm.trans h
   exact this.cons_inv
  unfold zK8
  exact List.mem_flatMap.mpr ⟨_,zZp r _ h2,zK9 x s t⟩
noncomputable abbrev W:=List Bool
noncomputable def yz:Nat→List W
 | 0=>[[]]
 | n + 1=>(yz n).flatMap fun w=>[w++[false],w++[true]]
noncomputable def allW:List W:=yz 1++yz 2++yz 3
noncomputable def xK:Nat→List (List Nat)
 | 0=>[[]]
 | n + 1=>(xK n).flatMap fun r=>((List.range 5).filter fun k=>r.all (· < k)).map fun k=>r++[k]
noncomputable def xY (b:List Bool) (r:List Nat):W:=r.map fun k=>b.getD k false
noncomputable def mJ (b:List Bool):List W:=(xK 1).map (xY b)++(xK 2).map (xY b)++(xK 3).map (xY b)
noncomputable def cnt (b:List Bool) (w:W):Nat:=(mJ b).count w
noncomputable def lX (ts:List W) (f:W):List W:=(ts.flatMap fun t=>(List.range (t.length + 1)).map fun k=>t.take k++f++t.drop k)++ts.flatMap fun t=>(t.filter fun x=>[x] == f).map fun _=>t
noncomputable def yK (f0:W) (r:List W):List W:=r.foldl lX [f0]
noncomputable def mq (b:List Bool) (f0:W) (r:List W):Nat:=r.foldl (fun a f=>a * cnt b f) (cnt b f0)
noncomputable def upTo (w:W):List W:=allW.take (allW.idxOf w + 1)
noncomputable def qX (w:W):List (List W):=(zK8 (facs w)).filter fun l=>decide (l.Pairwise fun a b=>b.length≤a.length)
noncomputable def zQs:List (List Bool):=(yz 5)
noncomputable def zVa (w:W) (fs:List W):Bool:=match fs with
 | []=>false
 | f0 :: r=>decide (r.length≤2) && (f0 :: r).all (fun f=>(upTo w).contains f) && (List.range 3).all (fun i=>decide ((yK f0 (r.take i)).length≤100) && (yK f0 (r.take i)).all fun t=>t != [] && decide (t.length≤3)) && (yK f0 r).all (fun t=>(upTo w).contains t) && (yK f0 r).contains w
noncomputable def zVb (b:List Bool) (w:W) (fs:List W):Bool:=match fs with
 | []=>false
 | f0 :: r=>mq b f0 r == cnt b w * (yK f0 r).count w + (((yK f0 r).filter (· != w)).map (cnt b)).sum && (!(r == [] && f0 == w) || decide ((cnt b w:Int)=jQ w b))
theorem nq:(allW.all fun w=>(qX w).all fun fs=>zVa w fs)=true:=by decide +kernel
noncomputable def cntR:List Bool→W→Nat
 | _,[]=>1
 | [],_ :: _=>0
 | x :: b,y :: w=>cntR b (y :: w) + (if x == y then cntR b w else 0)
theorem yYa:(zQs.all fun b=>allW.all fun w=>cnt b w == cntR b w)=true:=by decide +kernel
noncomputable def okG (c:W→Nat) (b:List Bool) (w:W) (fs:List W):Bool:=match fs with
 | []=>false
 | f0 :: r=>r.foldl (fun a f=>a * c f) (c f0) == c w * (yK f0 r).count w + (((yK f0 r).filter (· != w)).map c).sum && (!(r == [] && f0 == w) || decide ((c w:Int)=jQ w b))
theorem yXx:(zQs.all fun b=>allW.all fun w=>(qX w).all fun fs=>okG (cntR b) b w fs)=true:=by decide +kernel
theorem bV {c c':W→Nat}:∀ (r:List W) (a:Nat),(∀ f∈r,c f=c' f)→r.foldl (fun a f=>a * c f) a=r.foldl (fun a f=>a * c' f) a
 | [],_,_=>rfl
 | f :: r,a,h=>by rw [List.foldl_cons,List.foldl_cons,h f List.mem_cons_self];exact bV r _ fun g hg=>h g (List.mem_cons_of_mem _ hg)
theorem hW:(zQs.all fun b=>allW.all fun w=>(qX w).all fun fs=>zVb b w fs)=true :=
 List.all_eq_true.mpr fun b hb=>List.all_eq_true.mpr fun w hw=>List.all_eq_true.mpr fun fs hfs=>by
  have g:=List.all_eq_true.mp (List.all_eq_true.mp (List.all_eq_true.mp yXx b hb) w hw) fs hfs
  have okw:=List.all_eq_true.mp (List.all_eq_true.mp nq w hw) fs hfs
  have e:∀ t∈allW,cnt b t=cntR b t:=fun t ht=>beq_iff_eq.mp (List.all_eq_true.mp (List.all_eq_true.mp yYa b hb) t ht)
  cases fs with
  | nil=>exact g
  | cons f0 r =>
   have okw:=Bool.and_eq_true_iff.mp (Bool.and_eq_true_iff.mp okw).1
   have ow2:=List.all_eq_true.mp (Bool.and_eq_true_iff.mp (Bool.and_eq_true_iff.mp okw.1).1).2
   have up:∀ t,(upTo w).contains t=true→cnt b t=cntR b t:=fun t h=>e t (List.mem_of_mem_take (List.contains_iff_mem.mp h))
   have h1:=bV r (cnt b f0) fun f hf=>up f (ow2 f (List.mem_cons_of_mem _ hf))
   have h2:((yK f0 r).filter (· != w)).map (cnt b)=((yK f0 r).filter (· != w)).map (cntR b):=List.map_congr_left fun t ht=>up t (List.all_eq_true.mp okw.2 t (List.mem_filter.mp ht).1)
   show (r.foldl (fun a f=>a * cnt b f) (cnt b f0) == cnt b w * (yK f0 r).count w + (((yK f0 r).filter (· != w)).map (cnt b)).sum && (!(r == [] && f0 == w) || decide ((cnt b w:Int)=jQ w b)))=true
   rw [h1,h2,up f0 (ow2 f0 List.mem_cons_self),e w hw]
   exact g
theorem bW:(zQs.all fun b=>allW.all fun w=>decide (cnt b w≤10))=true:=by decide +kernel
theorem zYz:(zQs.all fun b=>allW.any fun w=>cnt b w != 0)=true:=by decide +kernel
theorem five {α:Type} {l:List α} (h:l.length=5):∃ a b c d e,l=[a,b,c,d,e]:=by
 obtain ⟨a,l,rfl⟩:=List.exists_cons_of_length_eq_add_one h
 obtain ⟨b,l,rfl⟩:=List.exists_cons_of_length_eq_add_one (Nat.succ.inj h)
 obtain ⟨c,l,rfl⟩:=List.exists_cons_of_length_eq_add_one (Nat.succ.inj (Nat.succ.inj h))
 obtain ⟨d,l,rfl⟩:=List.exists_cons_of_length_eq_add_one (Nat.succ.inj (Nat.succ.inj (Nat.succ.inj h)))
 obtain ⟨e,l,rfl⟩:=List.exists_cons_of_length_eq_add_one (Nat.succ.inj (Nat.succ.inj (Nat.succ.inj (Nat.succ.inj h))))
 rw [List.eq_nil_of_length_eq_zero (Nat.succ.inj (Nat.succ.inj (Nat.succ.inj (Nat.succ.inj (Nat.succ.inj h)))))]
 exact ⟨a,b,c,d,e,rfl⟩
theorem rK (b:List Bool) (hb:b.length=5):b∈zQs:=by
 obtain ⟨a,b,c,d,e,rfl⟩:=five hb
 exact (by decide +kernel:∀ a b c d e:Bool,[a,b,c,d,e]∈zQs) a b c d e
theorem xZw {p q:Nat} {w:List Bool} (h:w≠[]):wd p q w≠"":=by
 intro e
 have:=congrArg Str.length e
 rw [yq] at this
 exact h (List.eq_nil_of_length_eq_zero this)
theorem segT (T D:List Nat) (d4:Nat) (hd:D[4]?=some d4) (hD:D.length=6) (hT:T.length=14) (h10:∀ t∈T,t < 16) (hne:∃ t∈T,t≠0)
  (one:Int) (h1:one=1∨one=-1) (left wide:Nat) (hl:left < 10 ^ 7) (hw:wide < 10 ^ 7) (p q:Nat) (ts:List W) (hts:ts.length≤1000) (hne2:∀ t∈ts,t≠[]∧t.length≤3) (hsh1:zx (.str "")=true) (hsh2:zx (.lst (wdV p q ts))=true) (K:Kp) (k:K (.bool true)) :
  xs cxL (fdSc 28) ["grown"] 77 ((fdB 28).drop 23) (st0 [("draws",.lst (zQ D)),("one",.int one),("left",.int left),("terms",.lst (wdV p q ts)),("wide",.int wide),("table",.lst (zQ T))]) (fun _=>K .none) K (fun _=>False):=by
 have e0:∀ l:List W,(∀ t∈l,t≠[])→(toPL (wdV p q l)).countP (fun y=>y.eqv (toP (.str "")))=0:=fun l h=>by
  rw [List.countP_eq_zero]
  intro y hy hq
  induction l with
  | nil=>unfold wdV toPL at hy;contradiction
  | cons t r ih =>
   unfold wdV at hy ih
   rw [List.map_cons] at hy
   unfold toPL at hy
   rcases List.mem_cons.mp hy with rfl | hy
   ·have:(wd p q t == "")=true:=hq
    exact xZw (h t List.mem_cons_self) (beq_iff_eq.mp this)
   ·exact ih (fun x hx=>h x (List.mem_cons_of_mem _ hx)) hy
 have hcnt:=e0 ts fun t ht=>(hne2 t ht).1
 conv=>whnf
 refine ⟨_,_,⟨rfl,rfl⟩,?_,?_⟩
 ·unfold jW
  conv=>whnf
  refine ⟨by rcases h1 with rfl | rfl <;> exact IntMulOk.of_left (Nat.le_of_ble_eq_true rfl),?_⟩
  conv=>whnf
  refine ⟨hsh1,hsh2,?_⟩
  rw [hcnt]
  conv=>whnf
  refine ⟨IntMulOk.of_left (Nat.le_of_ble_eq_true rfl),one * (left:Int),?_⟩
  show [V.int (one * (left:Int)),V.int (((0:Nat):Int) * (wide:Int))]=[V.int _,V.int 0]
  rw [show ((0:Nat):Int)=0 from rfl,Int.zero_mul]
 refine no_implicit_lambda% (uJ (ρ':=st0 [("draws",.lst (zQ D)),("table",.lst (zQ T)),("refused",.str "nought")]) (by rfl) ?_)
 exact segZ T D d4 hd hD hT h10 hne K k
theorem ww {α:Type} {body:V→List V→(List V→Prop)→Prop} (i:α→V) (f:α→List V):∀ (items:List α) (acc:List V) (K:List V→Prop),acc.length + (items.flatMap f).length≤sizeLine→(∀ x∈items,∀ (acc:List V) (K':List V→Prop),acc.length + (f x).length≤sizeLine→K' (acc++f x)→body (i x) acc K')→K (acc++items.flatMap f)→vX body (items.map i) acc K
 | [],acc,K,_,_,k=>by unfold vX;simpa using k
 | x :: r,acc,K,hl,step,k=>by
  rw [List.map_cons]
  unfold vX
  rw [List.flatMap_cons,List.length_append] at hl
  refine step x List.mem_cons_self acc _ (by lia) (ww i f r _ K (by rw [List.length_append];lia) (fun y hy=>step y (List.mem_cons_of_mem _ hy)) ?_)
  simpa using k
theorem zy {α:Type} {body:V→List V→(List V→Prop)→Prop} (i:α→V) (f:α→V):∀ (items:List α) (acc:List V) (K:List V→Prop),acc.length + items.length≤sizeLine→(∀ x∈items,∀ (acc:List V) (K':List V→Prop),acc.length≤sizeLine→K' (acc++[f x])→body (i x) acc K')→K (acc++items.map f)→vX body (items.map i) acc K
 | [],acc,K,_,_,k=>by unfold vX;simpa using k
 | x :: r,acc,K,hl,step,k=>by
  rw [List.map_cons]
  unfold vX
  rw [List.length_cons] at hl
  refine step x List.mem_cons_self acc _ (by lia) (zy i f r _ K (by rw [List.length_append,List.length_singleton];lia) (fun y hy=>step y (List.mem_cons_of_mem _ hy)) ?_)
  simpa using k
theorem yQ4 (sep:Str) (l:List Str) (h1:sep.length≤10) (h2:l.length≤100) (h3:∀ t∈l,t.length≤1000):JoinOk sep l=true:=by
 unfold JoinOk
 rw [← Array.foldl_toList,List.toList_toArray]
 have:∀ (l:List Str) (n:Nat),(∀ t∈l,t.length≤1000)→l.foldl (· + ·.length + sep.length) n≤n + l.length * 1010:=fun l=>by
  induction l with
  | nil=>intro n _;exact Nat.le_add_right _ _
  | cons x r ih =>
   intro n h
   have h1':=h x List.mem_cons_self
   have h2':=ih (n + x.length + sep.length) fun y hy=>h y (List.mem_cons_of_mem _ hy)
   rw [List.foldl_cons,List.length_cons]
   refine Nat.le_trans h2' ?_
   lia
 have:=this l 0 h3
 unfold tooLong
 rw [Bool.not_eq_true',decide_eq_false_iff_not]
 refine Nat.not_lt.mpr (Nat.le_trans this ?_)
 refine Nat.le_trans (m:=101000) (by lia) (Nat.le_of_ble_eq_true rfl)
theorem yXy {P:Nat} {x:Int} (h:P < 2 ^ 64):IntMulOk (P:Int) x:=.of_left (tW h)
theorem seqN {k n:Nat} (h:k < n):seqIndex? (k:Int) n=some k:=by rw [seqIndex_of (Int.natCast_nonneg _) (by lia)];rfl
section
variable {p q:Nat}
theorem zY0 {l:List Nat} (h:∀ c∈l,c < 0x110000):PyData.canLay0 (.str (tx l))=true:=by
 show PyData.strOk (tx l)=true
 unfold PyData.strOk tx
 rw [Array.all_eq_true]
 intro i hi
 rw [decide_eq_true_eq]
 exact h _ (by rw [List.getElem_toArray];exact List.getElem_mem _)
theorem qw (hp:p < q) (hq:q≤122) (w:W):tQ (.str (wd p q w))=true:=zY0 fun c hc=>by
 apply bc;intro hQ;rcases List.mem_map.mp hc with ⟨b,_,rfl⟩;refine hQ ?_;clear hQ
 unfold chB;split <;> lia
theorem uY (hp:p < q) (hq:q≤122) (l:List W):(wdV p q l).all tQ=true:=by
 unfold wdV
 rw [List.all_map,List.all_eq_true]
 exact fun w _=>qw hp hq w
theorem oV:∀ l:List W,toPL (wdV p q l)=l.map fun w=>PyData.str (wd p q w)
 | []=>by unfold wdV toPL;rfl
 | w :: l=>by
  have ih:=oV l
  unfold wdV at ih ⊢
  rw [List.map_cons,List.map_cons]
  unfold toPL
  rw [ih];rfl
theorem yXz (a b:Str):(PyData.str a).eqv (PyData.str b)=(a == b):=by unfold PyData.eqv;rfl
theorem zVc (h:p≠q) (a b:W):(PyData.str (wd p q a)).eqv (PyData.str (wd p q b))=(a == b):=by rw [yXz,zJ5 h]
theorem zZq (h:p≠q) (l:List W) (w:W):(toPL (wdV p q l)).countP (fun y=>y.eqv (toP (.str (wd p q w))))=l.count w:=by
 rw [oV,List.countP_map]
 unfold List.count
 exact List.countP_congr fun x _=>by
  show (PyData.str (wd p q x)).eqv (toP (.str (wd p q w)))=true ↔ _
  unfold toP
  rw [zVc h]
theorem fy (h:p≠q) (l:List W) (w:W) (hm:w∈l):(toPL (wdV p q l)).findIdx? (fun y=>y.eqv (toP (.str (wd p q w))))=some (l.idxOf w):=by
 rw [oV,List.findIdx?_map]
 have e:(fun y=>PyData.eqv y (toP (.str (wd p q w)))) ∘ (fun w=>PyData.str (wd p q w))=fun x=>x == w:=funext fun x=>by
  show (PyData.str (wd p q x)).eqv (toP (.str (wd p q w)))=_
  unfold toP
  rw [zVc h]
 rw [e]
 induction l with
 | nil=>contradiction
 | cons x r ih =>
  rw [List.findIdx?_cons,List.idxOf_cons]
  by_cases hx:x=w
  ·subst hx;simp
  ·rw [beq_eq_false_iff_ne.mpr hx]
   have:=ih ((List.mem_cons.mp hm).resolve_left fun e=>hx e.symm)
   rw [this];rfl
theorem zVd (h:p≠q):∀ a b:List W,PyData.eqvAll (toPL (wdV p q a)) (toPL (wdV p q b))=(a == b)
 | [],[]=>by unfold wdV toPL PyData.eqvAll;rfl
 | [],_ :: _=>by unfold wdV toPL PyData.eqvAll;rfl
 | _ :: _,[]=>by unfold wdV toPL PyData.eqvAll;rfl
 | x :: a,y :: b=>by
  have ih:=zVd h a b
  rw [oV,oV] at ih ⊢
  rw [List.map_cons,List.map_cons]
  unfold PyData.eqvAll
  rw [ih,zVc h];rfl
theorem zY1 (h:p≠q) (a b:List W):(toP (.lst (wdV p q a))).eqv (toP (.lst (wdV p q b)))=(a == b):=by
 unfold toP PyData.eqv;exact zVd h a b
theorem rV {α:Type} (g:α→List W):∀ l:List α,l.flatMap (fun x=>wdV p q (g x))=wdV p q (l.flatMap g)
 | []=>rfl
 | x :: r=>by
  have ih:=rV g r
  unfold wdV at ih ⊢
  rw [List.flatMap_cons,ih,List.flatMap_cons,List.map_append]
theorem vQ (l:List W):(wdV p q l).length=l.length:=by unfold wdV;rw [List.length_map]
theorem zQt (a b:List W):wdV p q a++wdV p q b=wdV p q (a++b):=by unfold wdV;rw [List.map_append]
theorem bY (a b:List Nat):zQ a++zQ b=zQ (a++b):=by unfold zQ;rw [List.map_append]
theorem jk (b:List Bool) {N:List W} {w:W} (hm:w∈N):(zQ (N.map (cnt b)))[N.idxOf w]?=some (.int (cnt b w:Nat))∧N.idxOf w < N.length:=by
 have hlt:=List.idxOf_lt_length_of_mem hm
 refine ⟨zj ?_,hlt⟩
 rw [List.getElem?_map,List.getElem?_eq_getElem hlt,List.getElem_idxOf hlt];rfl
end
noncomputable def stS (l:List (Str×Slt)):SRho:=(("script":Str) :: oJ).map fun x=>(x,(l.lookup x).getD .un)
noncomputable def SWx (D:List Nat) (b:List Bool) (p q wide left:Nat) (N Wd:List W) (terms one:Slt) (extra:List (Str×Slt)):SRho:=stS (extra++([("draws",.val (.lst (zQ D))),("pair",.val (.lst [.str (wd p q [false]),.str (wd p q [true])])),("letters",.val (.lst (letV p q b))),("lying",.val (.lst (wdV p q (mJ b)))),("wide",.val (.int wide)),("left",.val (.int left)),
 ("names",.val (.lst (wdV p q N))),("words",.val (.lst (wdV p q Wd))),("table",.val (.lst (zQ (N.map (cnt b))))),("terms",terms),("one",one)]:List (Str×Slt)))
noncomputable abbrev SW (D:List Nat) (b:List Bool) (p q wide left:Nat) (N Wd:List W) (terms one:Slt):SRho:=SWx D b p q wide left N Wd terms one []
noncomputable def zY2:List Stmt:=match (fdB 28).drop 22 with | .For _ _ b _ _ :: _=>b | _=>[]
noncomputable def jv:List Stmt:=yZr (zY2.getD 1 default)
noncomputable def facB:List Stmt:=match jv with | _ :: _ :: _ :: _ :: .For _ _ b _ _ :: _=>b | _=>[]
noncomputable def xZx (st:Stmt):Expr:=match vs st with
 | .loop t _ _ _ _=>t
 | _=>default
noncomputable def tgW:Expr:=xZx (zY2.getD 1 default)
noncomputable def fgW:List Str:=fgL tgW
noncomputable def okTO (p q:Nat) (terms one:Slt):Prop:=∃ (ts:List W) (o:Int),terms=.val (.lst (wdV p q ts))∧one=.val (.int o)∧(o=1∨o=-1)∧ts.length≤1000∧∀ t∈ts,t≠[]∧t.length≤3
theorem pyl (a:Int) (b:Nat) (hb:b < 2 ^ 64):divisionGoesByPylong a (b:Int)=false:=vJ (by rw [Int.natAbs_natCast];exact Nat.lt_trans hb (by decide))
theorem yYb {v by':Nat} (h0:0 < by') (h1:by' < 2 ^ 60) (h2:v < 16 * by'):Dok v by':=by
 have hb:=zQk by'
 have hn:0 < Builtin.Int.intBits (by':Int):=by
  rcases Nat.eq_zero_or_pos (Builtin.Int.intBits (by':Int)) with h | h
  ·rw [h] at hb;lia
  ·exact h
 have hv:v < 2 ^ (Builtin.Int.intBits (by':Int) + 4):=by rw [Nat.pow_add];lia
 have hbv:=tW hv
 refine ⟨Nat.lt_of_lt_of_le (m:=2 ^ 64) (by lia) (Nat.pow_le_pow_right (by decide) (by decide)),h0,by lia,?_⟩
 unfold cntD
 refine Nat.div_le_of_le_mul ?_
 lia
theorem yX0 {a:Int} {n0 by':Nat} (t:Int) (ht:t=1∨t=-1) (ha:a=n0∨a=-n0) (h0:0 < by') (h1:by' < 2 ^ 60) (h2:n0 < 16 * by') :
  Dok (if 0≤(if 0 < t * (by':Int) then a else -a) then (if 0 < t * (by':Int) then a else -a).toNat else (-(if 0 < t * (by':Int) then a else -a) - 1).toNat) (t * (by':Int)).natAbs:=by
 have e:(t * (by':Int)).natAbs=by':=by rcases ht with rfl | rfl <;> lia
 rw [e]
 refine yYb h0 h1 ?_
 have hp:0 < 16 * by':=Nat.mul_pos (by decide) h0
 have P:∀ z:Int,z=(n0:Int)∨z=-(n0:Int)→(if 0≤z then z.toNat else (-z - 1).toNat) < 16 * by':=by
  rintro z (rfl | rfl)
  ·rw [if_pos (Int.natCast_nonneg _),Int.toNat_natCast];exact h2
  ·split
   ·rw [Int.toNat_neg_natCast];exact hp
   ·rw [Int.neg_neg];exact Nat.lt_of_le_of_lt (Nat.le_trans (Nat.le_of_eq (Int.toNat_sub n0 1)) (Nat.sub_le _ _)) h2
 refine P _ ?_
 split
 ·exact ha
 ·exact ha.elim (fun e=>.inr (congrArg Neg.neg e)) fun e=>.inl (by rw [e,Int.neg_neg])
theorem zVe (c m wide left:Nat) (hm:0 < m) (hw:0 < wide) (hl:left < wide) (t:Int) (ht:t=1∨t=-1) :
  (t * (((c * m:Nat):Int) * (wide:Int) + (left:Int))).fdiv (t * (((m:Nat):Int) * (wide:Int)))=c∧(t * (((c * m:Nat):Int) * (wide:Int) + (left:Int))).fmod (t * (((m:Nat):Int) * (wide:Int)))=t * left:=by
 have hb:(wide:Int)≤(m:Int) * wide:=by
  have:wide≤m * wide:=Nat.le_mul_of_pos_left _ hm
  exact_mod_cast this
 have e:((c * m:Nat):Int) * (wide:Int)=(m:Int) * wide * c:=by push_cast;rw [Int.mul_comm (c:Int),Int.mul_assoc,Int.mul_comm (c:Int),← Int.mul_assoc]
 rw [e]
 generalize (m:Int) * wide=z at hb ⊢
 rcases ht with rfl | rfl
 ·refine (Int.fdiv_fmod_unique (by lia)).mpr ⟨?_,by lia,by lia⟩
  rw [Int.one_mul,Int.one_mul,Int.one_mul];lia
 ·refine (Int.fdiv_fmod_unique' (by lia)).mpr ⟨?_,by lia,by lia⟩
  rw [Int.neg_mul,Int.neg_mul,Int.one_mul,Int.one_mul,Int.neg_mul];lia
theorem zVf (c m wide:Nat) (hm:0 < m) (hw:0 < wide) (s t:Int) (hs:s=1∨s=-1) (ht:t=1∨t=-1) (hst:s≠t) :
  (s * (((c * m:Nat):Int) * (wide:Int) + ((0:Nat):Int))).fdiv (t * (((m:Nat):Int) * (wide:Int)))=-(c:Int)∧(s * (((c * m:Nat):Int) * (wide:Int) + ((0:Nat):Int))).fmod (t * (((m:Nat):Int) * (wide:Int)))=0:=by
 have hb:0 < (m:Int) * wide:=by
  have:0 < m * wide:=Nat.mul_pos hm hw
  exact_mod_cast this
 have e:((c * m:Nat):Int) * (wide:Int)=(m:Int) * wide * c:=by push_cast;rw [Int.mul_comm (c:Int),Int.mul_assoc,Int.mul_comm (c:Int),← Int.mul_assoc]
 rw [e]
 generalize (m:Int) * wide=z at hb ⊢
 have est:s=-t:=by rcases hs with rfl | rfl <;> rcases ht with rfl | rfl <;> first | rfl | exact absurd rfl hst
 subst est
 have e2:-t * (z * c + ((0:Nat):Int))=0 + t * z * -(c:Int):=by
  rw [Int.neg_mul,Int.mul_neg,Int.mul_assoc]
  simp
 rcases ht with rfl | rfl
 ·exact (Int.fdiv_fmod_unique (by lia)).mpr ⟨e2.symm,by lia,by lia⟩
 ·exact (Int.fdiv_fmod_unique' (by lia)).mpr ⟨e2.symm,by lia,by lia⟩
theorem zVg (c m wide left:Nat) (hm:0 < m) (hw:0 < wide) (hl:left < wide) (h0:left≠0) (s t:Int) (hs:s=1∨s=-1) (ht:t=1∨t=-1) (hst:s≠t) :
  (s * (((c * m:Nat):Int) * (wide:Int) + (left:Int))).fdiv (t * (((m:Nat):Int) * (wide:Int)))=Builtin.bitNot c∧(s * (((c * m:Nat):Int) * (wide:Int) + (left:Int))).fmod (t * (((m:Nat):Int) * (wide:Int)))=t * (((m:Nat):Int) * (wide:Int) - left):=by
 have hb:(wide:Int)≤(m:Int) * wide:=by
  have:wide≤m * wide:=Nat.le_mul_of_pos_left _ hm
  exact_mod_cast this
 have e:((c * m:Nat):Int) * (wide:Int)=(m:Int) * wide * c:=by push_cast;rw [Int.mul_comm (c:Int),Int.mul_assoc,Int.mul_comm (c:Int),← Int.mul_assoc]
 rw [e]
 generalize (m:Int) * wide=z at hb ⊢
 have est:s=-t:=by rcases hs with rfl | rfl <;> rcases ht with rfl | rfl <;> first | rfl | exact absurd rfl hst
 subst est
 have e2:-t * (z * c + (left:Int))=t * (z - left) + t * z * Builtin.bitNot c:=by
  unfold Builtin.bitNot
  rw [Int.neg_mul,Int.mul_assoc,← Int.mul_add,← Int.mul_neg]
  congr 1
  rw [Int.mul_sub,Int.mul_neg]
  lia
 rcases ht with rfl | rfl
 ·exact (Int.fdiv_fmod_unique (by lia)).mpr ⟨e2.symm,by lia,by lia⟩
 ·exact (Int.fdiv_fmod_unique' (by lia)).mpr ⟨e2.symm,by lia,by lia⟩
theorem yYc {a b:Int} {K:Kp} (h:K (.int (a - b))):zWj .Sub (.int a) (.int b) K:=h
theorem gQ:(allW.all fun w=>decide (w.length≤3) && decide (w≠[]))=true:=by decide +kernel
noncomputable def zZr (p q:Nat) (f:W) (v:V):List V:=match v with | .str s=>(sQ s).flatMap (fun x=>match x with | .str y=>if y == wd p q f then [v] else [] | _=>[]) | _=>[]
theorem zVh {p q:Nat} (h:p≠q) (f t:W):zZr p q f (.str (wd p q t))=wdV p q ((t.filter fun x=>[x] == f).map fun _=>t):=by
 have e:sQ (wd p q t)=t.map fun x=>V.str (wd p q [x]):=by
  unfold wd;rw [qZ,List.map_map];rfl
 unfold zZr
 dsimp only
 rw [e]
 have:∀ l:W,(l.map fun x=>V.str (wd p q [x])).flatMap (fun x=>match x with | .str y=>if y == wd p q f then [V.str (wd p q t)] else [] | _=>[])=wdV p q ((l.filter fun x=>[x] == f).map fun _=>t):=fun l=>by
  induction l with
  | nil=>rfl
  | cons x r ih =>
   rw [List.map_cons,List.flatMap_cons,ih,List.filter_cons]
   dsimp only
   rw [zJ5 h]
   cases ([x] == f) <;> rfl
 exact this t
theorem zVi {p q:Nat} (g:W→List W) (F:V→List V) (hF:∀ t,F (.str (wd p q t))=wdV p q (g t)):∀ ts:List W,(wdV p q ts).flatMap F=wdV p q (ts.flatMap g)
 | []=>rfl
 | t :: r=>by
  have ih:=zVi g F hF r
  unfold wdV at ih ⊢
  rw [List.map_cons,List.flatMap_cons,ih,List.flatMap_cons,List.map_append,hF]
  rfl
theorem uq {α β:Type} (g:α→List β) (n:Nat):∀ l:List α,(∀ x∈l,(g x).length≤n)→(l.flatMap g).length≤l.length * n
 | [],_=>by simp
 | x :: r,h=>by
  rw [List.flatMap_cons,List.length_append,List.length_cons,Nat.succ_mul]
  have:=h x List.mem_cons_self
  have:=uq g n r fun y hy=>h y (List.mem_cons_of_mem _ hy)
  lia
theorem yX1 (D:List Nat) (b:List Bool) (hb:b.length=5) (p q:Nat) (hpq:p < q) (hq:q≤122) (wide left:Nat)
  (N Wd:List W) (w f:W) (hf:f∈N) (hNl:N.length≤15) (fs ts:List W) (ht:ts.length≤100) (ht3:∀ t∈ts,t.length≤3) (hf3:f.length≤3) (c P:Nat) (hP:P≤10000) (kn Kb:SRho→Prop) (K:Kp)
  (hk:∀ ov,kn (SWx D b p q wide left N Wd (.val (.lst (wdV p q (lX ts f)))) .un [("word",.val (.str (wd p q w))),("factors",.val (.lst (wdV p q fs))),("count",.val (.int c)),("product",.val (.int ((P * cnt b f:Nat):Int))),("factor",.val (.str (wd p q f))),("over",ov)])) :
  xs cxL (fdSc 28) ["grown"] 70 facB (SWx D b p q wide left N Wd (.val (.lst (wdV p q ts))) .un [("word",.val (.str (wd p q w))),("factors",.val (.lst (wdV p q fs))),("count",.val (.int c)),("product",.val (.int P)),("factor",.val (.str (wd p q f)))]) kn K Kb:=by
 have hne:=Nat.ne_of_lt hpq
 have hov:=zVi (p:=p) (q:=q) (fun t=>(t.filter fun x=>[x] == f).map fun _=>t) (zZr p q f) (zVh hne f) ts
 have hovl:(ts.flatMap fun t=>(t.filter fun x=>[x] == f).map fun _=>t).length≤300:=Nat.le_trans (uq _ 3 ts fun t h=>by
  rw [List.length_map];exact Nat.le_trans (List.length_filter_le _ _) (ht3 t h)) (by lia)
 conv=>whnf
 refine no_implicit_lambda% (qQ (zZr p q f) _ _ _ (by rw [hov,vQ,sizeLine_eq];show 0 + _≤_;lia) (fun v hv acc K' hacc k'=>?_) ?_)
 ·unfold wdV at hv
  apply bc;intro hQ;rcases List.mem_map.mp hv with ⟨t,ht,rfl⟩;refine hQ ?_;clear hQ
  have htl:=ht3 t ht
  conv=>whnf
  refine ⟨by rw [yq,sizeLine_eq];lia,?_⟩
  refine no_implicit_lambda% (qQ (fun x=>match x with | .str y=>if y == wd p q f then [V.str (wd p q t)] else [] | _=>[]) _ _ _ ?_ (fun x hx acc2 K2 hacc2 k2=>?_) ?_)
  ·exact hacc
  ·have e:sQ (wd p q t)=t.map fun x=>V.str (wd p q [x]):=by
    unfold wd;rw [qZ,List.map_map];rfl
   rw [e] at hx
   apply bc;intro hQ;rcases List.mem_map.mp hx with ⟨y,hy,rfl⟩;refine hQ ?_;clear hQ
   dsimp only at k2 hacc2
   conv=>whnf
   rw [Bool.false_bne]
   cases hc:(wd p q [y] == wd p q f) with
   | true =>
    rw [hc] at k2 hacc2
    conv=>whnf
    refine ⟨?_,k2⟩
    simp at hacc2;lia
   | false =>
    rw [hc] at k2
    conv=>whnf
    simpa using k2
  ·exact k'
 rw [List.nil_append,hov]
 have hts:lX ts f=(ts.flatMap fun t=>(List.range (t.length + 1)).map fun k=>t.take k++f++t.drop k)++ts.flatMap fun t=>(t.filter fun x=>[x] == f).map fun _=>t:=rfl
 generalize (ts.flatMap fun t=>(t.filter fun x=>[x] == f).map fun _=>t)=ov at *
 have hinl:(ts.flatMap fun t=>(List.range (t.length + 1)).map fun k=>t.take k++f++t.drop k).length≤400:=Nat.le_trans (uq _ 4 ts fun t h=>by
  rw [List.length_map,List.length_range];have:=ht3 t h;lia) (by lia)
 conv=>whnf
 refine ww (fun t=>V.str (wd p q t)) (fun t=>wdV p q ((List.range (t.length + 1)).map fun k=>t.take k++f++t.drop k)) ts _ _ (by rw [rV,vQ,List.length_nil,Nat.zero_add];exact Nat.le_trans hinl (by decide)) (fun t htm acc K' hacc k'=>?_) ?_
 ·have htl:=ht3 t htm
  conv=>whnf
  refine ⟨by rw [yq];lia,?_⟩
  conv=>whnf
  refine ⟨by rw [yq];lia,by rw [yq];lia,?_⟩
  rw [yq,show ((t.length:Int) + 1)=((t.length + 1:Nat):Int) from rfl,vw]
  refine no_implicit_lambda% (zy (fun (i:Nat)=>V.int i) (fun k=>V.str (wd p q (t.take k++f++t.drop k))) _ _ _ (by rw [vQ,List.length_map] at hacc;exact hacc) (fun j hj acc2 K2 hacc2 k2=>?_) ?_)
  ·rw [List.mem_range] at hj
   conv=>whnf
   refine ⟨by rw [yq,sizeLine_eq];lia,?_⟩
   rw [yWn]
   conv=>whnf
   refine ⟨by rw [yq,yq,List.length_take,sizeLine_eq];lia,?_⟩
   rw [cK]
   conv=>whnf
   refine ⟨by rw [yq,sizeLine_eq];lia,?_⟩
   rw [zJ6]
   conv=>whnf
   refine ⟨by rw [yq,yq,List.length_append,List.length_take,List.length_drop,sizeLine_eq];exact Nat.le_trans (Nat.add_le_add (Nat.add_le_add (Nat.le_trans (Nat.min_le_right _ _) htl) hf3) (Nat.le_trans (Nat.sub_le _ _) htl)) (by decide),hacc2,?_⟩
   rw [cK]
   exact k2
  ·have e:(List.range (t.length + 1)).map (fun k=>V.str (wd p q (t.take k++f++t.drop k)))=wdV p q ((List.range (t.length + 1)).map fun k=>t.take k++f++t.drop k):=by
    unfold wdV;rw [List.map_map];rfl
   rw [e]
   exact k'
 rw [List.nil_append,rV]
 generalize (ts.flatMap fun t=>(List.range (t.length + 1)).map fun k=>t.take k++f++t.drop k)=inn at *
 conv=>whnf
 refine ⟨by rw [vQ,vQ,sizeLine_eq];lia,?_⟩
 rw [zQt,← hts]
 conv=>whnf
 obtain ⟨tg1,tg2⟩:=jk b hf
 refine ⟨xJ (qw hpq hq _),zq (uY hpq hq _),N.idxOf f,fy hne N f hf,by lia,?_⟩
 conv=>whnf
 refine ⟨by lia,by lia,N.idxOf f,_,by rw [zV,List.length_map];exact seqN tg2,tg1,?_⟩
 conv=>whnf
 refine ⟨yXy (by lia),?_⟩
 rw [← Int.natCast_mul]
 exact hk _
theorem yYd (D:List Nat) (b:List Bool) (hb:b.length=5) (p q:Nat) (hpq:p < q) (hq:q≤122) (wide left:Nat) (hwp:0 < wide) (hwm:wide≤1000000) (hlw:left < wide)
  (M Wd:List W) (w:W) (ts:List W) (kn Kb:SRho→Prop) (K:Kp) (fs:List W) (P tn m:Nat) (hm0:0 < m) (hm1:m≤100) (hcw:cnt b w≤10) (one two:Int) (ho1:one=1∨one=-1) (ho2:two=1∨two=-1)
  (wl:ts.length≤100) (wt:∀ t∈ts,(t != [])=true∧t.length≤3) (qd rd:Int) (hqd:(one * (((cnt b w * m:Nat):Int) * (wide:Int) + (left:Int))).fdiv (two * ((m:Int) * (wide:Int)))=qd) (hrd:(one * (((cnt b w * m:Nat):Int) * (wide:Int) + (left:Int))).fmod (two * ((m:Int) * (wide:Int)))=rd)
  (hk:∀ ρ'' t o,okTO p q t o→zK fgW ρ''=SW D b p q wide left M Wd t o→kn ρ'') :
  xs cxL (fdSc 28) ["grown"] 66 (jv.drop 9) (SWx D b p q wide left M Wd (.val (.lst (wdV p q ts))) (.val (.int one)) [("word",.val (.str (wd p q w))),("factors",.val (.lst (wdV p q fs))),("count",.val (.int (cnt b w))),("product",.val (.int P)),("value",.val (.int ((cnt b w * m:Nat):Int))),("by",.val (.int ((m:Int) * (wide:Int)))),("turn",.val (.int tn)),("two",.val (.int two)),("due",.val (.tup [.int qd,.int rd]))]) kn K Kb:=by
 have hby:m * wide≤100 * 1000000:=Nat.mul_le_mul hm1 hwm
 have hby0:0 < m * wide:=Nat.mul_pos hm0 hwp
 have hcm:cnt b w * m≤10 * 100:=Nat.mul_le_mul hcw hm1
 have hn0:cnt b w * m * wide + left < 16 * (m * wide):=by
  have h1:cnt b w * m * wide≤10 * (m * wide):=by rw [Nat.mul_assoc];exact Nat.mul_le_mul_right _ hcw
  have h2:wide≤m * wide:=Nat.le_mul_of_pos_left _ hm0
  lia
 have hmul1:∀ z:Int,IntMulOk one z:=fun z=>by rcases ho1 with rfl | rfl <;> exact IntMulOk.of_left (Nat.le_of_ble_eq_true rfl)
 have hmul2:∀ z:Int,IntMulOk two z:=fun z=>by rcases ho2 with rfl | rfl <;> exact IntMulOk.of_left (Nat.le_of_ble_eq_true rfl)
 conv=>whnf
 refine ⟨yXy (by lia),?_⟩
 conv=>whnf
 refine ⟨hmul1 _,?_⟩
 conv=>whnf
 refine ⟨hmul2 _,?_⟩
 conv=>whnf
 have ebw:(m:Int) * (wide:Int)=((m * wide:Nat):Int):=by push_cast;rfl
 have hbne:two * ((m:Int) * (wide:Int))≠0:=by rw [ebw];rcases ho2 with rfl | rfl <;> lia
 have hdok:=yX0 (a:=one * (((cnt b w * m:Nat):Int) * (wide:Int) + (left:Int))) (n0:=cnt b w * m * wide + left) (by':=m * wide) two ho2 (by
  have:((cnt b w * m:Nat):Int) * (wide:Int) + (left:Int)=((cnt b w * m * wide + left:Nat):Int):=by push_cast;rfl
  rw [this]
  rcases ho1 with rfl | rfl <;> lia) hby0 (by lia) hn0
 rw [← ebw] at hdok
 refine ⟨_,_,rfl,hbne,hdok,?_⟩
 rw [hqd,hrd]
 conv=>whnf
 refine ⟨nW rfl,nW rfl,?_⟩
 rw [bX rfl]
 conv=>whnf
 refine hk _ (.val (.lst (wdV p q ts))) (.val (.int one)) ⟨ts,one,rfl,rfl,ho1,by lia,fun t ht=>⟨by have:=(wt t ht).1;rw [bne_iff_ne] at this;exact this,(wt t ht).2⟩⟩ rfl
theorem yYe (D:List Nat) (d5:Nat) (hd5:D[5]?=some d5) (hD:D.length=6) (b:List Bool) (hb:b.length=5) (p q:Nat) (hpq:p < q) (hq:q≤122) (wide left:Nat) (hwp:0 < wide) (hwm:wide≤1000000) (hlw:left < wide)
  (M Wd:List W) (w:W) (hMl:M.length≤15) (hM0:0 < M.length) (hMall:∀ x∈M,x∈allW) (kn Kb:SRho→Prop) (K:Kp) (f0:W) (r:List W) (w1:r.length≤2)
  (w3:∀ x,x < 3→(yK f0 (r.take x)).length≤100∧∀ t∈yK f0 (r.take x),(t != [])=true∧t.length≤3) (w4:∀ x∈yK f0 r,x∈M) (w5:w∈yK f0 r) (hcs:∀ f∈allW,cnt b f≤10)
  (b1:mq b f0 r=cnt b w * (yK f0 r).count w + (((yK f0 r).filter (· != w)).map (cnt b)).sum)
  (hk:∀ ρ'' t o,okTO p q t o→zK fgW ρ''=SW D b p q wide left M Wd t o→kn ρ'') :
  xs cxL (fdSc 28) ["grown"] 70 (jv.drop 5) (SWx D b p q wide left M Wd (.val (.lst (wdV p q (yK f0 r)))) .un [("word",.val (.str (wd p q w))),("factors",.val (.lst (wdV p q (f0 :: r)))),("count",.val (.int (cnt b w))),("product",.val (.int (mq b f0 r:Nat)))]) kn K Kb:=by
 have hne:=Nat.ne_of_lt hpq
 have ix5:seqIndex? 5 (zQ D).length=some 5:=by rw [zV,hD];rfl
 obtain ⟨wl,wt⟩:=w3 r.length (by lia)
 rw [List.take_length] at wl wt
 have hwm':=hMall w (w4 w w5)
 have hcw:=hcs w hwm'
 have hm0:0 < (yK f0 r).count w:=List.count_pos_iff.mpr w5
 have hm1:(yK f0 r).count w≤100:=Nat.le_trans List.count_le_length wl
 generalize yK f0 r=ts at *
 generalize mq b f0 r=P at *
 conv=>whnf
 refine no_implicit_lambda% (ww (fun t=>V.str (wd p q t)) (fun t=>if t != w then [V.int (cnt b t:Nat)] else []) ts _ _ ?_ (fun t ht acc K' hacc k'=>?_) ?_)
 ·refine Nat.le_trans (m:=ts.length * 1) ?_ (by rw [sizeLine_eq];lia)
  rw [List.length_nil,Nat.zero_add]
  exact uq _ 1 ts fun x _=>by split <;> simp
 ·conv=>whnf
  rw [zJ5 hne]
  rw [show (true != (t == w))=(t != w) by cases h:(t == w) <;> simp [bne,h]]
  cases hc:(t != w) with
  | false =>
   rw [hc] at k'
   conv=>whnf
   simpa using k'
  | true =>
   rw [hc] at k' hacc
   have htM:=w4 t ht
   obtain ⟨tg1,tg2⟩:=jk b htM
   conv=>whnf
   refine ⟨xJ (qw hpq hq _),zq (uY hpq hq _),M.idxOf t,fy hne M t htM,by lia,?_⟩
   conv=>whnf
   refine ⟨by lia,by lia,M.idxOf t,_,by rw [zV,List.length_map];exact seqN tg2,tg1,?_⟩
   conv=>whnf
   exact ⟨by simp at hacc;lia,k'⟩
 have hfl:([]:List V)++ts.flatMap (fun t=>if t != w then [V.int (cnt b t:Nat)] else [])=(((ts.filter (· != w)).map (cnt b)).map fun (n:Nat)=>(n:Int)).map V.int:=by
  rw [List.nil_append]
  have:∀ l:List W,l.flatMap (fun t=>if t != w then [V.int (cnt b t:Nat)] else [])=(((l.filter (· != w)).map (cnt b)).map fun (n:Nat)=>(n:Int)).map V.int:=fun l=>by
   induction l with
   | nil=>rfl
   | cons a r ih=>rw [List.flatMap_cons,ih,List.filter_cons];split <;> rfl
  exact this ts
 rw [hfl]
 have hsum:∀ l:List Nat,((l.map fun (n:Nat)=>(n:Int))).sum=(l.sum:Nat):=fun l=>by
  induction l with
  | nil=>rfl
  | cons a r ih=>rw [List.map_cons,List.sum_cons,List.sum_cons,ih];push_cast;rfl
 have hlong:=qk ((ts.filter (· != w)).map (cnt b)) 10 100 (fun x hx=>by
  apply bc;intro hQ;rcases List.mem_map.mp hx with ⟨t,ht,rfl⟩;refine hQ ?_;clear hQ
  exact hcs t (hMall t (w4 t (List.mem_filter.mp ht).1))) (by rw [List.length_map];exact Nat.le_trans (List.length_filter_le _ _) wl) (by decide)
 conv=>whnf
 refine ⟨_,rfl,hlong,?_⟩
 rw [hsum]
 refine yYc ?_
 have eP:(P:Int) - ((((ts.filter (· != w)).map (cnt b)).sum:Nat):Int)=((cnt b w * ts.count w:Nat):Int):=by rw [b1];lia
 rw [eP]
 have hcnt:=zZq hne ts w
 generalize hm:ts.count w=m at *
 clear eP hfl hlong b1
 refine no_implicit_lambda% (uJ (ss:=jv.drop 6) (ρ':=SWx D b p q wide left M Wd (.val (.lst (wdV p q ts))) .un [("word",.val (.str (wd p q w))),("factors",.val (.lst (wdV p q (f0 :: r)))),("count",.val (.int (cnt b w))),("product",.val (.int P)),("value",.val (.int ((cnt b w * m:Nat):Int)))]) (by rfl) ?_)
 conv=>whnf
 refine ⟨xJ (qw hpq hq _),zq (uY hpq hq _),?_⟩
 rw [hcnt]
 conv=>whnf
 refine ⟨yXy (by lia),?_⟩
 have htl:(zQ (M.map (cnt b))).length=M.length:=by rw [zV,List.length_map]
 conv=>whnf
 refine ⟨by rw [htl];lia,?_⟩
 rw [htl]
 conv=>whnf
 refine ⟨Nat.le_of_ble_eq_true rfl,?_⟩
 rw [show (M.length:Int) - 1=((M.length - 1:Nat):Int) from isub (b:=1) (by lia)]
 have htn:M.length - 1≤14:=by lia
 generalize M.length - 1=tn at htn ⊢
 refine no_implicit_lambda% (uJ (ss:=jv.drop 7) (ρ':=SWx D b p q wide left M Wd (.val (.lst (wdV p q ts))) .un [("word",.val (.str (wd p q w))),("factors",.val (.lst (wdV p q (f0 :: r)))),("count",.val (.int (cnt b w))),("product",.val (.int P)),("value",.val (.int ((cnt b w * m:Nat):Int))),("by",.val (.int ((m:Int) * (wide:Int)))),("turn",.val (.int tn))]) (by rfl) ?_)
 have hbit:∀ n:Nat,Builtin.bitAnd (n:Int) 1=0∨Builtin.bitAnd (n:Int) 1=1:=fun n=>by
  rw [bitAnd_pp (Int.natCast_nonneg _) (by decide),Int.toNat_natCast]
  show ((n &&& 1:Nat):Int)=0∨((n &&& 1:Nat):Int)=1
  rw [Nat.and_one_is_mod]
  lia
 have hsh:∀ j:Int,0≤j→Int.fdiv (d5:Int) (2 ^ j.toNat)=((d5 / 2 ^ j.toNat:Nat):Int):=fun j _=>by
  rw [Int.fdiv_eq_ediv_of_nonneg _ (Int.le_of_lt (Int.pow_pos (by decide)))]
  norm_cast
 conv=>whnf
 refine ⟨by decide,by decide,5,_,ix5,zj hd5,?_⟩
 conv=>whnf
 refine ⟨by lia,?_⟩
 rw [hsh _ (by lia)]
 conv=>whnf
 have hx1:=hbit (d5 / 2 ^ (tn:Int).toNat)
 generalize Builtin.bitAnd ((d5 / 2 ^ (tn:Int).toNat:Nat):Int) 1=x1 at hx1 ⊢
 refine ⟨IntMulOk.of_left (Nat.le_of_ble_eq_true rfl),?_⟩
 have ho1:(1:Int) - 2 * x1=1∨(1:Int) - 2 * x1=-1:=by lia
 conv=>whnf
 refine ⟨by decide,by decide,5,_,ix5,zj hd5,?_⟩
 conv=>whnf
 refine ⟨by decide,?_⟩
 have h14:(0:Int)≤Int.fmod ((tn:Int) + 5) 14:=by rw [Int.fmod_eq_emod_of_nonneg _ (by decide)];lia
 conv=>whnf
 refine ⟨h14,?_⟩
 rw [hsh _ h14]
 conv=>whnf
 have hx2:=hbit (d5 / 2 ^ (Int.fmod ((tn:Int) + 5) 14).toNat)
 generalize Builtin.bitAnd ((d5 / 2 ^ (Int.fmod ((tn:Int) + 5) 14).toNat:Nat):Int) 1=x2 at hx2 ⊢
 refine ⟨IntMulOk.of_left (Nat.le_of_ble_eq_true rfl),?_⟩
 have ho2:(1:Int) - 2 * x2=1∨(1:Int) - 2 * x2=-1:=by lia
 generalize (1:Int) - 2 * x1=one at ho1 ⊢
 conv=>whnf
 refine ⟨Nat.le_of_ble_eq_true rfl,?_⟩
 generalize (1:Int) - 2 * x2=two at ho2 ⊢
 refine no_implicit_lambda% (uJ (ss:=jv.drop 8) (ρ':=SWx D b p q wide left M Wd (.val (.lst (wdV p q ts))) (.val (.int one)) [("word",.val (.str (wd p q w))),("factors",.val (.lst (wdV p q (f0 :: r)))),("count",.val (.int (cnt b w))),("product",.val (.int P)),("value",.val (.int ((cnt b w * m:Nat):Int))),("by",.val (.int ((m:Int) * (wide:Int)))),("turn",.val (.int tn)),("two",.val (.int two))]) (by rfl) ?_)
 have hby:m * wide≤100 * 1000000:=Nat.mul_le_mul hm1 hwm
 have hmul:∀ z:Int,IntMulOk two z:=fun z=>by rcases ho2 with rfl | rfl <;> exact IntMulOk.of_left (Nat.le_of_ble_eq_true rfl)
 have fin:∀ qd rd:Int,(one * (((cnt b w * m:Nat):Int) * (wide:Int) + (left:Int))).fdiv (two * ((m:Int) * (wide:Int)))=qd→(one * (((cnt b w * m:Nat):Int) * (wide:Int) + (left:Int))).fmod (two * ((m:Int) * (wide:Int)))=rd →
   xs cxL (fdSc 28) ["grown"] 66 (jv.drop 9) (SWx D b p q wide left M Wd (.val (.lst (wdV p q ts))) (.val (.int one)) [("word",.val (.str (wd p q w))),("factors",.val (.lst (wdV p q (f0 :: r)))),("count",.val (.int (cnt b w))),("product",.val (.int P)),("value",.val (.int ((cnt b w * m:Nat):Int))),("by",.val (.int ((m:Int) * (wide:Int)))),("turn",.val (.int tn)),("two",.val (.int two)),("due",.val (.tup [.int qd,.int rd]))]) kn K Kb:=fun qd rd hqd hrd =>
  yYd D b hb p q hpq hq wide left hwp hwm hlw M Wd w ts kn Kb K (f0 :: r) P tn m hm0 hm1 hcw one two ho1 ho2 wl wt qd rd hqd hrd hk
 conv=>whnf
 rw [Bool.false_bne]
 by_cases heq:one=two
 ·subst heq
  rw [beq_self_eq_true]
  conv=>whnf
  refine ⟨hmul _,?_⟩
  conv=>whnf
  refine ⟨Nat.le_of_ble_eq_true rfl,?_⟩
  exact no_implicit_lambda% (fin _ _ (zVe (cnt b w) m wide left hm0 hwp hlw one ho1).1 (zVe (cnt b w) m wide left hm0 hwp hlw one ho1).2)
 ·rw [beq_eq_false_iff_ne.mpr heq]
  conv=>whnf
  rw [Bool.false_bne]
  by_cases h0:left=0
  ·subst h0
   conv=>whnf
   refine ⟨Nat.le_of_ble_eq_true rfl,?_⟩
   exact no_implicit_lambda% (fin _ _ (zVf (cnt b w) m wide hm0 hwp one two ho1 ho2 heq).1 (zVf (cnt b w) m wide hm0 hwp one two ho1 ho2 heq).2)
  ·rw [beq_eq_false_iff_ne.mpr (show (left:Int)≠0 by lia)]
   conv=>whnf
   refine ⟨hmul _,?_⟩
   conv=>whnf
   refine ⟨Nat.le_of_ble_eq_true rfl,?_⟩
   exact no_implicit_lambda% (fin _ _ (zVg (cnt b w) m wide left hm0 hwp hlw h0 one two ho1 ho2 heq).1 (zVg (cnt b w) m wide left hm0 hwp hlw h0 one two ho1 ho2 heq).2)
theorem yYf (D:List Nat) (d5:Nat) (hd5:D[5]?=some d5) (hD:D.length=6) (b:List Bool) (hb:b.length=5) (p q:Nat) (hpq:p < q) (hq:q≤122) (wide left:Nat) (hwp:0 < wide) (hwm:wide≤1000000) (hlw:left < wide)
  (N Wd:List W) (w:W) (hw:w∈allW) (hN:N++[w]=upTo w) (hNl:N.length≤14) (kn Kb:SRho→Prop) (K:Kp) (fs:List W) (hfs:fs∈qX w)
  (hk:∀ ρ'' t o,okTO p q t o→zK fgW ρ''=SW D b p q wide left (N++[w]) Wd t o→kn ρ'') :
  xs cxL (fdSc 28) ["grown"] 73 (jv.drop 2) (SWx D b p q wide left N Wd .un .un [("word",.val (.str (wd p q w))),("factors",.val (.lst (wdV p q fs))),("count",.val (.int (cnt b w)))]) kn K Kb:=by
 have hne:=Nat.ne_of_lt hpq
 have ix5:seqIndex? 5 (zQ D).length=some 5:=by rw [zV,hD];rfl
 have okw:=List.all_eq_true.mp (List.all_eq_true.mp nq w hw) fs hfs
 have okb:=List.all_eq_true.mp (List.all_eq_true.mp (List.all_eq_true.mp hW b (rK b hb)) w hw) fs hfs
 have hcs:∀ f∈allW,cnt b f≤10:=fun f hf=>by
  have:=List.all_eq_true.mp (List.all_eq_true.mp bW b (rK b hb)) f hf
  rwa [decide_eq_true_eq] at this
 cases fs with
 | nil=>contradiction
 | cons f0 r =>
 unfold zVa at okw
 unfold zVb at okb
 dsimp only at okw okb
 simp only [Bool.and_eq_true,decide_eq_true_eq,List.all_eq_true,List.contains_iff_mem,List.mem_range,← hN,beq_iff_eq] at okw okb
 apply bc;intro hQ;rcases okw with ⟨⟨⟨⟨w1,w2⟩,w3⟩,w4⟩,w5⟩;rcases okb with ⟨b1,b2⟩;refine hQ ?_;clear hQ
 have eN:wdV p q N++[V.str (wd p q w)]=wdV p q (N++[w]):=zQt N [w]
 have eT:zQ (N.map (cnt b))++[V.int (cnt b w:Nat)]=zQ ((N++[w]).map (cnt b)):=by
  have:=bY (N.map (cnt b)) [cnt b w]
  rw [List.map_append];exact this
 have hNw:(N++[w]).length≤15:=by rw [List.length_append];show _ + 1≤_;lia
 have hMall:∀ x∈N++[w],x∈allW:=fun x hx=>by rw [hN] at hx;exact List.mem_of_mem_take hx
 conv=>whnf
 refine ⟨Nat.le_of_ble_eq_true rfl,?_⟩
 conv=>whnf
 refine ⟨by rw [vQ,sizeLine_eq];show _ + 1≤_;lia,?_⟩
 rw [eN]
 conv=>whnf
 refine ⟨Nat.le_of_ble_eq_true rfl,?_⟩
 conv=>whnf
 refine ⟨by rw [zV,List.length_map,sizeLine_eq];show _ + 1≤_;lia,?_⟩
 rw [eT]
 conv=>whnf
 refine ⟨Nat.le_of_ble_eq_true rfl,?_⟩
 have hlen:(N++[w]).length=N.length + 1:=by rw [List.length_append];rfl
 generalize N++[w]=M at *
 have p1:lz (wdV p q (f0 :: r)) none (some 1) none=wdV p q [f0]:=by
  have:=oQ (wdV p q (f0 :: r)) none (some 1)
  exact this.trans rfl
 have p2:lz (wdV p q (f0 :: r)) (some 1) none none=wdV p q r:=by
  have:=oQ (wdV p q (f0 :: r)) (some 1) none
  refine this.trans ?_
  unfold cut
  rw [Option.getD_some,Option.getD_none,List.take_length]
  rfl
 have hf0:=w2 f0 List.mem_cons_self
 obtain ⟨tg1,tg2⟩:=jk b hf0
 have hrl:(wdV p q (f0 :: r)).length≤sizeLine:=by rw [vQ,List.length_cons,sizeLine_eq];lia
 conv=>whnf
 refine ⟨by decide,hrl,?_⟩
 rw [p1]
 conv=>whnf
 refine ⟨by decide,by decide,0,.str (wd p q f0),by rw [vQ];exact PyProof.Rows.seqIndex?_zero (Nat.succ_pos _),rfl,?_⟩
 conv=>whnf
 refine ⟨xJ (qw hpq hq _),zq (uY hpq hq _),M.idxOf f0,fy hne M f0 hf0,by lia,?_⟩
 conv=>whnf
 refine ⟨by lia,by lia,M.idxOf f0,_,by rw [zV,List.length_map];exact seqN tg2,tg1,?_⟩
 conv=>whnf
 refine ⟨Nat.le_of_ble_eq_true rfl,?_⟩
 conv=>whnf
 refine ⟨by decide,hrl,?_⟩
 rw [p2]
 conv=>whnf
 refine no_implicit_lambda% (yk (fun rest ρ=>∃ a r',r=a++r'∧rest=wdV p q r'∧zK ["factor","over"] ρ=SWx D b p q wide left M Wd (.val (.lst (wdV p q (yK f0 a)))) .un [("word",.val (.str (wd p q w))),("factors",.val (.lst (wdV p q (f0 :: r)))),("count",.val (.int (cnt b w))),("product",.val (.int (mq b f0 a:Nat)))]) (fun ρ hI=>?_) (fun X Xs ρ hI=>?_) _ _ ?_)
 ·apply bc;intro hQ;rcases hI with ⟨a,r',e1,e2,e3⟩;refine hQ ?_;clear hQ
  have:r'=[]:=List.map_eq_nil_iff.mp e2.symm
  subst this
  rw [List.append_nil] at e1
  subst e1
  show xs cxL (fdSc 28) ["grown"] 70 [] (zK ["factor","over"] ρ) _ K Kb
  rw [e3]
  exact yYe D d5 hd5 hD b hb p q hpq hq wide left hwp hwm hlw M Wd w hNw (by lia) (hMall) kn Kb K f0 r w1 w3 w4 w5 hcs b1 hk
 ·apply bc;intro hQ;rcases hI with ⟨a,r',e1,e2,e3⟩;refine hQ ?_;clear hQ
  cases r' with
  | nil=>contradiction
  | cons f r' =>
   unfold wdV at e2
   rw [List.map_cons,List.cons.injEq] at e2
   apply bc;intro hQ;rcases e2 with ⟨rfl,rfl⟩;refine hQ ?_;clear hQ
   refine ⟨SWx D b p q wide left M Wd (.val (.lst (wdV p q (yK f0 a)))) .un [("word",.val (.str (wd p q w))),("factors",.val (.lst (wdV p q (f0 :: r)))),("count",.val (.int (cnt b w))),("product",.val (.int (mq b f0 a:Nat))),("factor",.val (.str (wd p q f)))],?_,fun kn' hk'=>?_⟩
   ·show tK (fdSc 28) _ _ (zK ["factor","over"] ρ)=_
    rw [e3];rfl
   ·have hfm:f∈M:=w2 f (List.mem_cons_of_mem _ (by rw [e1];simp))
    have hal:a.length < 3:=by rw [e1,List.length_append,List.length_cons] at w1;lia
    have hta:=w3 a.length hal
    rw [e1,List.take_left] at hta
    have hf3:=List.all_eq_true.mp gQ f (hMall f hfm)
    rw [Bool.and_eq_true,decide_eq_true_eq] at hf3
    have hpl:mq b f0 a≤10000:=by
     have hc0:cnt b f0≤10:=hcs f0 (hMall f0 hf0)
     have hca:∀ x∈a,cnt b x≤10:=fun x hx=>hcs x (hMall x (w2 x (List.mem_cons_of_mem _ (by rw [e1];exact List.mem_append_left _ hx))))
     have:∀ (a:List W) (n:Nat),(∀ x∈a,cnt b x≤10)→a.foldl (fun a f=>a * cnt b f) n≤n * 10 ^ a.length:=fun a=>by
      induction a with
      | nil=>intro n _;simp
      | cons x r ih =>
       intro n h
       have h1:=ih (n * cnt b x) fun y hy=>h y (List.mem_cons_of_mem _ hy)
       have h2:=Nat.mul_le_mul_left n (h x List.mem_cons_self)
       have h3:=Nat.mul_le_mul_right (10 ^ r.length) h2
       rw [List.foldl_cons,List.length_cons,Nat.pow_succ,Nat.mul_comm (10 ^ r.length),← Nat.mul_assoc]
       exact Nat.le_trans h1 h3
     have h1:=this a (cnt b f0) hca
     have h2:10 ^ a.length≤10 ^ 2:=Nat.pow_le_pow_right (by decide) (by lia)
     have h3:=Nat.mul_le_mul hc0 h2
     unfold mq
     lia
    refine yX1 D b hb p q hpq hq wide left M Wd w f hfm hNw (f0 :: r) (yK f0 a) hta.1 (fun t ht=>(hta.2 t ht).2) hf3.1 (cnt b w) (mq b f0 a) hpl kn' _ K fun ov=>?_
    refine hk' _ ⟨a++[f],r',by rw [e1];simp,rfl,?_⟩
    have e4:yK f0 (a++[f])=lX (yK f0 a) f:=by unfold yK;rw [List.foldl_append];rfl
    have e5:mq b f0 (a++[f])=mq b f0 a * cnt b f:=by unfold mq;rw [List.foldl_append];rfl
    rw [e4,e5];rfl
 ·exact ⟨[],r,rfl,rfl,by kernel_rfl⟩
theorem xZy (D:List Nat) (d5:Nat) (hd5:D[5]?=some d5) (hD:D.length=6) (b:List Bool) (hb:b.length=5) (p q:Nat) (hpq:p < q) (hq:q≤122) (wide left:Nat) (hwp:0 < wide) (hwm:wide≤1000000) (hlw:left < wide)
  (N Wd:List W) (w:W) (hw:w∈allW) (hN:N++[w]=upTo w) (hNl:N.length≤14) (terms one:Slt) (kn Kb:SRho→Prop) (K:Kp)
  (hk:∀ ρ'' t o,okTO p q t o→zK fgW ρ''=SW D b p q wide left (N++[w]) Wd t o→kn ρ'') :
  xs cxL (fdSc 28) ["grown"] 75 jv (SWx D b p q wide left N Wd terms one [("word",.val (.str (wd p q w)))]) kn K Kb:=by
 have hne:=Nat.ne_of_lt hpq
 refine no_implicit_lambda% (uJ (ss:=jv) (ρ':=SWx D b p q wide left N Wd .un .un [("word",.val (.str (wd p q w)))]) (by rfl) ?_)
 conv=>whnf
 have hw3:=List.all_eq_true.mp gQ w hw
 rw [Bool.and_eq_true,decide_eq_true_eq,decide_eq_true_eq] at hw3
 refine ⟨p,q,w,hpq,rfl,by lia,fun fs hperm hfall=>?_⟩
 have hfs:fs∈qX w:=by
  unfold qX
  exact List.mem_filter.mpr ⟨zZp _ _ hperm,decide_eq_true hfall⟩
 have okb:=List.all_eq_true.mp (List.all_eq_true.mp (List.all_eq_true.mp hW b (rK b hb)) w hw) fs hfs
 have okl:fs.length≤3:=by
  have okw:=List.all_eq_true.mp (List.all_eq_true.mp nq w hw) fs hfs
  cases fs with
  | nil=>contradiction
  | cons f0 r =>
   unfold zVa at okw
   dsimp only at okw
   simp only [Bool.and_eq_true,decide_eq_true_eq] at okw
   rw [List.length_cons];lia
 have hplain:fs=[w]→(cnt b w:Int)=jQ w b:=fun e=>by
  subst e
  unfold zVb at okb
  dsimp only at okb
  rw [Bool.and_eq_true] at okb
  simpa using okb.2
 conv=>whnf
 refine ⟨xJ (qw hpq hq _),zq (uY hpq hq _),?_⟩
 rw [zZq hne,show (mJ b).count w=cnt b w from rfl]
 conv=>whnf
 refine ⟨Nat.le_of_ble_eq_true rfl,?_⟩
 refine no_implicit_lambda% (uJ (ss:=jv.drop 1) (ρ':=SWx D b p q wide left N Wd .un .un [("word",.val (.str (wd p q w))),("factors",.val (.lst (wdV p q fs))),("count",.val (.int (cnt b w)))]) (by rfl) ?_)
 have fin:=yYf D d5 hd5 hD b hb p q hpq hq wide left hwp hwm hlw N Wd w hw hN hNl kn Kb K fs hfs hk
 conv=>whnf
 refine ⟨Nat.le_of_ble_eq_true rfl,?_⟩
 conv=>whnf
 refine ⟨zq (uY hpq hq _),zq (uY hpq hq [w]),?_⟩
 rw [show (toP (.lst (wdV p q fs))).eqv (toP (.lst [V.str (wd p q w)]))=(fs == [w]) from zY1 hne fs [w]]
 conv=>whnf
 rw [Bool.false_bne]
 by_cases h1:fs=[w]
 ·rw [beq_iff_eq.mpr h1]
  conv=>whnf
  refine ⟨p,q,w,b,hne,rfl,by lia,?_⟩
  conv=>whnf
  rw [show ((cnt b w:Int) == jQ w b)=true from beq_iff_eq.mpr (hplain h1)]
  exact fin
 ·rw [beq_eq_false_iff_ne.mpr h1]
  exact fin
noncomputable def upN (n:Nat):List W:=(List.range n).flatMap fun i=>yz (i + 1)
theorem yYg:((List.range 3).all fun n=>(List.range (yz (n + 1)).length).all fun i=>let w:=(yz (n + 1)).getD i []
  upN n++(yz (n + 1)).take i++[w] == upTo w && allW.contains w && decide ((upN n++(yz (n + 1)).take i).length≤14))=true:=by decide +kernel
theorem upN3:upN 3=allW:=by decide +kernel
noncomputable def fgZ:List Str:=fgL (match (fdB 28).drop 22 with | .For t _ _ _ _ :: _=>t | _=>default)
theorem segW (D:List Nat) (d4 d5:Nat) (hd4:D[4]?=some d4) (hd5:D[5]?=some d5) (hD:D.length=6) (b:List Bool) (hb:b.length=5) (p q:Nat) (hpq:p < q) (hq:q≤122) (K:Kp) (k:K (.bool true)) :
  xs cxL (fdSc 28) ["grown"] 81 ((fdB 28).drop 19) (st0 [("draws",.lst (zQ D)),("pair",.lst [.str (wd p q [false]),.str (wd p q [true])]),("letters",.lst (letV p q b)),("lying",.lst (wdV p q (mJ b)))]) (fun _=>K .none) K (fun _=>False):=by
 have ix5:seqIndex? 5 (zQ D).length=some 5:=by rw [zV,hD];rfl
 conv=>whnf
 refine ⟨by decide,by decide,5,_,ix5,zj hd5,?_⟩
 conv=>whnf
 refine ⟨by decide,?_⟩
 conv=>whnf
 refine ⟨by decide,?_⟩
 conv=>whnf
 refine ⟨Nat.le_of_ble_eq_true rfl,?_⟩
 rw [show (2:Int) ^ Int.toNat 14=((16384:Nat):Int) from rfl]
 conv=>whnf
 refine ⟨by decide,pyl _ 16384 (by decide),?_⟩
 conv=>whnf
 refine ⟨by decide,?_⟩
 conv=>whnf
 refine ⟨by decide,?_⟩
 conv=>whnf
 refine ⟨Nat.le_of_ble_eq_true rfl,?_⟩
 rw [show (10:Int) ^ Int.toNat 6=((1000000:Nat):Int) from rfl]
 conv=>whnf
 refine ⟨by decide,?_⟩
 have hw:(1:Int) + Int.fmod (Int.fdiv (d5:Int) ((16384:Nat):Int)) ((1000000:Nat):Int)=((1 + d5 / 16384 % 1000000:Nat):Int):=by
  rw [Int.fdiv_eq_ediv_of_nonneg _ (by decide),Int.fmod_eq_emod_of_nonneg _ (by decide)];norm_cast
 conv=>whnf
 rw [hw]
 have hwp:0 < 1 + d5 / 16384 % 1000000:=by lia
 have hwm:1 + d5 / 16384 % 1000000≤1000000:=by have:=Nat.mod_lt (d5 / 16384) (show 0 < 1000000 by decide);lia
 generalize 1 + d5 / 16384 % 1000000=wide at hwp hwm ⊢
 refine ⟨by decide,by decide,5,_,ix5,zj hd5,?_⟩
 conv=>whnf
 refine ⟨by decide,pyl _ 3 (by decide),?_⟩
 conv=>whnf
 refine ⟨by lia,?_⟩
 have hl:Int.fmod (Int.fdiv (d5:Int) 3) (wide:Int)=((d5 / 3 % wide:Nat):Int):=by
  rw [Int.fdiv_eq_ediv_of_nonneg _ (by decide),Int.fmod_eq_emod_of_nonneg _ (by lia)];norm_cast
 rw [hl]
 have hlw:d5 / 3 % wide < wide:=Nat.mod_lt _ hwp
 generalize d5 / 3 % wide=left at hlw ⊢
 refine no_implicit_lambda% (uJ (ss:=(fdB 28).drop 21) (ρ':=stS [("draws",.val (.lst (zQ D))),("pair",.val (.lst [.str (wd p q [false]),.str (wd p q [true])])),("letters",.val (.lst (letV p q b))),("lying",.val (.lst (wdV p q (mJ b)))),("wide",.val (.int wide)),("left",.val (.int left))]) (by rfl) ?_)
 conv=>whnf
 refine ⟨Nat.le_of_ble_eq_true rfl,?_⟩
 conv=>whnf
 refine ⟨Nat.le_of_ble_eq_true rfl,?_⟩
 conv=>whnf
 refine ⟨Nat.le_of_ble_eq_true rfl,?_⟩
 conv=>whnf
 refine ⟨Nat.le_of_ble_eq_true rfl,?_⟩
 refine no_implicit_lambda% (uJ (ss:=(fdB 28).drop 22) (ρ':=SW D b p q wide left (upN 0) (yz 0) .un .un) (by rfl) ?_)
 conv=>whnf
 refine ⟨by decide,by decide,?_⟩
 refine no_implicit_lambda% (yk (fun rest ρ=>∃ n t o,n + rest.length=3∧rest=(List.range' n rest.length).map (fun (j:Nat)=>V.int j)∧zK fgZ ρ=SW D b p q wide left (upN n) (yz n) t o∧(n=0∨okTO p q t o)) (fun ρ hI=>?_) (fun X Xs ρ hI=>?_) _ _ ?_)
 ·apply bc;intro hQ;rcases hI with ⟨n,t,o,e1,e2,e3,e4⟩;refine hQ ?_;clear hQ
  have:n=3:=e1
  subst this
  rcases e4 with e4 | ⟨ts,one,rfl,rfl,h1,h2,h3⟩
  ·contradiction
  show xs cxL (fdSc 28) ["grown"] 77 [] (zK fgZ ρ) _ K _
  rw [e3,upN3]
  show xs cxL (fdSc 28) ["grown"] 77 ((fdB 28).drop 23) _ _ K _
  refine no_implicit_lambda% (uJ (ρ':=st0 [("draws",.lst (zQ D)),("one",.int one),("left",.int left),("terms",.lst (wdV p q ts)),("wide",.int wide),("table",.lst (zQ (allW.map (cnt b))))]) (by rfl) ?_)
  refine segT (allW.map (cnt b)) D d4 hd4 hD (by rw [List.length_map];decide) (fun t ht=>?_) ?_ one h1 left wide (by lia) (by lia) p q ts h2 h3 (xJ (by decide +kernel)) (zq (uY hpq hq ts)) K k
  ·apply bc;intro hQ;rcases List.mem_map.mp ht with ⟨w,hw,rfl⟩;refine hQ ?_;clear hQ
   have:=List.all_eq_true.mp (List.all_eq_true.mp bW b (rK b hb)) w hw
   rw [decide_eq_true_eq] at this
   lia
  ·have:=List.all_eq_true.mp zYz b (rK b hb)
   apply bc;intro hQ;rcases List.any_eq_true.mp this with ⟨w,hw,h⟩;refine hQ ?_;clear hQ
   exact ⟨_,List.mem_map.mpr ⟨w,hw,rfl⟩,by simpa using h⟩
 ·apply bc;intro hQ;rcases hI with ⟨n,t,o,e1,e2,e3,e4⟩;refine hQ ?_;clear hQ
  rw [List.length_cons] at e1 e2
  rw [List.range'_succ,List.map_cons,List.cons.injEq] at e2
  apply bc;intro hQ;rcases e2 with ⟨rfl,e2⟩;refine hQ ?_;clear hQ
  refine ⟨SWx D b p q wide left (upN n) (yz n) t o [("size",.val (.int n))],?_,fun kn hk=>?_⟩
  ·show tK (fdSc 28) _ _ (zK fgZ ρ)=_
   rw [e3];rfl
  ·have hn3:n < 3:=by lia
   have hst:=List.all_eq_true.mp yYg n (List.mem_range.mpr hn3)
   have hwl:(yz n).length≤4∧(yz (n + 1)).length≤8∧0 < (yz (n + 1)).length:=by
    have:∀ n:Fin 3,(yz n.val).length≤4∧(yz (n.val + 1)).length≤8∧0 < (yz (n.val + 1)).length:=by decide
    exact this ⟨n,hn3⟩
   have hw3:∀ t∈yz n,t.length≤3:=by
    have:∀ n:Fin 3,∀ t∈yz n.val,t.length≤3:=by decide
    exact this ⟨n,hn3⟩
   refine no_implicit_lambda% (uJ (ss:=zY2) (ρ':=SWx D b p q wide left (upN n) (yz n) .un .un [("size",.val (.int n))]) (by rfl) ?_)
   conv=>whnf
   refine no_implicit_lambda% (ww (fun t=>V.str (wd p q t)) (fun t=>wdV p q [t++[false],t++[true]]) (yz n) _ _ ?_ (fun t ht acc K' hacc k'=>?_) ?_)
   ·rw [rV,vQ,List.length_nil,Nat.zero_add]
    exact Nat.le_trans (uq _ 2 _ fun t _=>Nat.le_refl _) (by rw [sizeLine_eq];lia)
   ·have:=hw3 t ht
    have hl2:acc.length + 2≤sizeLine:=hacc
    conv=>whnf
    refine ⟨by rw [yq,yq,sizeLine_eq];show _ + 1≤_;lia,by lia,?_⟩
    rw [cK]
    conv=>whnf
    refine ⟨by rw [yq,yq,sizeLine_eq];show _ + 1≤_;lia,by rw [List.length_append];show _ + 1≤_;lia,?_⟩
    rw [cK,List.append_assoc]
    exact k'
   rw [List.nil_append,rV,show ((yz n).flatMap fun t=>[t++[false],t++[true]])=yz (n + 1) from rfl]
   refine no_implicit_lambda% (uJ (ss:=zY2.drop 1) (ρ':=SWx D b p q wide left (upN n) (yz (n + 1)) .un .un [("size",.val (.int n))]) (by rfl) ?_)
   conv=>whnf
   generalize hWd:yz (n + 1)=Wd at *
   refine no_implicit_lambda% (yk (fun rest ρ=>∃ i t o,i≤Wd.length∧rest=wdV p q (Wd.drop i)∧zK fgW ρ=SW D b p q wide left (upN n++Wd.take i) Wd t o∧(i=0∨okTO p q t o)) (fun ρ hI=>?_) (fun X Xs ρ hI=>?_) _ _ ?_)
   ·apply bc;intro hQ;rcases hI with ⟨i,t,o,g0,g1,g2,g3⟩;refine hQ ?_;clear hQ
    have hi:i=Wd.length:=by
     have:=congrArg List.length g1
     rw [vQ,List.length_drop] at this
     have:0=Wd.length - i:=this
     lia
    subst hi
    rw [List.take_length] at g2
    have g3:=g3.resolve_left (by lia)
    show kn (zK fgW ρ)
    rw [g2]
    refine hk _ ⟨n + 1,t,o,by lia,e2,?_,.inr g3⟩
    have:upN (n + 1)=upN n++Wd:=by unfold upN;rw [List.range_succ,List.flatMap_append,← hWd];simp
    rw [this,hWd]
    rfl
   ·apply bc;intro hQ;rcases hI with ⟨i,t,o,g0,g1,g2,g3⟩;refine hQ ?_;clear hQ
    have hi:i < Wd.length:=by
     have:=congrArg List.length g1
     rw [vQ,List.length_drop,List.length_cons] at this
     lia
    have hs:=List.all_eq_true.mp hst i (List.mem_range.mpr hi)
    dsimp only at hs
    simp only [Bool.and_eq_true,decide_eq_true_eq,List.contains_iff_mem,beq_iff_eq] at hs
    apply bc;intro hQ;rcases hs with ⟨⟨s1,s2⟩,s3⟩;refine hQ ?_;clear hQ
    have hd:Wd.drop i=Wd.getD i [] :: Wd.drop (i + 1):=by
     rw [List.drop_eq_getElem_cons hi,List.getD_eq_getElem?_getD,List.getElem?_eq_getElem hi];rfl
    have ht1:Wd.take (i + 1)=Wd.take i++[Wd.getD i []]:=by
     rw [List.take_succ_eq_append_getElem hi,List.getD_eq_getElem?_getD,List.getElem?_eq_getElem hi];rfl
    rw [hd] at g1
    unfold wdV at g1
    rw [List.map_cons,List.cons.injEq] at g1
    apply bc;intro hQ;rcases g1 with ⟨rfl,rfl⟩;refine hQ ?_;clear hQ
    generalize Wd.getD i []=w at *
    refine ⟨SWx D b p q wide left (upN n++Wd.take i) Wd t o [("word",.val (.str (wd p q w)))],?_,fun kn' hk'=>?_⟩
    ·show tK (fdSc 28) _ _ (zK fgW ρ)=_
     rw [g2];rfl
    ·refine xZy D d5 hd5 hD b hb p q hpq hq wide left hwp hwm hlw (upN n++Wd.take i) Wd w s2 s1 s3 t o kn' _ K fun ρ'' t' o' h1 h2=>?_
     refine hk' _ ⟨i + 1,t',o',hi,rfl,?_,.inr h1⟩
     rw [h2,ht1,List.append_assoc]
   ·exact ⟨0,.un,.un,Nat.zero_le _,rfl,by rw [List.take_zero,List.append_nil];rfl,.inl rfl⟩
 ·exact ⟨0,.un,.un,rfl,rfl,by kernel_rfl,.inl rfl⟩
end Mine
end
section
open PySem PySem.W PySem.Calls PyProof.Rows PySem.Builtin PySem.Builtin.Str PySem.StrLaws
namespace Mine
theorem zZs (s sub:Str) (hi lim:Nat):∀ (l:List Nat) (st:Array Nat×Nat),lim≤st.fst.size→(forIn l st (occBody s sub hi lim)).run=st
 | [],st,_=>rfl
 | a :: l,st,h=>by
  rw [List.forIn_cons]
  unfold occBody
  rw [if_neg (by intro h';have:=h'.1.1.1;lia)]
  exact zZs s sub hi lim l _ h
theorem zZt (s sub:Str) (hi:Nat):∀ (l:List Nat) (free:Nat),(∀ i∈l,free≤i) →
  (forIn l ((#[]:Array Nat),free) (occBody s sub hi 1)).run.fst.toList=(l.find? fun i=>decide (i + sub.length≤hi) && subAt s sub i).toList
 | [],free,_=>by simp
 | a :: l,free,hf=>by
  rw [List.forIn_cons,List.find?_cons]
  unfold occBody
  have ha:=hf a List.mem_cons_self
  by_cases hc:a + sub.length≤hi∧subAt s sub a=true
  ·rw [if_pos ⟨⟨⟨by simp,ha⟩,hc.1⟩,hc.2⟩,show (decide (a + sub.length≤hi) && subAt s sub a)=true by rw [decide_eq_true hc.1,hc.2];rfl]
   show (forIn l _ (occBody s sub hi 1)).run.fst.toList=_
   rw [zZs s sub hi 1 l _ (by simp)]
   simp
  ·rw [if_neg (by intro h;exact hc ⟨h.1.2,h.2⟩),show (decide (a + sub.length≤hi) && subAt s sub a)=false by
    rw [Bool.and_eq_false_iff,decide_eq_false_iff_not]
    by_cases h:a + sub.length≤hi
    ·right;exact Bool.eq_false_iff.mpr fun h2=>hc ⟨h,h2⟩
    ·left;exact h]
   exact zZt s sub hi l free fun i hi'=>hf i (List.mem_cons_of_mem _ hi')
theorem rW (s sub:Str) (lo hi:Nat):occurrences s sub lo hi 1=((List.range' lo (hi + 1 - lo)).find? fun i=>decide (i + sub.length≤hi) && subAt s sub i).toList:=by
 rw [occ_eq]
 exact zZt s sub hi _ lo fun i h=>by rw [List.mem_range'_1] at h;exact h.1
theorem uX {P:Nat→Bool} {lo n i:Nat} (h1:lo≤i) (h2:i < lo + n) (h3:P i=true) (h4:∀ j,lo≤j→j < i→P j=false):(List.range' lo n).find? P=some i :=
 List.find?_range'_eq_some.mpr ⟨h3,List.mem_range'_1.mpr ⟨h1,h2⟩,fun j a b=>by rw [h4 j a b];rfl⟩
theorem rY {P:Nat→Bool} {lo n:Nat} (h:∀ j,lo≤j→j < lo + n→P j=false):(List.range' lo n).find? P=none:=by
 rw [List.find?_eq_none]
 intro x hx
 rw [List.mem_range'_1] at hx
 rw [h x hx.1 hx.2];simp
theorem eQ (L:List Nat):(tx L).cps.toList=L:=by unfold tx;simp
theorem jw (L:List Nat) (c i hi:Nat) (hh:hi≤L.length):(decide (i + (tx [c]).length≤hi) && subAt (tx L) (tx [c]) i)=(decide (i < hi) && (L[i]? == some c)):=by
 have h:=subAt_one (tx L) c i
 rw [eQ] at h
 have e1:(tx [c]).length=1:=rfl
 have e2:(⟨#[c]⟩:Str).length=1:=rfl
 rw [e2,zJ] at h
 rw [e1]
 rw [Bool.eq_iff_iff,Bool.and_eq_true,Bool.and_eq_true,decide_eq_true_eq,decide_eq_true_eq,beq_iff_eq]
 constructor
 ·rintro ⟨h1,h2⟩;exact ⟨by lia,h.mp ⟨by lia,h2⟩⟩
 ·rintro ⟨h1,h2⟩;exact ⟨by lia,(h.mpr h2).2⟩
theorem yX (n k:Nat):fromIndex n (k:Int)=k:=by unfold fromIndex;rw [if_neg (Int.not_lt.mpr (Int.natCast_nonneg k)),Int.max_eq_right (Int.natCast_nonneg k)];exact Int.toNat_natCast k
theorem gZ {L:List Nat} {c a b i:Nat} (hb:b≤L.length) (h1:a≤i) (h2:i < b) (h3:L[i]?=some c) (h4:∀ j,a≤j→j < i→L[j]?≠some c):vV (tx L) (tx [c]) (a:Int) (b:Int)=i:=by
 unfold vV
 rw [yX,yX,zJ,Nat.min_eq_left hb,rW]
 rw [uX (i:=i) h1 (by lia) (by rw [jw _ _ _ _ hb,decide_eq_true h2,h3];simp) fun j hj1 hj2=>by
  rw [jw _ _ _ _ hb,beq_eq_false_iff_ne.mpr (h4 j hj1 hj2),Bool.and_false]]
 rfl
theorem gX {L:List Nat} {c a b:Nat} (hb:b≤L.length) (h4:∀ j,a≤j→j < b→L[j]?≠some c):vV (tx L) (tx [c]) (a:Int) (b:Int)=-1:=by
 unfold vV
 rw [yX,yX,zJ,Nat.min_eq_left hb,rW]
 rw [rY fun j hj1 hj2=>by
  rw [jw _ _ _ _ hb]
  by_cases h:j < b
  ·rw [beq_eq_false_iff_ne.mpr (h4 j hj1 h),Bool.and_false]
  ·rw [decide_eq_false h,Bool.false_and]]
 rfl
theorem zVj {L:List Nat} {c i:Nat} (h3:L[i]?=some c) (h4:∀ j,j < i→L[j]?≠some c):Txt.find (tx L) (tx [c])=i:=by
 have hi:i < L.length:=(List.getElem?_eq_some_iff.mp h3).1
 unfold Txt.find
 rw [zJ,rW]
 rw [uX (i:=i) (Nat.zero_le _) (by lia) (by rw [jw _ _ _ _ (Nat.le_refl _),decide_eq_true hi,h3];simp) fun j hj1 hj2=>by
  rw [jw _ _ _ _ (Nat.le_refl _),beq_eq_false_iff_ne.mpr (h4 j hj2),Bool.and_false]]
 rfl
theorem zVk {L:List Nat} {c:Nat} (h4:∀ j:Nat,L[j]?≠some c):Txt.find (tx L) (tx [c])=-1:=by
 unfold Txt.find
 rw [zJ,rW]
 rw [rY fun j hj1 hj2=>by
  rw [jw _ _ _ _ (Nat.le_refl _),beq_eq_false_iff_ne.mpr (h4 j),Bool.and_false]]
 rfl
theorem zVl {L:List Nat} {a b:Nat} (hb:b≤L.length) (h:a≤b):vV (tx L) (tx []) (a:Int) (b:Int)=a:=by
 have hs:∀ i,subAt (tx L) (tx []) i=true:=fun i=>by
  rw [subAt_eq]
  show ((((tx L).cps.toList).drop i).take 0 == [])=true
  simp
 unfold vV
 rw [yX,yX,zJ,Nat.min_eq_left hb,rW]
 rw [uX (i:=a) (Nat.le_refl _) (by lia) (by rw [hs,Bool.and_true];exact decide_eq_true h) fun j hj1 hj2=>absurd hj2 (by lia)]
 rfl
theorem zQu {L:List Nat} {c a b:Nat} (hb:b≤L.length):(qV (tx L) (tx [c]) (a:Int) (b:Int)=-1∧∀ j,a≤j→j < b→L[j]?≠some c) ∨
  ∃ i:Nat,qV (tx L) (tx [c]) (a:Int) (b:Int)=i∧i < b∧L[i]?=some c∧∀ j,a≤j→i < j→j < b→L[j]?≠some c:=by
 unfold qV
 rw [yX,yX,zJ,Nat.min_eq_left hb,last_eq]
 have key:=last_run (tx L) (tx [c]) b (List.range' a (b + 1 - a)) [] none (fun _ h=>nm h) (fun _ h=>nm h) (List.pairwise_lt_range')
 have hAt:∀ i:Nat,StrLaws.At (tx L) (tx [c]) b i ↔ (i < b∧L[i]?=some c):=fun i=>by
  have:=jw L c i b hb
  rw [Bool.eq_iff_iff,Bool.and_eq_true,Bool.and_eq_true,decide_eq_true_eq,decide_eq_true_eq,beq_iff_eq] at this
  exact this
 rw [List.nil_append] at key
 cases hr:(forIn (List.range' a (b + 1 - a)) none (lastBody (tx L) (tx [c]) b)).run with
 | none =>
  rw [hr] at key
  refine .inl ⟨rfl,fun j h1 h2 h3=>key j (by rw [List.mem_range'_1];lia) ((hAt j).mpr ⟨h2,h3⟩)⟩
 | some i =>
  rw [hr] at key
  have h0:=(hAt i).mp key.1
  exact .inr ⟨i,rfl,h0.1,h0.2,fun j h1 h2 h3 h4=>key.2 j (by rw [List.mem_range'_1];lia) h2 ((hAt j).mpr ⟨h3,h4⟩)⟩
noncomputable def dots:List Nat:=[46,46,46]
noncomputable def wQ:List (List Nat)→List Nat
 | []=>[]
 | [p]=>p
 | p :: q :: r=>p++(dots++wQ (q :: r))
noncomputable def mK:Nat→List (List Nat)→List Nat
 | _,[]=>[]
 | _,[_]=>[]
 | a,p :: q :: r=>(a + p.length) :: mK (a + p.length + 3) (q :: r)
noncomputable def eZ (s sub:Str) (hi lim:Nat) (st:Array Nat×Nat) (i:Nat):Array Nat×Nat :=
 if ((st.fst.size < lim∧st.snd≤i)∧i + sub.length≤hi)∧subAt s sub i=true then (st.fst.push i,i + sub.length) else st
theorem eX (s sub:Str) (hi lim:Nat):∀ (l:List Nat) (st:Array Nat×Nat),(forIn l st (occBody s sub hi lim)).run=l.foldl (eZ s sub hi lim) st
 | [],_=>rfl
 | a :: l,st=>by
  rw [List.forIn_cons,List.foldl_cons]
  unfold occBody eZ
  split
  ·exact eX s sub hi lim l _
  ·exact eX s sub hi lim l _
theorem oW (s sub:Str) (hi lim:Nat):∀ (l:List Nat) (st:Array Nat×Nat),(∀ i∈l,¬ (st.snd≤i∧subAt s sub i=true))→l.foldl (eZ s sub hi lim) st=st
 | [],_,_=>rfl
 | a :: l,st,h=>by
  rw [List.foldl_cons]
  have:eZ s sub hi lim st a=st:=by
   unfold eZ
   rw [if_neg fun h2=>h a List.mem_cons_self ⟨h2.1.1.2,h2.2⟩]
  rw [this]
  exact oW s sub hi lim l st fun i hi'=>h i (List.mem_cons_of_mem _ hi')
theorem lJ (L y:List Nat) (i:Nat):subAt (tx L) (tx y) i=((L.drop i).take y.length == y):=by rw [subAt_eq,eQ,eQ,zJ]
theorem bq {L:List Nat} {i:Nat} (h:subAt (tx L) (tx dots) i=true):L[i]?=some 46:=by
 rw [lJ,beq_iff_eq] at h
 have:=congrArg (·[0]?) h
 have e:((L.drop i).take dots.length)[0]?=L[i]?:=by
  rw [List.getElem?_take]
  simp [dots]
 exact e.symm.trans this
theorem gJ {L r:List Nat} {i:Nat} (h:L.drop i=dots++r):subAt (tx L) (tx dots) i=true:=by
 rw [lJ,h,List.take_left,beq_self_eq_true]
theorem scan:∀ (ps:List (List Nat)) (L:List Nat) (a:Nat) (acc:Array Nat),ps≠[]→(∀ p∈ps,46 ∉ p)→L.drop a=wQ ps→a≤L.length→acc.size≤a →
  ((List.range' a (L.length + 1 - a)).foldl (eZ (tx L) (tx dots) L.length (L.length + 1)) (acc,a)).fst.toList=acc.toList++mK a ps
 | [],_,_,_,h,_,_,_,_=>absurd rfl h
 | [p],L,a,acc,_,h,e,ha,hs=>by
  rw [oW]
  ·simp [mK]
  ·rintro i hi ⟨_,h2⟩
   have h3:=bq h2
   rw [List.mem_range'_1] at hi
   have:L[i]?=p[i - a]?:=by
    have:p=L.drop a:=e.symm
    rw [this,List.getElem?_drop];congr 1;lia
   rw [this] at h3
   exact h p List.mem_cons_self (List.mem_of_getElem? h3)
 | p :: q :: r,L,a,acc,_,h,e,ha,hs=>by
  have e:L.drop a=p++(dots++wQ (q :: r)):=e
  have hl:L.length - a=p.length + (3 + (wQ (q :: r)).length):=by
   have:=congrArg List.length e
   rw [List.length_drop,List.length_append,List.length_append] at this
   exact this
  have e2:L.drop (a + p.length)=dots++wQ (q :: r):=by rw [← List.drop_drop,e,List.drop_left]
  have e3:L.drop (a + p.length + 3)=wQ (q :: r):=by rw [← List.drop_drop,e2];exact List.drop_left (l₁:=dots)
  have e0:L.length=a + (p.length + (3 + (wQ (q :: r)).length)):=(Nat.sub_eq_iff_eq_add' ha).mp hl
  have h9:a + p.length + 3≤L.length:=by rw [e0,Nat.add_assoc];exact Nat.add_le_add_left (Nat.add_le_add_left (Nat.le_add_right 3 _) _) _
  have en:L.length + 1 - a=p.length + (1 + (2 + (L.length + 1 - (a + p.length + 3)))):=(Nat.sub_eq_iff_eq_add' (Nat.le_succ_of_le ha)).mpr (by
   rw [← Nat.add_assoc 1 2,← Nat.add_assoc p.length (1 + 2),← Nat.add_assoc a];exact (Nat.add_sub_cancel' (Nat.le_succ_of_le h9)).symm)
  rw [en,← List.range'_append_1,List.foldl_append,oW _ _ _ _ (List.range' a p.length) (acc,a),← List.range'_append_1,List.foldl_append]
  ·have e4:(List.range' (a + p.length) 1).foldl (eZ (tx L) (tx dots) L.length (L.length + 1)) (acc,a)=(acc.push (a + p.length),a + p.length + 3):=by
    show eZ (tx L) (tx dots) L.length (L.length + 1) (acc,a) (a + p.length)=_
    unfold eZ
    have h3:(tx dots).length=3:=rfl
    rw [if_pos ⟨⟨⟨by show acc.size < _;lia,by show a≤_;lia⟩,by rw [h3];lia⟩,gJ e2⟩,h3]
   rw [e4,← List.range'_append_1,List.foldl_append,oW _ _ _ _ (List.range' (a + p.length + 1) 2)]
   ·have:=scan (q :: r) L (a + p.length + 3) (acc.push (a + p.length)) (by simp) (fun x hx=>h x (List.mem_cons_of_mem _ hx)) e3 h9 (by rw [Array.size_push];lia)
    have e5:a + p.length + 1 + 2=a + p.length + 3:=by lia
    rw [e5,this]
    simp [mK]
   ·rintro i hi ⟨h1,_⟩
    rw [List.mem_range'_1] at hi
    have h1:a + p.length + 3≤i:=h1
    lia
  ·rintro i hi ⟨_,h2⟩
   have h3:=bq h2
   rw [List.mem_range'_1] at hi
   have:L[i]?=p[i - a]?:=by
    have h5:L[i]?=(L.drop a)[i - a]?:=by rw [List.getElem?_drop];congr 1;lia
    rw [h5,e,List.getElem?_append_left (by lia)]
   rw [this] at h3
   exact h p List.mem_cons_self (List.mem_of_getElem? h3)
theorem bz (L:List Nat) (i j:Nat):strSub (tx L) i j=tx ((L.drop i).take (j - i)):=by
 have:=strSub_toList (tx L) i j
 rw [eQ] at this
 rw [← yZ3 (strSub (tx L) i j),this]
theorem zVm:∀ (ps:List (List Nat)) (L:List Nat) (a:Nat),ps≠[]→L.drop a=wQ ps→partsFrom (tx L) 3 a (mK a ps)=ps.map tx
 | [],_,_,h,_=>absurd rfl h
 | [p],L,a,_,e=>by
  have e:L.drop a=p:=e
  show [strSub (tx L) a (tx L).length]=_
  rw [bz,zJ,e,List.take_of_length_le (by rw [← e,List.length_drop];exact Nat.le_refl _)];rfl
 | p :: q :: r,L,a,_,e=>by
  have e:L.drop a=p++(dots++wQ (q :: r)):=e
  have e2:L.drop (a + p.length)=dots++wQ (q :: r):=by rw [← List.drop_drop,e,List.drop_left]
  have e3:L.drop (a + p.length + 3)=wQ (q :: r):=by rw [← List.drop_drop,e2];exact List.drop_left (l₁:=dots)
  show strSub (tx L) a (a + p.length) :: partsFrom (tx L) 3 (a + p.length + 3) (mK (a + p.length + 3) (q :: r))=_
  rw [zVm (q :: r) L _ (by simp) e3,bz,e,Nat.add_sub_cancel_left,List.take_left];rfl
theorem zY3 (x:Str):1≤PySem.Builtin.Str.strKind x:=by unfold PySem.Builtin.Str.strKind;split <;> (try split) <;> decide
theorem zXx {ps:List (List Nat)} (h2:2≤ps.length) (h:∀ p∈ps,46 ∉ p):Txt.split (tx (wQ ps)) (tx dots)=ps.map tx∧Txt.contains (tx (wQ ps)) (tx dots)=true:=by
 match ps,h2 with
 | p :: q :: r,_ =>
  have hl:3≤(wQ (p :: q :: r)).length:=by
   show 3≤(p++(dots++wQ (q :: r))).length
   rw [List.length_append,List.length_append]
   have:dots.length=3:=rfl
   lia
  have hocc:occurrences (tx (wQ (p :: q :: r))) (tx dots) 0 (tx (wQ (p :: q :: r))).length ((tx (wQ (p :: q :: r))).length + 1)=mK 0 (p :: q :: r):=by
   rw [occ_eq,eX,zJ,Nat.sub_zero]
   have:=scan (p :: q :: r) (wQ (p :: q :: r)) 0 #[] (by simp) h (by rw [List.drop_zero]) (Nat.zero_le _) (Nat.zero_le _)
   rw [Nat.sub_zero] at this
   rw [this];simp
  constructor
  ·unfold Txt.split
   rw [if_neg,if_neg,hocc,partsBetween_eq]
   ·exact zVm (p :: q :: r) _ 0 (by simp) (by rw [List.drop_zero])
   ·rw [hocc];simp [mK]
   ·have h1:(tx dots).length=3:=rfl
    have h3:PySem.Builtin.Str.strKind (tx dots)=1:=by decide +kernel
    have h4:=zY3 (tx (wQ (p :: q :: r)))
    rw [h1,h3,zJ,Bool.or_eq_true,decide_eq_true_eq,decide_eq_true_eq]
    lia
  ·unfold Txt.contains
   rw [found_iff]
   refine ⟨p.length,?_,gJ (r:=wQ (q :: r)) ?_⟩
   ·rw [zJ]
    show p.length + 3≤(p++(dots++wQ (q :: r))).length
    rw [List.length_append,List.length_append]
    have:dots.length=3:=rfl
    lia
   ·show (p++(dots++wQ (q :: r))).drop p.length=_
    rw [List.drop_left]
theorem zQv (d:List Nat):∀ (ps:List (List Nat)) (acc:List Nat),(ps.map tx).foldl (fun (acc:Array Nat) p=>acc++(tx d).cps++p.cps) acc.toArray=(acc++ps.flatMap fun p=>d++p).toArray
 | [],acc=>by simp
 | p :: r,acc=>by
  rw [List.map_cons,List.foldl_cons]
  have:(acc.toArray++(tx d).cps++(tx p).cps)=(acc++(d++p)).toArray:=by unfold tx;simp
  rw [this,zQv d r];simp
theorem bx:∀ (p:List Nat) (r:List (List Nat)),wQ (p :: r)=p++r.flatMap fun p=>dots++p
 | p,[]=>by simp [wQ]
 | p,q :: r=>by
  show p++(dots++wQ (q :: r))=_
  rw [bx q r];simp
theorem zVn (ps:List (List Nat)):Txt.join (tx dots) (ps.map tx)=tx (wQ ps):=by
 unfold Txt.join glued
 cases ps with
 | nil=>rfl
 | cons p r =>
  rw [bx]
  have:=zQv dots r p
  show (⟨(r.map tx).foldl (fun acc p=>acc++(tx dots).cps++p.cps) (tx p).cps⟩:Str)=_
  exact congrArg Str.mk this
theorem zVo {L y:List Nat} (h:y <+: L):Txt.startswith (tx L) (tx y)=true:=by
 apply bc;intro hQ;rcases h with ⟨t,rfl⟩;refine hQ ?_;clear hQ
 unfold Txt.startswith
 rw [zJ,zJ,Bool.and_eq_true,decide_eq_true_eq,lJ,List.drop_zero,List.take_left,beq_self_eq_true]
 exact ⟨by rw [List.length_append];lia,rfl⟩
theorem yX2 {L y:List Nat} (h:y <:+ L):Txt.endswith (tx L) (tx y)=true:=by
 apply bc;intro hQ;rcases h with ⟨t,rfl⟩;refine hQ ?_;clear hQ
 unfold Txt.endswith
 rw [zJ,zJ,Bool.and_eq_true,decide_eq_true_eq,lJ,List.length_append,Nat.add_sub_cancel,List.drop_left,List.take_length,beq_self_eq_true]
 exact ⟨by lia,rfl⟩
structure Signs (N:List Nat) (s g:Nat→Nat):Prop where
 mono:∀ i j,i < j→j < 5→s i < s j
 at_:∀ i,i < 5→N[s i]?=some (g i)
 only:∀ i j:Nat,i < 5→N[j]?=some (g i)→j=s i
 nodot:46 ∉ N
section
variable {N:List Nat} {s g:Nat→Nat}
theorem Signs.lt (S:Signs N s g) {i:Nat} (h:i < 5):s i < N.length:=(List.getElem?_eq_some_iff.mp (S.at_ i h)).1
theorem zZu (S:Signs N s g) {ep sp i:Nat} (h:i < 5) (he:ep≤N.length) (h1:sp≤s i) (h2:s i < ep) (rest:List Str) :
  seek (tx N) (ep:Int) (sp:Int) (tx [g i] :: rest)=seek (tx N) (ep:Int) ((s i + 1:Nat):Int) rest:=by
 have e:=gZ (L:=N) (c:=g i) he h1 h2 (S.at_ i h) fun j hj1 hj2 h3=>by have:=S.only i j h h3;lia
 show (if vV (tx N) (tx [g i]) sp ep < 0 then false else seek (tx N) ep (vV (tx N) (tx [g i]) sp ep + (tx [g i]).length) rest)=_
 rw [e,if_neg (by lia)]
 have:((s i:Nat):Int) + (tx [g i]).length=((s i + 1:Nat):Int):=by push_cast;rfl
 rw [this]
theorem bj (S:Signs N s g) {ep sp i:Nat} (h:i < 5) (he:ep≤N.length) (h1:s i < sp∨ep≤s i) (rest:List Str):seek (tx N) (ep:Int) (sp:Int) (tx [g i] :: rest)=false:=by
 have e:=gX (L:=N) (c:=g i) (a:=sp) (b:=ep) he fun j hj1 hj2 h3=>by have:=S.only i j h h3;lia
 show (if vV (tx N) (tx [g i]) sp ep < 0 then false else seek (tx N) ep (vV (tx N) (tx [g i]) sp ep + (tx [g i]).length) rest)=_
 rw [e,if_pos (by decide)]
theorem zZv {ep sp:Nat} (he:ep≤N.length) (h:sp≤ep) (rest:List Str):seek (tx N) (ep:Int) (sp:Int) (tx [] :: rest)=seek (tx N) (ep:Int) (sp:Int) rest:=by
 have e:=zVl (L:=N) he h
 show (if vV (tx N) (tx []) sp ep < 0 then false else seek (tx N) ep (vV (tx N) (tx []) sp ep + (tx []).length) rest)=_
 rw [e,if_neg (by lia)]
 have:(sp:Int) + (tx []).length=sp:=by show (sp:Int) + (0:Nat)=sp;lia
 rw [this]
theorem zZw (S:Signs N s g) {ep:Nat} (he:ep≤N.length):∀ (row:List Nat) (sp:Nat) (rest:List Str),(∀ x∈row,x < 5∧s x < ep∧sp≤s x)→row.Pairwise (· < ·)→sp≤ep→(∀ sp',sp'≤ep→seek (tx N) (ep:Int) (sp':Int) rest=true) →
  seek (tx N) (ep:Int) (sp:Int) (row.map (fun x=>tx [g x])++rest)=true
 | [],sp,rest,_,_,h,hr=>hr sp h
 | x :: row,sp,rest,hx,hp,h,hr=>by
  apply bc;intro hQ;rcases hx x List.mem_cons_self with ⟨h1,h2,h3⟩;refine hQ ?_;clear hQ
  rw [List.pairwise_cons] at hp
  rw [List.map_cons,List.cons_append,zZu S h1 he h3 h2]
  refine zZw S he row _ rest (fun y hy=>?_) hp.2 (by lia) hr
  apply bc;intro hQ;rcases hx y (List.mem_cons_of_mem _ hy) with ⟨g1,g2,g3⟩;refine hQ ?_;clear hQ
  have:=S.mono x y (hp.1 y hy) g1
  exact ⟨g1,g2,by lia⟩
theorem zZx (S:Signs N s g) {ep k:Nat} (he:ep≤N.length) (hk:k < 5):∀ (row:List Nat) (sp:Nat) (rest:List Str),(∀ x∈row,x < 5)→(∀ x∈row,sp≤s x)→row.Pairwise (· < ·)→(s k < sp∨∃ x∈row,k≤x) →
  seek (tx N) (ep:Int) (sp:Int) (row.map (fun x=>tx [g x])++(tx [g k] :: rest))=false
 | [],sp,rest,_,_,_,h=>by
  rcases h with h | ⟨x,hx,_⟩
  ·exact bj S hk he (.inl h) rest
  ·contradiction
 | x :: row,sp,rest,hx,hsp,hp,h=>by
  have h1:=hx x List.mem_cons_self
  have h3:=hsp x List.mem_cons_self
  rw [List.pairwise_cons] at hp
  rw [List.map_cons,List.cons_append]
  by_cases h2:s x < ep
  ·rw [zZu S h1 he h3 h2]
   refine zZx S he hk row _ rest (fun y hy=>hx y (List.mem_cons_of_mem _ hy)) (fun y hy=>?_) hp.2 ?_
   ·have:=S.mono x y (hp.1 y hy) (hx y (List.mem_cons_of_mem _ hy));lia
   ·rcases h with h | ⟨y,hy,h⟩
    ·left;lia
    ·rcases List.mem_cons.mp hy with rfl | hy
     ·left
      rcases Nat.lt_or_eq_of_le h with h | rfl
      ·have:=S.mono k y h h1;lia
      ·lia
     ·exact .inr ⟨y,hy,h⟩
  ·exact bj S h1 he (.inr (by lia)) _
theorem zY4 {ep sp:Nat} (he:ep≤N.length) (h:sp≤ep) (after:List Nat):seek (tx N) (ep:Int) (sp:Int) (if (tx after).length=0 then [tx after] else [])=true:=by
 rw [zJ]
 cases after with
 | nil=>exact (zZv he h []).trans rfl
 | cons a r=>rfl
theorem yX3 (S:Signs N s g) {r:List Nat} {k:Nat} (hr:∀ x∈r,x < 5) (hk:k < 5) (hp:r.Pairwise (· < ·)) (a1 a2:Bool) :
  ellR (tx N) (tx (if a1 then N.take (s ((r++[k]).headD 0)) else [])) ((r++[k]).map fun x=>tx [g x]) (tx (if a2 then N.drop (s k + 1) else []))=r.all (· < k):=by
 have hsk:=S.lt hk
 have hall:∀ x∈r++[k],x < 5:=fun x hx=>by
  rcases List.mem_append.mp hx with hx | hx
  ·exact hr x hx
  ·rw [List.mem_singleton.mp hx];exact hk
 have hh5:(r++[k]).headD 0 < 5:=by
  cases r with
  | nil=>exact hk
  | cons x r=>exact hr x List.mem_cons_self
 have hhead:∀ x∈r,s ((r++[k]).headD 0)≤s x:=fun x hx=>by
  cases r with
  | nil=>contradiction
  | cons y r =>
   show s y≤s x
   rcases List.mem_cons.mp hx with rfl | hx
   ·exact Nat.le_refl _
   ·rw [List.pairwise_cons] at hp
    exact Nat.le_of_lt (S.mono y x (hp.1 x hx) (hr x (List.mem_cons_of_mem _ hx)))
 have hsh:=S.lt hh5
 generalize hs0:s ((r++[k]).headD 0)=s0 at hhead hsh
 obtain ⟨ep,hep,hep1,hep2⟩:∃ ep:Nat,((tx N).length:Int) - (tx (if a2 then N.drop (s k + 1) else [])).length=ep∧ep≤N.length∧s k < ep:=by
  rw [zJ,zJ]
  cases a2 with
  | true=>exact ⟨s k + 1,by rw [if_pos rfl,List.length_drop];exact (isub (Nat.sub_le _ _)).trans (congrArg _ (Nat.sub_sub_self hsk)),hsk,Nat.lt_succ_self _⟩
  | false=>exact ⟨N.length,by rw [if_neg (by decide)];show (N.length:Int) - (0:Nat)=_;lia,by lia,by lia⟩
 have hal:(tx (if a1 then N.take s0 else [])).length=if a1 then s0 else 0:=by
  rw [zJ];cases a1
  ·rfl
  ·rw [if_pos rfl,if_pos rfl,List.length_take];lia
 unfold ellR
 rw [hep,hal]
 obtain ⟨sp,hspe,hsp⟩:∃ sp:Nat,(if a1 then s0 else 0)=sp∧sp≤s0:=⟨_,rfl,by split <;> lia⟩
 rw [hspe]
 have hfirst:∀ rest:List Str,sp≤ep→seek (tx N) (ep:Int) (sp:Int) ((if sp=0 then [tx (if a1 then N.take s0 else [])] else [])++rest)=seek (tx N) (ep:Int) (sp:Int) rest:=fun rest h=>by
  by_cases h0:sp=0
  ·rw [if_pos h0]
   have:(if a1 then N.take s0 else [])=[]:=by
    cases a1 with
    | true=>rw [if_pos rfl] at hspe ⊢;rw [hspe,h0];rfl
    | false=>rfl
   rw [this]
   exact zZv hep1 h rest
  ·rw [if_neg h0];rfl
 by_cases hle:(ep:Int) < (sp:Int)
 ·rw [if_pos hle]
  symm
  rw [List.all_eq_false]
  cases r with
  | nil =>
   exfalso
   have:s k=s0:=hs0
   lia
  | cons x r =>
   refine ⟨x,List.mem_cons_self,?_⟩
   rw [decide_eq_true_eq]
   intro h
   have h1:=S.mono x k h hk
   have:s x=s0:=hs0
   lia
 ·rw [if_neg hle,List.append_assoc,hfirst _ (by lia)]
  by_cases hk2:∀ x∈r,x < k
  ·rw [List.all_eq_true.mpr fun x hx=>decide_eq_true (hk2 x hx)]
   refine zZw S hep1 (r++[k]) sp _ (fun x hx=>?_) ?_ (by lia) fun sp' h=>zY4 hep1 h _
   ·have h5:=hall x hx
    rcases List.mem_append.mp hx with hx | hx
    ·have:=S.mono x k (hk2 x hx) hk
     have:=hhead x hx
     exact ⟨h5,by lia,by lia⟩
    ·rw [List.mem_singleton.mp hx]
     refine ⟨hk,hep2,?_⟩
     cases r with
     | nil =>
      have:s k=s0:=hs0
      lia
     | cons y r =>
      have:s y=s0:=hs0
      have:=S.mono y k (hk2 y List.mem_cons_self) hk
      lia
   ·rw [List.pairwise_append]
    exact ⟨hp,List.pairwise_singleton _ _,fun a ha b hb=>by rw [List.mem_singleton.mp hb];exact hk2 a ha⟩
  ·have:r.all (· < k)=false:=by
    rw [List.all_eq_false]
    apply bc;intro hQ;rcases Classical.not_forall.mp hk2 with ⟨x,hx⟩;rcases Classical.not_imp.mp hx with ⟨h1,h2⟩;refine hQ ?_;clear hQ
    exact ⟨x,h1,by rw [decide_eq_true_eq];exact h2⟩
   rw [this,List.map_append,List.append_assoc]
   refine zZx S hep1 hk r sp _ hr (fun x hx=>by have:=hhead x hx;lia) hp (.inr ?_)
   apply bc;intro hQ;rcases Classical.not_forall.mp hk2 with ⟨x,hx⟩;rcases Classical.not_imp.mp hx with ⟨h1,h2⟩;refine hQ ?_;clear hQ
   exact ⟨x,h1,by lia⟩
end
end Mine
end
section
open PySem PySem.W PySem.Calls PyProof.Rows PySem.Builtin PySem.Builtin.Str
namespace Mine
theorem zXy (ρ:SRho):freeze [] ρ=ρ:=by
 unfold freeze
 conv=>rhs;rw [← List.map_id ρ]
 refine List.map_congr_left fun p _=>?_
 obtain ⟨x,s⟩:=p
 cases s <;> rfl
noncomputable abbrev yX4 (o:Option SRho) (k:SRho→Prop):Prop:=onS o k
theorem yQ5 {c:Cx} {sc:Scope} {ow:List Str} {n k:Nat} {ts:List Expr} {p pos:Pos} {e:Expr} {ss:List Stmt} {ρ:SRho} {Kn Kb:SRho→Prop} {Kr:V→Prop}
  (h0:c.sx (.Assign [.Tuple ts k p] e pos)=none) (h1:c.fs (.Assign [.Tuple ts k p] e pos)=[]) (h2:((vY ts).any fun xs=>xs.any ow.contains)=false) (h3:(kX sc ts e).isSome=true) (h4:(owns ρ).filter (fun y=>men 40 y e)=[])
  (h:ew c sc n e (xy [] ρ) fun X=>yX4 (tK sc (.Tuple ts k p) X ρ) fun ρ'=>xs c sc ow n ss ρ' Kn Kr Kb):xs c sc ow (n + 1) (.Assign [.Tuple ts k p] e pos :: ss) ρ Kn Kr Kb:=by
 show xsC c sc ow n (xs c sc ow n) _ ss Kn Kr Kb (forgetQ (c.fs _) ρ)
 unfold xsC
 rw [h0,h1]
 obtain ⟨r,hr⟩:=Option.isSome_iff_exists.mp h3
 show onS (kX sc ts e) _
 rw [hr]
 show onB ((vY ts).any _) _ (ew c sc n e (xy ((owns ρ).filter fun y=>men 40 y e) ρ) fun X=>onS (tK sc (.Tuple ts k p) X (freeze ((owns ρ).filter fun y=>men 40 y e) ρ)) _)
 rw [h2,h4,zXy]
 exact h
theorem nz {c:Cx} {sc:Scope} {ow:List Str} {n:Nat} {T:Expr} {X:V} {ss:List Stmt} {ρ ρ':SRho} {Kn Kb:SRho→Prop} {Kr:V→Prop} (h:tK sc T X ρ=some ρ') (k:xs c sc ow n ss ρ' Kn Kr Kb):yX4 (tK sc T X ρ) (fun ρ'=>xs c sc ow n ss ρ' Kn Kr Kb):=by
 rw [h];exact k
noncomputable def rowV (p q:Nat) (b:List Bool) (r:List Nat):V:=.tup [.tup (zQ r),.str (wd p q (xY b r))]
noncomputable def SRx (D:List Nat) (b:List Bool) (p q:Nat) (N:List Nat) (s:Nat→Nat) (rows:List (List Nat)) (lying:List W) (grown:Slt) (extra:List (Str×Slt)):SRho :=
 stS (extra++([("draws",.val (.lst (zQ D))),("pair",.val (.lst [.str (wd p q [false]),.str (wd p q [true])])),("letters",.val (.lst (letV p q b))),("bare",.val (.str (tx N))),("spots",.val (.lst (zQ ((List.range 5).map s)))),("rows",.val (.lst (rows.map (rowV p q b)))),("lying",.val (.lst (wdV p q lying))),("grown",grown)]:List (Str×Slt)))
noncomputable def forR:List Stmt:=match (fdB 28).drop 18 with | .For _ _ b _ _ :: _=>b | _=>[]
noncomputable def forP:List Stmt:=match forR with | _ :: .For _ _ b _ _ :: _=>b | _=>[]
noncomputable def yYh:List Stmt:=match forP with | .For _ _ b _ _ :: _=>b | _=>[]
noncomputable def fgP:List Str:=fgL (match forR with | _ :: .For t _ _ _ _ :: _=>t | _=>default)
noncomputable def fgK:List Str:=fgL (match forP with | .For t _ _ _ _ :: _=>t | _=>default)
theorem zQw:("...":Str)=tx dots:=by decide +kernel
theorem lK (s:Nat→Nat) {x:Nat} (h:x < 5):(zQ ((List.range 5).map s))[x]?=some (.int (s x:Nat)):=zj (by rw [List.getElem?_map,List.getElem?_range h];rfl)
theorem oY (s:Nat→Nat):(zQ ((List.range 5).map s)).length=5:=by rw [zV,List.length_map,List.length_range]
theorem yYi (D:List Nat) (b:List Bool) (hb:b.length=5) (p q:Nat) (hpq:p < q) (hq:q≤122) (N:List Nat) (hNl:N.length≤10) (s g:Nat→Nat) (S:Signs N s g)
  (rows:List (List Nat)) (lying:List W) (gr:List (List Nat)) (hgr:gr.length≤1000) (n:Nat) (r:List Nat) (k:Nat) (hr:∀ x∈r,x < 5) (hr2:r.length≤2) (hk5:k < 5) (hp:r.Pairwise (· < ·)) (wy:Nat) (a1 a2:Bool) (kn Kb:SRho→Prop) (K:Kp)
  (hk:∀ ρ'',zK fgK ρ''=SRx D b p q N s rows lying (.own ((gr++if r.all (· < k) then [r++[k]] else []).map (rowV p q b))) [("size",.val (.int n)),("places",.val (.tup (zQ r))),("word",.val (.str (wd p q (xY b r))))]→kn ρ'') :
  xs cxL (fdSc 28) ["grown"] 76 (yYh.drop 2) (SRx D b p q N s rows lying (.own (gr.map (rowV p q b))) [("size",.val (.int n)),("places",.val (.tup (zQ r))),("word",.val (.str (wd p q (xY b r)))),("k",.val (.int k)),("row",.val (.tup (zQ (r++[k])))),("way",.val (.int wy)),("ahead",.val (.str (tx (if a1 then N.take (s ((r++[k]).headD 0)) else [])))),("after",.val (.str (tx (if a2 then N.drop (s k + 1) else []))))]) kn K Kb:=by
 have hell:=yX3 S hr hk5 hp a1 a2
 have hal:(if a1 then N.take (s ((r++[k]).headD 0)) else []) <+: N:=by
  cases a1 with
  | true=>exact List.take_prefix _ _
  | false=>exact List.nil_prefix
 have haf:(if a2 then N.drop (s k + 1) else []) <:+ N:=by
  cases a2 with
  | true=>exact List.drop_suffix _ _
  | false=>exact List.nil_suffix
 generalize (if a1 then N.take (s ((r++[k]).headD 0)) else [])=ah at *
 generalize (if a2 then N.drop (s k + 1) else [])=af at *
 have hahl:=hal.length_le
 have hafl:=haf.length_le
 have h5:∀ x∈r++[k],x < 5:=fun x hx=>by
  rcases List.mem_append.mp hx with hx | hx
  ·exact hr x hx
  ·rw [List.mem_singleton.mp hx];exact hk5
 have hrl:(r++[k]).length≤3:=by rw [List.length_append];show _ + 1≤_;lia
 have hdot:∀ P∈ah :: ((r++[k]).map (fun x=>[g x])++[af]),46 ∉ P:=fun P hP h46=>by
  rcases List.mem_cons.mp hP with rfl | hP
  ·exact S.nodot (hal.subset h46)
  rcases List.mem_append.mp hP with hP | hP
  ·apply bc;intro hQ;rcases List.mem_map.mp hP with ⟨x,hx,rfl⟩;refine hQ ?_;clear hQ
   have:=S.at_ x (h5 x hx)
   rw [← List.mem_singleton.mp h46] at this
   exact S.nodot (List.mem_of_getElem? this)
  ·rw [List.mem_singleton.mp hP] at h46
   exact S.nodot (haf.subset h46)
 have hsp:=zXx (ps:=ah :: ((r++[k]).map (fun x=>[g x])++[af])) (by simp) hdot
 have hjd:=zVn (ah :: ((r++[k]).map (fun x=>[g x])++[af]))
 conv=>whnf
 refine ⟨Nat.le_of_ble_eq_true rfl,?_⟩
 conv=>whnf
 refine no_implicit_lambda% (zy (fun (d:Nat)=>V.int d) (fun x=>V.str (tx [g x])) (r++[k]) _ _ (by rw [sizeLine_eq];show 0 + _≤_;lia) (fun x hx acc K' hacc k'=>?_) ?_)
 ·have hx5:=h5 x hx
  have hlt:=S.lt hx5
  conv=>whnf
  refine ⟨nlo _,nhi (Nat.lt_trans hx5 (by decide)),x,_,by rw [oY];exact seqN hx5,lK s hx5,?_⟩
  conv=>whnf
  refine ⟨by unfold fitsSsize;simp;lia,by lia,by rw [zJ];lia,?_⟩
  have hit:Txt.item (tx N) ((s x:Nat):Int)=tx [g x]:=by
   rw [zQh hlt]
   have:=S.at_ x hx5
   rw [List.getElem?_eq_getElem hlt] at this
   rw [Option.some.inj this]
  rw [hit]
  exact ⟨hacc,k'⟩
 rw [List.nil_append]
 have hpl:∀ l:List Nat,l.length≤3→(l.map fun x=>V.str (tx [g x])).length≤3:=fun l h=>by rw [List.length_map];exact h
 have hl3:=hpl _ hrl
 have emid:(r++[k]).map (fun x=>V.str (tx [g x]))=((r++[k]).map fun x=>[g x]).map (fun m=>V.str (tx m)):=by rw [List.map_map];rfl
 conv=>whnf
 refine ⟨by rw [sizeLine_eq];show 1 + _≤_;lia,?_⟩
 conv=>whnf
 refine ⟨Nat.le_of_ble_eq_true rfl,?_⟩
 conv=>whnf
 refine ⟨by rw [List.length_append,sizeLine_eq];show 1 + _ + 1≤_;lia,?_⟩
 have eys:[V.str (tx ah)]++(r++[k]).map (fun x=>V.str (tx [g x]))++[V.str (tx af)]=((ah :: ((r++[k]).map (fun x=>[g x])++[af])).map tx).map V.str:=by
  rw [emid];simp
 rw [eys]
 conv=>whnf
 have hpc:∀ P∈ah :: ((r++[k]).map (fun x=>[g x])++[af]),P.length≤10:=fun P hP=>by
  rcases List.mem_cons.mp hP with rfl | hP
  ·lia
  rcases List.mem_append.mp hP with hP | hP
  ·apply bc;intro hQ;rcases List.mem_map.mp hP with ⟨x,hx,rfl⟩;refine hQ ?_;clear hQ;exact (by decide:(1:Nat)≤10)
  ·rw [List.mem_singleton.mp hP];lia
 have hpn:(ah :: ((r++[k]).map (fun x=>[g x])++[af])).length≤5:=by
  rw [List.length_cons,List.length_append,List.length_map];show _ + 1 + 1≤_;lia
 have hjl:(wQ (ah :: ((r++[k]).map (fun x=>[g x])++[af]))).length≤100:=by
  have:∀ ps:List (List Nat),(∀ P∈ps,P.length≤10)→(wQ ps).length≤ps.length * 13:=fun ps=>by
   induction ps with
   | nil=>intro _;exact Nat.le_refl _
   | cons p r ih =>
    intro h
    have h1:=h p List.mem_cons_self
    cases r with
    | nil=>show p.length≤_;rw [List.length_cons];lia
    | cons q r =>
     have h2:=ih fun x hx=>h x (List.mem_cons_of_mem _ hx)
     show (p++(dots++wQ (q :: r))).length≤_
     rw [List.length_append,List.length_append,List.length_cons]
     have:dots.length=3:=rfl
     lia
  have:=this _ hpc
  lia
 refine ⟨_,rfl,yQ4 _ _ (by decide +kernel) (by rw [List.length_map];lia) (fun t ht=>by
  apply bc;intro hQ;rcases List.mem_map.mp ht with ⟨P,hP,rfl⟩;refine hQ ?_;clear hQ
  have:=hpc P hP
  rw [zJ];lia),?_⟩
 rw [show Txt.join (Str.ofString "...")=Txt.join (tx dots) from congrArg Txt.join zQw,hjd]
 generalize hwant:wQ (ah :: ((r++[k]).map (fun x=>[g x])++[af]))=want at *
 conv=>whnf
 refine ⟨tx want,tx N,tx ah,tx af,(r++[k]).map (fun x=>tx [g x]),rfl,by unfold fits;rw [zJ];lia,by unfold fits;rw [zJ];lia,by unfold fits;rw [zJ];lia,by unfold fits;rw [zJ];lia,by rw [List.length_map];lia,fun w hw=>?_,?_,?_,fun _=>zVo hal,fun _=>yX2 haf,?_⟩
 ·apply bc;intro hQ;rcases List.mem_map.mp hw with ⟨x,hx,rfl⟩;refine hQ ?_;clear hQ
  exact (by decide:(1:Nat)≤10000)
 ·rw [zQw];exact hsp.2
 ·rw [zQw,hsp.1,List.map_cons,List.map_append,List.map_map];rfl
 rw [hell]
 have hgl:(gr.map (rowV p q b)).length≤sizeLine:=by rw [List.length_map,sizeLine_eq];lia
 cases hc:r.all fun x=>decide (x < k) with
 | false =>
  rw [hc] at hk
  conv=>whnf
  refine ⟨rfl,rfl,?_⟩
  conv=>whnf
  refine ⟨rfl,rfl,?_⟩
  refine hk _ ?_
  rw [if_neg (by decide),List.append_nil]
  rfl
 | true =>
  rw [hc] at hk
  conv=>whnf
  refine ⟨rfl,rfl,?_⟩
  conv=>whnf
  have hlk:(letV p q b)[k]?=some (.str (wd p q [b.getD k false])):=by
   unfold letV
   rw [List.getElem?_map,List.getElem?_eq_getElem (by lia),List.getD_eq_getElem?_getD,List.getElem?_eq_getElem (by lia)];rfl
  have hll:(letV p q b).length=5:=by unfold letV;rw [List.length_map,hb]
  refine ⟨nlo _,nhi (Nat.lt_trans hk5 (by decide)),k,_,by rw [hll];exact seqN hk5,hlk,?_⟩
  conv=>whnf
  refine ⟨by rw [yq,yq,sizeLine_eq];unfold xY;rw [List.length_map];show _ + 1≤_;lia,?_⟩
  rw [cK]
  conv=>whnf
  refine ⟨Nat.le_of_ble_eq_true rfl,?_⟩
  conv=>whnf
  refine ⟨hgl,?_⟩
  refine hk _ ?_
  rw [if_pos rfl,List.map_append]
  have:xY b r++[b.getD k false]=xY b (r++[k]):=by unfold xY;rw [List.map_append];rfl
  rw [this]
  rfl
theorem xZz (D:List Nat) (d2:Nat) (hd2:D[2]?=some d2) (hD:D.length=6) (b:List Bool) (hb:b.length=5) (p q:Nat) (hpq:p < q) (hq:q≤122) (N:List Nat) (hNl:N.length≤10) (s g:Nat→Nat) (S:Signs N s g)
  (rows:List (List Nat)) (lying:List W) (gr:List (List Nat)) (hgr:gr.length≤1000) (n:Nat) (r:List Nat) (k:Nat) (hr:∀ x∈r,x < 5) (hr2:r.length≤2) (hk5:k < 5) (hp:r.Pairwise (· < ·)) (kn Kb:SRho→Prop) (K:Kp)
  (hk:∀ ρ'',zK fgK ρ''=SRx D b p q N s rows lying (.own ((gr++if r.all (· < k) then [r++[k]] else []).map (rowV p q b))) [("size",.val (.int n)),("places",.val (.tup (zQ r))),("word",.val (.str (wd p q (xY b r))))]→kn ρ'') :
  xs cxL (fdSc 28) ["grown"] 78 yYh (SRx D b p q N s rows lying (.own (gr.map (rowV p q b))) [("size",.val (.int n)),("places",.val (.tup (zQ r))),("word",.val (.str (wd p q (xY b r)))),("k",.val (.int k))]) kn K Kb:=by
 have ix2:seqIndex? 2 (zQ D).length=some 2:=by rw [zV,hD];rfl
 have fin:=fun wy a1 a2=>yYi D b hb p q hpq hq N hNl s g S rows lying gr hgr n r k hr hr2 hk5 hp wy a1 a2 kn Kb K hk
 refine yQ5 (by kernel_rfl) (by kernel_rfl) (by kernel_rfl) (by kernel_rfl) (by kernel_rfl) ?_
 conv=>whnf
 refine ⟨Nat.le_of_ble_eq_true rfl,?_⟩
 conv=>whnf
 refine ⟨by rw [zV,sizeLine_eq];show _ + 1≤_;lia,?_⟩
 rw [show zQ r++[V.int k]=zQ (r++[k]) from bY r [k]]
 conv=>whnf
 refine ⟨by decide,by decide,2,_,ix2,zj hd2,?_⟩
 conv=>whnf
 refine ⟨by decide,pyl _ 48 (by decide),?_⟩
 conv=>whnf
 refine ⟨by decide,?_⟩
 have hwy:Int.fmod (Int.fdiv (d2:Int) 48 + k) 4=(((d2 / 48 + k) % 4:Nat):Int):=by
  rw [Int.fdiv_eq_ediv_of_nonneg _ (by decide),Int.fmod_eq_emod_of_nonneg _ (by decide)];norm_cast
 rw [hwy]
 generalize (d2 / 48 + k) % 4=wy
 conv=>whnf
 refine ⟨Nat.le_of_ble_eq_true rfl,?_⟩
 refine nz (ρ':=SRx D b p q N s rows lying (.own (gr.map (rowV p q b))) [("size",.val (.int n)),("places",.val (.tup (zQ r))),("word",.val (.str (wd p q (xY b r)))),("k",.val (.int k)),("row",.val (.tup (zQ (r++[k])))),("way",.val (.int wy))]) (by kernel_rfl) ?_
 refine yQ5 (by kernel_rfl) (by kernel_rfl) (by kernel_rfl) (by kernel_rfl) (by kernel_rfl) ?_
 have hh5:(r++[k]).headD 0 < 5:=by
  cases r with
  | nil=>exact hk5
  | cons x r=>exact hr x List.mem_cons_self
 have hget0:(zQ (r++[k]))[0]?=some (.int ((r++[k]).headD 0:Nat)):=zj (by cases r <;> rfl)
 have hlen0:seqIndex? 0 (zQ (r++[k])).length=some 0:=by rw [zV,List.length_append];exact PyProof.Rows.seqIndex?_zero (Nat.succ_pos _)
 conv=>whnf
 cases (Builtin.bitAnd (wy:Int) 1 != 0) with
 | true =>
  conv=>whnf
  refine ⟨by decide,by decide,0,_,hlen0,hget0,?_⟩
  conv=>whnf
  refine ⟨nlo _,nhi (Nat.lt_trans hh5 (by decide)),_,_,by rw [oY];exact seqN hh5,lK s hh5,?_⟩
  conv=>whnf
  refine ⟨by rw [zJ,sizeLine_eq];lia,?_⟩
  rw [zZh]
  conv=>whnf
  cases (Builtin.bitAnd (wy:Int) 2 != 0) with
  | true =>
   conv=>whnf
   refine ⟨nlo _,nhi (Nat.lt_trans hk5 (by decide)),_,_,by rw [oY];exact seqN hk5,lK s hk5,?_⟩
   conv=>whnf
   refine ⟨by rw [zJ,sizeLine_eq];lia,?_⟩
   rw [show ((s k:Nat):Int) + 1=((s k + 1:Nat):Int) by lia,oy]
   conv=>whnf
   refine ⟨Nat.le_of_ble_eq_true rfl,?_⟩
   exact no_implicit_lambda% (nz (by kernel_rfl) (fin wy true true))
  | false =>
   conv=>whnf
   refine ⟨Nat.le_of_ble_eq_true rfl,?_⟩
   exact no_implicit_lambda% (nz (by kernel_rfl) (fin wy true false))
 | false =>
  conv=>whnf
  cases (Builtin.bitAnd (wy:Int) 2 != 0) with
  | true =>
   conv=>whnf
   refine ⟨nlo _,nhi (Nat.lt_trans hk5 (by decide)),_,_,by rw [oY];exact seqN hk5,lK s hk5,?_⟩
   conv=>whnf
   refine ⟨by rw [zJ,sizeLine_eq];lia,?_⟩
   rw [show ((s k:Nat):Int) + 1=((s k + 1:Nat):Int) by lia,oy]
   conv=>whnf
   refine ⟨Nat.le_of_ble_eq_true rfl,?_⟩
   exact no_implicit_lambda% (nz (by kernel_rfl) (fin wy false true))
  | false =>
   conv=>whnf
   refine ⟨Nat.le_of_ble_eq_true rfl,?_⟩
   exact no_implicit_lambda% (nz (by kernel_rfl) (fin wy false false))
theorem zVp {c:Cx} {sc:Scope} {ow:List Str} {n:Nat} {ρ:SRho} {Kn Kb:SRho→Prop} {Kr:V→Prop} (h:Kn ρ):xs c sc ow (n + 1) [] ρ Kn Kr Kb:=h
theorem yX5 {c:Cx} {sc:Scope} {ow vs:List Str} {n k:Nat} {ts:List Expr} {p pos:Pos} {e:Expr} {ss:List Stmt} {ρ:SRho} {Kn Kb:SRho→Prop} {Kr:V→Prop}
  (h0:c.sx (.Assign [.Tuple ts k p] e pos)=none) (h1:c.fs (.Assign [.Tuple ts k p] e pos)=[]) (h2:((vY ts).any fun xs=>xs.any ow.contains)=false) (h3:(kX sc ts e).isSome=true) (h4:(owns ρ).filter (fun y=>men 40 y e)=vs)
  (h:ew c sc n e (xy vs ρ) fun X=>yX4 (tK sc (.Tuple ts k p) X (freeze vs ρ)) fun ρ'=>xs c sc ow n ss ρ' Kn Kr Kb):xs c sc ow (n + 1) (.Assign [.Tuple ts k p] e pos :: ss) ρ Kn Kr Kb:=by
 show xsC c sc ow n (xs c sc ow n) _ ss Kn Kr Kb (forgetQ (c.fs _) ρ)
 unfold xsC
 rw [h0,h1]
 obtain ⟨r,hr⟩:=Option.isSome_iff_exists.mp h3
 show onS (kX sc ts e) _
 rw [hr]
 show onB ((vY ts).any _) _ (ew c sc n e (xy ((owns ρ).filter fun y=>men 40 y e) ρ) fun X=>onS (tK sc (.Tuple ts k p) X (freeze ((owns ρ).filter fun y=>men 40 y e) ρ)) _)
 rw [h2,h4]
 exact h
noncomputable def cand (n:Nat) (r:List Nat):List Nat:=(List.range 5).filter fun q=>n == 1 || !r.contains q
noncomputable def extR (r:List Nat):List (List Nat):=((List.range 5).filter fun k=>r.all (· < k)).map fun k=>r++[k]
theorem zY5 (n:Nat) (r:List Nat):((cand n r).filter fun k=>r.all (· < k)).map (fun k=>r++[k])=extR r:=by
 unfold cand extR
 rw [List.filter_filter]
 congr 1
 refine List.filter_congr fun k _=>?_
 cases h:r.all (· < k) with
 | false=>simp
 | true =>
  have:r.contains k=false:=by
   rw [← Bool.not_eq_true,List.contains_iff_mem]
   intro hm
   have:=List.all_eq_true.mp h k hm
   rw [decide_eq_true_eq] at this
   lia
  rw [this];simp
theorem zQx (q:Nat):∀ r:List Nat,((toPL (zQ r)).any fun y=>y.eqv (toP (.int (q:Int))))=r.contains q
 | []=>rfl
 | x :: r=>by
  have ih:=zQx q r
  unfold zQ at ih ⊢
  rw [List.map_cons]
  unfold toPL
  rw [List.any_cons,ih,List.contains_cons]
  congr 1
  show ((PyData.int (x:Int)).eqv (.int (q:Int)))=(q == x)
  unfold PyData.eqv
  rw [Bool.eq_iff_iff,beq_iff_eq,beq_iff_eq];lia
section
variable (D:List Nat) (d2:Nat) (hd2:D[2]?=some d2) (hD:D.length=6) (b:List Bool) (hb:b.length=5) (p q:Nat) (hpq:p < q) (hq:q≤122) (N:List Nat) (hNl:N.length≤10) (s g:Nat→Nat) (S:Signs N s g)
include hd2 hD hb hpq hq hNl S
theorem xZ0 (rows:List (List Nat)) (lying:List W) (gr:List (List Nat)) (hgr:gr.length≤900) (n:Nat) (r:List Nat) (hr:∀ x∈r,x < 5) (hr2:r.length≤2) (hp:r.Pairwise (· < ·)) (kn Kb:SRho→Prop) (K:Kp)
  (hk:∀ ρ'',zK fgP ρ''=SRx D b p q N s rows lying (.own ((gr++extR r).map (rowV p q b))) [("size",.val (.int n))]→kn ρ'') :
  xs cxL (fdSc 28) ["grown"] 79 forP (SRx D b p q N s rows lying (.own (gr.map (rowV p q b))) [("size",.val (.int n)),("places",.val (.tup (zQ r))),("word",.val (.str (wd p q (xY b r))))]) kn K Kb:=by
 conv=>whnf
 refine ⟨by decide,?_⟩
 conv=>whnf
 refine ⟨by decide,?_⟩
 rw [show (5:Int)=((5:Nat):Int) from rfl,tv]
 refine no_implicit_lambda% (ww (fun (d:Nat)=>V.int d) (fun x=>if n == 1 || !r.contains x then [V.int (x:Nat)] else []) (List.range 5) _ _ ?_ (fun x hx acc K' hacc k'=>?_) ?_)
 ·exact Nat.le_trans (Nat.add_le_add_left (uq _ 1 _ fun x _=>by split <;> simp) _) (by decide)
 ·conv=>whnf
  rw [Bool.false_bne,show ((n:Int) == 1)=(n == 1) by rw [Bool.eq_iff_iff,beq_iff_eq,beq_iff_eq];lia]
  cases hn:(n == 1) with
  | true =>
   rw [hn] at k' hacc
   conv=>whnf
   exact ⟨by simp at hacc;lia,k'⟩
  | false =>
   rw [hn] at k' hacc
   conv=>whnf
   refine ⟨xJ rfl,nW (xW _),?_⟩
   rw [zQx]
   conv=>whnf
   rw [show (true != r.contains x)=!r.contains x by cases r.contains x <;> rfl]
   rw [Bool.false_or] at k' hacc
   cases hc:(!r.contains x) with
   | true =>
    rw [hc] at k' hacc
    conv=>whnf
    exact ⟨by simp at hacc;lia,k'⟩
   | false =>
    rw [hc] at k'
    conv=>whnf
    simpa using k'
 have hcand:([]:List V)++(List.range 5).flatMap (fun x=>if n == 1 || !r.contains x then [V.int (x:Nat)] else [])=zQ (cand n r):=by
  rw [List.nil_append]
  have:∀ l:List Nat,l.flatMap (fun x=>if n == 1 || !r.contains x then [V.int (x:Nat)] else [])=zQ (l.filter fun x=>n == 1 || !r.contains x):=fun l=>by
   induction l with
   | nil=>rfl
   | cons a l ih=>rw [List.flatMap_cons,ih,List.filter_cons];split <;> rfl
  exact this _
 rw [hcand]
 have hce:=zY5 n r
 have hc5:∀ x∈cand n r,x < 5:=fun x hx=>List.mem_range.mp (List.mem_filter.mp hx).1
 have hcl:(cand n r).length≤5:=Nat.le_trans (List.length_filter_le _ _) (by simp)
 generalize cand n r=C at *
 conv=>whnf
 refine no_implicit_lambda% (yk (fun rest ρ=>∃ a c,C=a++c∧rest=zQ c∧zK fgK ρ=SRx D b p q N s rows lying (.own ((gr++(a.filter fun k=>r.all (· < k)).map (fun k=>r++[k])).map (rowV p q b))) [("size",.val (.int n)),("places",.val (.tup (zQ r))),("word",.val (.str (wd p q (xY b r))))]) (fun ρ hI=>?_) (fun X Xs ρ hI=>?_) _ _ ?_)
 ·apply bc;intro hQ;rcases hI with ⟨a,c,e1,e2,e3⟩;refine hQ ?_;clear hQ
  have:c=[]:=List.map_eq_nil_iff.mp e2.symm
  subst this
  rw [List.append_nil] at e1
  subst e1
  show kn (zK fgK ρ)
  rw [e3,hce]
  exact hk _ (by kernel_rfl)
 ·apply bc;intro hQ;rcases hI with ⟨a,c,e1,e2,e3⟩;refine hQ ?_;clear hQ
  cases c with
  | nil=>contradiction
  | cons x c =>
   unfold zQ at e2
   rw [List.map_cons,List.cons.injEq] at e2
   apply bc;intro hQ;rcases e2 with ⟨rfl,rfl⟩;refine hQ ?_;clear hQ
   refine ⟨SRx D b p q N s rows lying (.own ((gr++(a.filter fun k=>r.all (· < k)).map (fun k=>r++[k])).map (rowV p q b))) [("size",.val (.int n)),("places",.val (.tup (zQ r))),("word",.val (.str (wd p q (xY b r)))),("k",.val (.int x))],?_,fun kn' hk'=>?_⟩
   ·show tK (fdSc 28) _ _ (zK fgK ρ)=_
    rw [e3];kernel_rfl
   ·have hal:a.length≤5:=by rw [e1,List.length_append] at hcl;lia
    refine xZz D d2 hd2 hD b hb p q hpq hq N hNl s g S rows lying _ ?_ n r x hr hr2 (hc5 x (by rw [e1];simp)) hp kn' _ K fun ρ'' h=>?_
    ·rw [List.length_append,List.length_map]
     have:=List.length_filter_le (fun k=>r.all (· < k)) a
     lia
    ·refine hk' _ ⟨a++[x],c,by rw [e1];simp,rfl,?_⟩
     have e5:gr++((a++[x]).filter fun k=>r.all (· < k)).map (fun k=>r++[k])=(gr++(a.filter fun k=>r.all (· < k)).map fun k=>r++[k])++(if (r.all fun y=>decide (y < x))=true then [r++[x]] else []):=by
      rw [List.filter_append,List.map_append,List.append_assoc,List.filter_cons]
      cases r.all (· < x) <;> rfl
     rw [h,e5]
 ·exact ⟨[],C,rfl,rfl,by rw [List.filter_nil,List.map_nil,List.append_nil];kernel_rfl⟩
end
noncomputable def lyN (b:List Bool) (n:Nat):List W:=(List.range n).flatMap fun i=>(xK (i + 1)).map (xY b)
theorem lyN3 (b:List Bool):lyN b 3=mJ b:=by
 unfold lyN mJ
 show ([0,1,2]:List Nat).flatMap _=_
 simp
theorem yYj:((List.range 3).all fun n=>(xK n).length≤10 && (xK n).all fun r=>r.all (· < 5) && decide (r.length≤2) && decide (r.Pairwise (· < ·)))=true:=by decide +kernel
theorem segR (D:List Nat) (d2 d4 d5:Nat) (hd2:D[2]?=some d2) (hd4:D[4]?=some d4) (hd5:D[5]?=some d5) (hD:D.length=6) (b:List Bool) (hb:b.length=5) (p q:Nat) (hpq:p < q) (hq:q≤122) (N:List Nat) (hNl:N.length≤10) (s g:Nat→Nat) (S:Signs N s g) (K:Kp) (k:K (.bool true)) :
  xs cxL (fdSc 28) ["grown"] 83 ((fdB 28).drop 17) (st0 [("draws",.lst (zQ D)),("pair",.lst [.str (wd p q [false]),.str (wd p q [true])]),("letters",.lst (letV p q b)),("bare",.str (tx N)),("spots",.lst (zQ ((List.range 5).map s)))]) (fun _=>K .none) K (fun _=>False):=by
 conv=>whnf
 refine ⟨Nat.le_of_ble_eq_true rfl,?_⟩
 conv=>whnf
 refine ⟨Nat.le_of_ble_eq_true rfl,?_⟩
 conv=>whnf
 refine ⟨Nat.le_of_ble_eq_true rfl,?_⟩
 conv=>whnf
 refine ⟨Nat.le_of_ble_eq_true rfl,?_⟩
 conv=>whnf
 refine ⟨Nat.le_of_ble_eq_true rfl,?_⟩
 refine no_implicit_lambda% (uJ (ss:=(fdB 28).drop 18) (ρ':=SRx D b p q N s (xK 0) (lyN b 0) .un []) (by rfl) ?_)
 conv=>whnf
 refine ⟨by decide,by decide,?_⟩
 refine no_implicit_lambda% (yk (fun rest ρ=>∃ n,n + rest.length=3∧rest=(List.range' n rest.length).map (fun (j:Nat)=>V.int j)∧zK fgZ ρ=SRx D b p q N s (xK n) (lyN b n) .un []) (fun ρ hI=>?_) (fun X Xs ρ hI=>?_) _ _ ?_)
 ·apply bc;intro hQ;rcases hI with ⟨n,e1,e2,e3⟩;refine hQ ?_;clear hQ
  have:n=3:=e1
  subst this
  show xs cxL (fdSc 28) ["grown"] 81 [] (zK fgZ ρ) _ K _
  rw [e3,lyN3]
  refine zVp ?_
  refine no_implicit_lambda% (uJ (ss:=(fdB 28).drop 19) (ρ':=st0 [("draws",.lst (zQ D)),("pair",.lst [.str (wd p q [false]),.str (wd p q [true])]),("letters",.lst (letV p q b)),("lying",.lst (wdV p q (mJ b)))]) (by rfl) ?_)
  exact segW D d4 d5 hd4 hd5 hD b hb p q hpq hq K k
 ·apply bc;intro hQ;rcases hI with ⟨n,e1,e2,e3⟩;refine hQ ?_;clear hQ
  rw [List.length_cons] at e1 e2
  rw [List.range'_succ,List.map_cons,List.cons.injEq] at e2
  apply bc;intro hQ;rcases e2 with ⟨rfl,e2⟩;refine hQ ?_;clear hQ
  have hn3:n < 3:=by lia
  have hro:=List.all_eq_true.mp yYj n (List.mem_range.mpr hn3)
  rw [Bool.and_eq_true,decide_eq_true_eq] at hro
  obtain ⟨hro1,hro2⟩:=hro
  refine ⟨SRx D b p q N s (xK n) (lyN b n) .un [("size",.val (.int n))],?_,fun kn hk=>?_⟩
  ·show tK (fdSc 28) _ _ (zK fgZ ρ)=_
   rw [e3];kernel_rfl
  have hlyl:(lyN b n).length≤100:=by
   have:∀ n:Fin 3,((List.range n.val).flatMap fun i=>xK (i + 1)).length≤100:=by decide +kernel
   have h1:=this ⟨n,hn3⟩
   have:(lyN b n).length=((List.range n).flatMap fun i=>xK (i + 1)).length:=by
    unfold lyN
    rw [List.length_flatMap,List.length_flatMap]
    congr 1
    exact List.map_congr_left fun i _=>by rw [List.length_map]
   rw [this];exact h1
  have hG:xK (n + 1)=(xK n).flatMap extR:=rfl
  have hly:lyN b (n + 1)=lyN b n++(xK (n + 1)).map (xY b):=by
   unfold lyN;rw [List.range_succ,List.flatMap_append];simp
  have hRl:∀ a:List (List Nat),a.length≤10→(a.flatMap extR).length≤50:=fun a ha=>Nat.le_trans (uq _ 5 a fun r _=>by
   unfold extR
   rw [List.length_map]
   exact Nat.le_trans (List.length_filter_le _ _) (by simp)) (by lia)
  generalize hR:xK n=R at *
  generalize xK (n + 1)=R' at *
  conv=>whnf
  refine ⟨Nat.le_of_ble_eq_true rfl,?_⟩
  refine no_implicit_lambda% (uJ (ss:=forR.drop 1) (ρ':=SRx D b p q N s R (lyN b n) (.own (([]:List (List Nat)).map (rowV p q b))) [("size",.val (.int n))]) (by rfl) ?_)
  conv=>whnf
  refine no_implicit_lambda% (yk (fun rest ρ=>∃ a c,R=a++c∧rest=c.map (rowV p q b)∧zK fgP ρ=SRx D b p q N s R (lyN b n) (.own ((a.flatMap extR).map (rowV p q b))) [("size",.val (.int n))]) (fun ρ hI=>?_) (fun X Xs ρ hI=>?_) _ _ ?_)
  ·apply bc;intro hQ;rcases hI with ⟨a,c,g1,g2,g3⟩;refine hQ ?_;clear hQ
   have:c=[]:=List.map_eq_nil_iff.mp g2.symm
   subst this
   rw [List.append_nil] at g1
   subst g1
   refine zVp (ρ:=zK fgP ρ) ?_
   rw [g3,← hG]
   show xs cxL (fdSc 28) ["grown"] 79 (forR.drop 2) (SRx D b p q N s R (lyN b n) (.own (R'.map (rowV p q b))) [("size",.val (.int n))]) kn K _
   have hR'l:R'.length≤50:=by rw [hG];exact hRl R hro1
   refine yX5 (vs:=["grown"]) (by kernel_rfl) (by kernel_rfl) (by kernel_rfl) (by kernel_rfl) (by kernel_rfl) ?_
   conv=>whnf
   refine no_implicit_lambda% (zy (rowV p q b) (fun r=>V.str (wd p q (xY b r))) R' _ _ (by rw [sizeLine_eq];show 0 + _≤_;lia) (fun r hr acc K' hacc k'=>?_) ?_)
   ·conv=>whnf
    exact ⟨hacc,k'⟩
   rw [List.nil_append,show R'.map (fun r=>V.str (wd p q (xY b r)))=wdV p q (R'.map (xY b)) by unfold wdV;rw [List.map_map];rfl]
   conv=>whnf
   refine ⟨by rw [vQ,vQ,List.length_map,sizeLine_eq];lia,?_⟩
   rw [zQt,← hly]
   conv=>whnf
   refine ⟨Nat.le_of_ble_eq_true rfl,?_⟩
   refine nz (ρ':=SRx D b p q N s R' (lyN b (n + 1)) (.val (.lst (R'.map (rowV p q b)))) [("size",.val (.int n))]) (by kernel_rfl) ?_
   exact hk _ ⟨n + 1,by lia,e2,by kernel_rfl⟩
  ·apply bc;intro hQ;rcases hI with ⟨a,c,g1,g2,g3⟩;refine hQ ?_;clear hQ
   cases c with
   | nil=>contradiction
   | cons r c =>
    rw [List.map_cons,List.cons.injEq] at g2
    apply bc;intro hQ;rcases g2 with ⟨rfl,rfl⟩;refine hQ ?_;clear hQ
    have hr:=List.all_eq_true.mp hro2 r (by rw [g1];simp)
    simp only [Bool.and_eq_true,decide_eq_true_eq,List.all_eq_true] at hr
    have hal:a.length≤10:=by rw [g1,List.length_append] at hro1;lia
    refine ⟨SRx D b p q N s R (lyN b n) (.own ((a.flatMap extR).map (rowV p q b))) [("size",.val (.int n)),("places",.val (.tup (zQ r))),("word",.val (.str (wd p q (xY b r))))],?_,fun kn' hk'=>?_⟩
    ·show tK (fdSc 28) _ _ (zK fgP ρ)=_
     rw [g3];kernel_rfl
    ·refine xZ0 D d2 hd2 hD b hb p q hpq hq N hNl s g S R (lyN b n) (a.flatMap extR) (by have:=hRl a hal;lia) n r hr.1.1 hr.1.2 hr.2 kn' _ K fun ρ'' h=>?_
     refine hk' _ ⟨a++[r],c,by rw [g1];simp,rfl,?_⟩
     rw [h,List.flatMap_append,List.flatMap_cons,List.flatMap_nil,List.append_nil]
  ·exact ⟨[],R,rfl,rfl,by kernel_rfl⟩
 ·exact ⟨0,rfl,rfl,by kernel_rfl⟩
end Mine
end
section
open PySem PySem.W PySem.Calls PyProof.Rows PySem.Builtin PySem.Builtin.Str PySem.StrLaws
namespace Mine
noncomputable def yw (f:Nat):Nat:=[97,65,119808,119860,119912,120016,120172,120224,120276,120328,120380,120432].getD f 0
theorem rq {c f:Nat} (hc:97≤c∧c≤122) (hf:f < 12):wq c f=yw f + (c - 97):=by
 have:∀ f:Fin 12,∀ c:Fin 26,wq (97 + c.val) f.val=yw f.val + c.val:=by decide +kernel
 have h:=this ⟨f,hf⟩ ⟨c - 97,z25 hc⟩
 dsimp only at h
 rw [← h]
 congr 1;exact (z97 hc).symm
theorem zXz {f f':Nat} (hf:f < 12) (hf':f' < 12) (h:f≠f'):yw f + 26≤yw f'∨yw f' + 26≤yw f:=by
 have:∀ f f':Fin 12,f.val=f'.val∨yw f.val + 26≤yw f'.val∨yw f'.val + 26≤yw f.val:=by decide +kernel
 exact (this ⟨f,hf⟩ ⟨f',hf'⟩).resolve_left h
theorem zVq {f:Nat} (hf:f < 12):(65≤yw f∧yw f≤97∧(yw f=65∨yw f=97))∨(119808≤yw f∧yw f≤120432):=by
 have:∀ f:Fin 12,(65≤yw f.val∧yw f.val≤97∧(yw f.val=65∨yw f.val=97))∨(119808≤yw f.val∧yw f.val≤120432):=by decide +kernel
 exact this ⟨f,hf⟩
theorem jy {c f:Nat} (hc:97≤c∧c≤122) (hf:f < 12):(65≤wq c f∧wq c f≤122)∨(119808≤wq c f∧wq c f < 120458):=by
 rw [rq hc hf]
 have hd:c - 97≤25:=Nat.sub_le_sub_right hc.2 97
 exact (zVq hf).imp (fun h=>⟨Nat.le_trans h.1 (Nat.le_add_right _ _),Nat.add_le_add h.2.1 hd⟩) fun h=>⟨Nat.le_trans h.1 (Nat.le_add_right _ _),Nat.lt_succ_of_le (Nat.add_le_add h.2 hd)⟩
theorem qy:∀ x∈b1N,122 < x∧x < 119808:=by decide +kernel
theorem bk {N k x:Nat} (h:x∈xZ N k):x∈b1N:=by
 unfold xZ at h
 split at h
 ·rw [List.mem_singleton.mp h]
  have:∀ j:Fin 27,b1N.getD j.val 0∈b1N:=by decide +kernel
  exact this ⟨_,Nat.mod_lt _ (by decide)⟩
 ·contradiction
theorem zX0 (P:Nat) {i j:Nat} (hi:i < 5) (hj:j < 5) (h:i≠j):rJ P i≠rJ P j:=by
 have:∀ r:Fin 12,∀ t:Fin 4,∀ i j:Fin 5,i.val=j.val∨(r.val + [1,5,7,11].getD t.val 0 * i.val) % 12≠(r.val + [1,5,7,11].getD t.val 0 * j.val) % 12:=by decide +kernel
 have h1:=(this ⟨P % 12,Nat.mod_lt _ (by decide)⟩ ⟨P / 12 % 4,Nat.mod_lt _ (by decide)⟩ ⟨i,hi⟩ ⟨j,hj⟩).resolve_left h
 dsimp only at h1
 unfold rJ jJ
 intro e
 apply h1
 rw [Nat.add_mod,Nat.mod_mod,← Nat.add_mod,e,Nat.add_mod,← Nat.mod_mod,← Nat.add_mod]
 rw [Nat.mod_mod,Nat.add_mod (P % 12),Nat.mod_mod,← Nat.add_mod]
section
variable (cs:List Nat) (P N:Nat)
noncomputable def gOf (k:Nat):Nat:=wq (cs.getD k 0) (rJ P k)
noncomputable def sOf (k:Nat):Nat:=(yx cs P N k).length + (xZ N k).length
theorem rz (P k:Nat):rJ P k < 12:=Nat.mod_lt _ (by decide)
theorem iQ (k:Nat):yx cs P N (k + 1)=yx cs P N k++xZ N k++[gOf cs P k]:=rfl
theorem nx:∀ (k i:Nat),i < k→(yx cs P N k)[sOf cs P N i]?=some (gOf cs P i)∧sOf cs P N i < (yx cs P N k).length
 | 0,i,h=>absurd h (Nat.not_lt_zero _)
 | k + 1,i,h=>by
  rcases Nat.lt_succ_iff_lt_or_eq.mp h with h | rfl
  ·obtain ⟨h1,h2⟩:=nx k i h
   rw [iQ,List.append_assoc]
   exact ⟨by rw [List.getElem?_append_left h2];exact h1,by rw [List.length_append];lia⟩
  ·rw [iQ]
   have hl:(yx cs P N i++xZ N i).length=sOf cs P N i:=by rw [List.length_append];rfl
   exact ⟨by rw [List.getElem?_append_right (by rw [hl];exact Nat.le_refl _),hl,Nat.sub_self];rfl,by rw [List.length_append,hl];exact Nat.lt_succ_self _⟩
theorem yQ6 {i j:Nat} (h:i < j):sOf cs P N i < sOf cs P N j:=by
 have h1:=(nx cs P N j i h).2
 unfold sOf at h1 ⊢
 lia
theorem rx:∀ (k j x:Nat),(yx cs P N k)[j]?=some x→(∃ i,i < k∧j=sOf cs P N i∧x=gOf cs P i)∨(x∈b1N∧∀ i,i < k→j≠sOf cs P N i)
 | 0,j,x,h=>by simp [yx] at h
 | k + 1,j,x,h=>by
  rw [iQ] at h
  have hl:(yx cs P N k++xZ N k).length=sOf cs P N k:=by rw [List.length_append];rfl
  rcases Nat.lt_trichotomy j (sOf cs P N k) with hj | hj | hj
  ·rw [List.getElem?_append_left (by rw [hl];exact hj)] at h
   rcases Nat.lt_or_ge j (yx cs P N k).length with h1 | h1
   ·rw [List.getElem?_append_left h1] at h
    rcases rx k j x h with ⟨i,a,b,c⟩ | ⟨a,b⟩
    ·exact .inl ⟨i,by lia,b,c⟩
    ·refine .inr ⟨a,fun i hi=>?_⟩
     rcases Nat.lt_succ_iff_lt_or_eq.mp hi with hi | rfl
     ·exact b i hi
     ·lia
   ·rw [List.getElem?_append_right h1] at h
    refine .inr ⟨bk (List.mem_of_getElem? h),fun i hi=>?_⟩
    rcases Nat.lt_succ_iff_lt_or_eq.mp hi with hi | rfl
    ·have:=(nx cs P N k i hi).2;lia
    ·lia
  ·refine .inl ⟨k,Nat.lt_succ_self k,hj,?_⟩
   rw [List.getElem?_append_right (by rw [hl];lia),hl,hj,Nat.sub_self] at h
   exact (Option.some.inj h).symm
  ·rw [List.getElem?_append_right (by rw [hl];lia),hl] at h
   have:[gOf cs P k][j - sOf cs P N k]?=none:=by
    rw [List.getElem?_eq_none]
    show 1≤_;lia
   rw [this] at h;contradiction
section
variable (hl:cs.length=5) (hc:∀ c∈cs,97≤c∧c≤122)
include hl hc
theorem zX1 {i:Nat} (hi:i < 5):97≤cs.getD i 0∧cs.getD i 0≤122:=by
 rw [List.getD_eq_getElem?_getD,List.getElem?_eq_getElem (by lia)]
 exact hc _ (List.getElem_mem _)
theorem xZ1 {i j:Nat} (hi:i < 5) (hj:j < 5) (h:gOf cs P i=gOf cs P j):i=j:=by
 refine Classical.byContradiction fun hne=>?_
 have h1:=zX1 cs hl hc hi
 have h2:=zX1 cs hl hc hj
 have h3:=zXz (rz P i) (rz P j) (zX0 P hi hj hne)
 unfold gOf at h
 rw [rq h1 (rz P i),rq h2 (rz P j)] at h
 have d1:cs.getD i 0 - 97 < 26:=Nat.lt_succ_of_le (Nat.sub_le_sub_right h1.2 97)
 have d2:cs.getD j 0 - 97 < 26:=Nat.lt_succ_of_le (Nat.sub_le_sub_right h2.2 97)
 exact h3.elim (fun h3=>Nat.ne_of_lt (Nat.lt_of_lt_of_le (Nat.add_lt_add_left d1 _) (Nat.le_trans h3 (Nat.le_add_right _ _))) h) fun h3=>Nat.ne_of_lt (Nat.lt_of_lt_of_le (Nat.add_lt_add_left d2 _) (Nat.le_trans h3 (Nat.le_add_right _ _))) h.symm
theorem zZy {i:Nat} (hi:i < 5):gOf cs P i ∉ b1N:=fun h=>by
 have h1:=qy _ h
 have h2:=jy (zX1 cs hl hc hi) (rz P i)
 unfold gOf at h1
 lia
theorem zX2:Signs (yx cs P N 5) (sOf cs P N) (gOf cs P) where
 mono:=fun i j h _=>yQ6 cs P N h
 at_:=fun i h=>(nx cs P N 5 i h).1
 only:=fun i j hi h=>by
  rcases rx cs P N 5 j _ h with ⟨i',h1,h2,h3⟩ | ⟨h1,_⟩
  ·rw [xZ1 cs P hl hc hi h1 h3];exact h2
  ·exact absurd h1 (zZy cs P hl hc hi)
 nodot:=fun h=>by
  obtain ⟨j,hj⟩:=List.getElem?_of_mem h
  rcases rx cs P N 5 j _ hj with ⟨i,h1,_,h3⟩ | ⟨h1,_⟩
  ·have:=jy (zX1 cs hl hc h1) (rz P i)
   unfold gOf at h3
   lia
  ·have:=qy _ h1;lia
theorem bv {x:Nat} (h:x∈yx cs P N 5):65≤x∧x < 120458:=by
 obtain ⟨j,hj⟩:=List.getElem?_of_mem h
 rcases rx cs P N 5 j _ hj with ⟨i,h1,_,h3⟩ | ⟨h1,_⟩
 ·have:=jy (zX1 cs hl hc h1) (rz P i)
  unfold gOf at h3
  rw [h3]
  exact this.elim (fun h=>⟨h.1,Nat.lt_of_le_of_lt h.2 (by decide)⟩) fun h=>⟨Nat.le_trans (by decide) h.1,h.2⟩
 ·have:=qy _ h1;lia
theorem zVr:(List.range (yx cs P N 5).length).filter (fun j=>!b1N.contains ((yx cs P N 5).getD j 0))=(List.range 5).map (sOf cs P N):=by
 have hs:((List.range 5).map (sOf cs P N)).Pairwise (· < ·):=by
  rw [List.pairwise_map]
  exact List.pairwise_lt_range.imp fun h=>yQ6 cs P N h
 have hlt:∀ x∈(List.range 5).map (sOf cs P N),x < (yx cs P N 5).length:=fun x hx=>by
  apply bc;intro hQ;rcases List.mem_map.mp hx with ⟨i,hi,rfl⟩;refine hQ ?_;clear hQ
  exact (nx cs P N 5 i (List.mem_range.mp hi)).2
 rw [← nY _ _ hs hlt]
 refine List.filter_congr fun j hj=>?_
 rw [List.mem_range] at hj
 have hg:(yx cs P N 5)[j]?=some ((yx cs P N 5).getD j 0):=by
  rw [List.getD_eq_getElem?_getD,List.getElem?_eq_getElem hj];rfl
 rcases rx cs P N 5 j _ hg with ⟨i,h1,h2,h3⟩ | ⟨h1,h2⟩
 ·rw [h3]
  have:b1N.contains (gOf cs P i)=false:=by
   rw [← Bool.not_eq_true,List.contains_iff_mem]
   exact zZy cs P hl hc h1
  rw [this,decide_eq_true (List.mem_map.mpr ⟨i,List.mem_range.mpr h1,h2.symm⟩)];rfl
 ·rw [List.contains_iff_mem.mpr h1,decide_eq_false]
  ·rfl
  ·intro hm
   apply bc;intro hQ;rcases List.mem_map.mp hm with ⟨i,hi,e⟩;refine hQ ?_;clear hQ
   exact h2 i (List.mem_range.mp hi) e.symm
end
end
noncomputable def keyN (e:DictEntry):Nat:=match e.key with | .int i _=>i.toNat | _=>0
noncomputable def zZz (e:DictEntry):Bool:=match e.key with | .int i _=>decide (0≤i) | _=>false
noncomputable def eJ:Nat→List Nat→Bool
 | _,[]=>true
 | a,x :: r=>Nat.blt a x && eJ x r
theorem nj:∀ (l:List Nat) (a:Nat),eJ a l=true→(∀ x∈l,a < x)∧l.Pairwise (· < ·)
 | [],_,_=>⟨(fun _ h=>nm h),List.Pairwise.nil⟩
 | x :: r,a,h=>by
  unfold eJ at h
  rw [Bool.and_eq_true] at h
  have h1:a < x:=by have:=h.1;exact Nat.le_of_ble_eq_true this
  obtain ⟨h2,h3⟩:=nj r x h.2
  exact ⟨fun y hy=>by
   rcases List.mem_cons.mp hy with rfl | hy
   ·exact h1
   ·have:=h2 y hy;lia,List.pairwise_cons.mpr ⟨h2,h3⟩⟩
theorem zVs:eJ 122 (sK.map keyN)=true:=by decide +kernel
theorem zZ0:sK.all zZz=true:=by decide +kernel
set_option tactic.hygienic true in
theorem iZ {e:DictEntry} (h:zZz e=true) (k:Nat):Value.isInt (k:Int) e.key=(keyN e == k):=by
 unfold zZz at h
 unfold keyN Value.isInt
 split at h
 ·rename_i i t hk
  rw [decide_eq_true_eq] at h
  rw [hk]
  dsimp only
  rw [Bool.eq_iff_iff,beq_iff_eq,beq_iff_eq]
  exact ⟨fun e=>by rw [e];exact Int.toNat_natCast k,fun e=>by rw [← e];exact (Int.toNat_of_nonneg h).symm⟩
 ·contradiction
theorem yX6 {k:Nat} (h:k≤122):b3At (k:Int)=none:=by
 unfold b3At findBy
 rw [List.find?_toArray,List.find?_eq_none.mpr]
 ·rfl
 ·intro e he
  rw [iZ (List.all_eq_true.mp zZ0 e he),beq_eq_false_iff_ne.mpr]
  ·simp
  ·have:=(nj _ _ zVs).1 _ (List.mem_map.mpr ⟨e,he,rfl⟩)
   lia
theorem zQy {l:List DictEntry} (hi:l.all zZz=true) (hp:(l.map keyN).Pairwise (· < ·)) {i k:Nat} {e:DictEntry} (h:l[i]?=some e) (hk:keyN e=k):l.find? (fun e=>Value.isInt (k:Int) e.key)=some e:=by
 obtain ⟨hlt,he⟩:=List.getElem?_eq_some_iff.mp h
 rw [List.find?_eq_some_iff_append]
 have hmem:e∈l:=List.mem_of_getElem? h
 refine ⟨by rw [iZ (List.all_eq_true.mp hi e hmem),beq_iff_eq];exact hk,l.take i,l.drop (i + 1),?_,fun a ha=>?_⟩
 ·rw [← he,← List.drop_eq_getElem_cons hlt,List.take_append_drop]
 ·apply bc;intro hQ;rcases List.mem_iff_getElem.mp ha with ⟨j,hj,rfl⟩;refine hQ ?_;clear hQ
  rw [List.length_take] at hj
  have hjl:j < l.length:=by lia
  rw [List.getElem_take,iZ (List.all_eq_true.mp hi _ (List.getElem_mem _)),beq_eq_false_iff_ne.mpr]
  ·rfl
  ·rw [List.pairwise_iff_getElem] at hp
   have:=hp j i (by rw [List.length_map];exact hjl) (by rw [List.length_map];exact hlt) (by lia)
   rw [List.getElem_map,List.getElem_map,he,hk] at this
   lia
noncomputable def idxF (f:Nat):Nat:=(sK.map keyN).findIdx (· == yw f)
noncomputable def zVt (f:Nat):Bool:=(((sK.drop (idxF f)).take 26).zipIdx.all fun p=>keyN p.1 == yw f + p.2 && (zQe p.1.val == tx [97 + p.2])) && decide (((sK.drop (idxF f)).take 26).length=26)
theorem zVu:((List.range 10).all fun f=>zVt (f + 2))=true:=by decide +kernel
theorem zY6 {c f:Nat} (hc:97≤c∧c≤122) (hf:f < 12) (h2:2≤f):b3At ((wq c f:Nat):Int)=some (tx [c]):=by
 have hb:=List.all_eq_true.mp zVu (f - 2) (List.mem_range.mpr (by lia))
 rw [Nat.sub_add_cancel h2] at hb
 unfold zVt at hb
 rw [Bool.and_eq_true,decide_eq_true_eq] at hb
 have hlt:c - 97 < ((sK.drop (idxF f)).take 26).length:=by rw [hb.2];exact z25 hc
 have hz:=List.all_eq_true.mp hb.1 (((sK.drop (idxF f)).take 26)[c - 97],c - 97) (by
  rw [List.mem_iff_getElem?]
  exact ⟨c - 97,by rw [List.getElem?_zipIdx,List.getElem?_eq_getElem hlt];simp⟩)
 dsimp only at hz
 rw [Bool.and_eq_true,beq_iff_eq,beq_iff_eq] at hz
 have hg:sK[idxF f + (c - 97)]?=some (((sK.drop (idxF f)).take 26)[c - 97]):=by
  rw [List.getElem_take,List.getElem_drop]
  exact List.getElem?_eq_getElem _
 have:=zQy zZ0 (nj _ _ zVs).2 hg (k:=wq c f) (by rw [hz.1,rq hc hf])
 unfold b3At findBy
 rw [List.find?_toArray,this]
 show some (zQe _)=_
 rw [hz.2]
 congr 3;exact z97 hc
theorem zY7:((List.range 2).all fun f=>(List.range 26).all fun c=>Txt.lower (tx [wq (97 + c) f]) == tx [97 + c])=true:=by decide +kernel
theorem zY8 {c f:Nat} (hc:97≤c∧c≤122) (hf:f < 2):b3At ((wq c f:Nat):Int)=none∧Txt.lower (tx [wq c f])=tx [c]:=by
 have h:=List.all_eq_true.mp (List.all_eq_true.mp zY7 f (List.mem_range.mpr hf)) (c - 97) (List.mem_range.mpr (z25 hc))
 rw [beq_iff_eq,z97 hc] at h
 refine ⟨yX6 ?_,h⟩
 rw [rq hc (by lia)]
 have:∀ f:Fin 2,yw f.val≤97:=by decide
 exact Nat.add_le_add (this ⟨f,hf⟩) (Nat.le_of_lt_succ (z25 hc))
end Mine
end
section
open PySem PySem.W PySem.Calls PyProof.Rows PySem.Builtin PySem.Builtin.Str
namespace Mine
theorem bw {c:Cx} {sc:Scope} {ow:List Str} {n:Nat} {st:Stmt} {ss:List Stmt} {ρ ρ':SRho} {Kn Kb:SRho→Prop} {Kr:V→Prop} (h:forgetQ (c.fs st) ρ=forgetQ (c.fs st) ρ') (k:xs c sc ow n (st :: ss) ρ' Kn Kr Kb):xs c sc ow n (st :: ss) ρ Kn Kr Kb:=by
 cases n with
 | zero=>exact k
 | succ n=>rw [cj h];exact k
theorem zQz (c:Nat):b1L.contains (c:Int)=b1N.contains c:=by
 have e:b1L=b1N.map fun (n:Nat)=>(n:Int):=by decide +kernel
 rw [e]
 have:∀ l:List Nat,(l.map fun (n:Nat)=>(n:Int)).contains (c:Int)=l.contains c:=fun l=>by
  induction l with
  | nil=>rfl
  | cons a r ih =>
   rw [List.map_cons,List.contains_cons,List.contains_cons,ih]
   congr 1
   rw [Bool.eq_iff_iff,beq_iff_eq,beq_iff_eq];lia
 exact this _
theorem zY9:("":Str)=tx []:=by decide +kernel
theorem yQa (ns:List Nat):Txt.join (tx []) (ns.map fun n=>tx [n])=tx ns:=by
 unfold Txt.join glued
 cases ns with
 | nil=>rfl
 | cons n r =>
  have h:=zQv [] (r.map fun n=>[n]) [n]
  have e:((r.map fun n=>[n]).map tx)=r.map fun n=>tx [n]:=by rw [List.map_map];rfl
  rw [e] at h
  have e2:([n]++(r.map fun n=>[n]).flatMap fun p=>[]++p)=n :: r:=by
   have:∀ r:List Nat,((r.map fun n=>[n]).flatMap fun p=>[]++p)=r:=fun r=>by
    induction r with
    | nil=>rfl
    | cons a r ih=>rw [List.map_cons,List.flatMap_cons,ih];rfl
   rw [this];rfl
  rw [e2] at h
  exact congrArg Str.mk h
theorem iX {p q:Nat} (hp:p < q) (hq:q≤122) (b:List Bool):(letV p q b).all tQ=true:=by
 unfold letV
 rw [List.all_map,List.all_eq_true]
 exact fun w _=>qw hp hq _
theorem zX3 {α:Type} (f:α→Bool) (l:List α):(l.map fun c=>V.bool (f c)).all tQ=true:=by
 rw [List.all_map,List.all_eq_true]
 exact fun _ _=>rfl
theorem zVv (p q:Nat) {b:List Bool} (hb:b.length=5):(List.range 5).map (fun i=>V.str (wd p q [b.getD i false]))=letV p q b:=by
 obtain ⟨a,b,c,d,e,rfl⟩:=five hb
 rfl
theorem segM (D:List Nat) (d2 d4 d5:Nat) (hd2:D[2]?=some d2) (hd4:D[4]?=some d4) (hd5:D[5]?=some d5) (hD:D.length=6) (b:List Bool) (hb:b.length=5) (p q:Nat) (hp97:97≤p) (hpq:p < q) (hq:q≤122) (P Nn:Nat)
  (ns:List Nat) (hns:∀ n∈ns,n < 2 ^ 18) (hnl:ns.length≤100) (hst:kq (tx ns)=tx (yx (b.map (chB p q)) P Nn 5)) (K:Kp) (k:K (.bool true)) :
  xs cxL (fdSc 28) ["grown"] 88 ((fdB 28).drop 12) (st0 [("draws",.lst (zQ D)),("pair",.lst [.str (wd p q [false]),.str (wd p q [true])]),("letters",.lst (letV p q b)),("name",.str (tx (yx (b.map (chB p q)) P Nn 5))),("told",.lst (zQ ns))]) (fun _=>K .none) K (fun _=>False):=by
 have hcl:(b.map (chB p q)).length=5:=by rw [List.length_map,hb]
 have hcc:∀ c∈b.map (chB p q),97≤c∧c≤122:=fun c hc=>by
  apply bc;intro hQ;rcases List.mem_map.mp hc with ⟨x,_,rfl⟩;refine hQ ?_;clear hQ
  unfold chB;split <;> lia
 have S:=zX2 (b.map (chB p q)) P Nn hcl hcc
 have hLc:=fun x h=>bv (b.map (chB p q)) P Nn hcl hcc (x:=x) h
 have hsp:=zVr (b.map (chB p q)) P Nn hcl hcc
 have hLl:(yx (b.map (chB p q)) P Nn 5).length≤10:=jK _ _ _ 5
 have hback:∀ i,i < 5→(match b3At ((gOf (b.map (chB p q)) P i:Nat):Int) with | some t=>t=wd p q [b.getD i false] | none=>Txt.lower (tx [gOf (b.map (chB p q)) P i])=wd p q [b.getD i false]):=fun i hi=>by
  have hc:=zX1 (b.map (chB p q)) hcl hcc hi
  have e:(b.map (chB p q)).getD i 0=chB p q (b.getD i false):=by
   rw [List.getD_eq_getElem?_getD,List.getD_eq_getElem?_getD,List.getElem?_map,List.getElem?_eq_getElem (by lia)];rfl
  have hw:wd p q [b.getD i false]=tx [(b.map (chB p q)).getD i 0]:=by rw [e];rfl
  rw [hw]
  unfold gOf
  rcases Nat.lt_or_ge (rJ P i) 2 with h | h
  ·obtain ⟨h1,h2⟩:=zY8 hc h
   rw [h1];exact h2
  ·rw [zY6 hc (rz P i) h]
 generalize yx (b.map (chB p q)) P Nn 5=L at *
 generalize sOf (b.map (chB p q)) P Nn=s at *
 generalize gOf (b.map (chB p q)) P=g at *
 conv=>whnf
 refine no_implicit_lambda% (zy (fun (d:Nat)=>V.int d) (fun n=>V.str (tx [n])) ns _ _ (by rw [sizeLine_eq];show 0 + _≤_;lia) (fun n hn acc K' hacc k'=>?_) ?_)
 ·have:=hns n hn
  conv=>whnf
  refine ⟨by lia,by lia,?_⟩
  exact ⟨hacc,k'⟩
 rw [List.nil_append,show ns.map (fun n=>V.str (tx [n]))=(ns.map fun n=>tx [n]).map V.str by rw [List.map_map];rfl]
 conv=>whnf
 refine ⟨_,rfl,yQ4 _ _ (by decide +kernel) (by rw [List.length_map];exact hnl) (fun t ht=>by
  apply bc;intro hQ;rcases List.mem_map.mp ht with ⟨n,_,rfl⟩;refine hQ ?_;clear hQ
  exact (by decide:(1:Nat)≤1000)),?_⟩
 rw [show Txt.join (Str.ofString "")=Txt.join (tx []) from congrArg Txt.join zY9,yQa]
 conv=>whnf
 refine ⟨tx ns,rfl,by unfold fits;rw [zJ];lia,?_⟩
 rw [hst]
 refine no_implicit_lambda% (uJ (ss:=(fdB 28).drop 13) (ρ':=st0 [("draws",.lst (zQ D)),("pair",.lst [.str (wd p q [false]),.str (wd p q [true])]),("letters",.lst (letV p q b)),("name",.str (tx L)),("told",.lst (zQ ns)),("bare",.str (tx L))]) (by rfl) ?_)
 have hch:sQ (tx L)=L.map fun c=>V.str (tx [c]):=qZ L
 conv=>whnf
 refine ⟨by rw [zJ,sizeLine_eq];lia,?_⟩
 rw [hch]
 refine no_implicit_lambda% (zy (fun c=>V.str (tx [c])) (fun c=>V.bool (b1N.contains c)) L _ _ (by rw [sizeLine_eq];show 0 + _≤_;lia) (fun c hc acc K' hacc k'=>?_) ?_)
 ·conv=>whnf
  refine ⟨tx [c],rfl,rfl,?_⟩
  rw [show b1L.contains (((tx [c]).cps.getD 0 0:Nat):Int)=b1N.contains c from zQz c]
  exact ⟨hacc,k'⟩
 rw [List.nil_append]
 refine no_implicit_lambda% (uJ (ss:=(fdB 28).drop 14) (ρ':=st0 [("draws",.lst (zQ D)),("pair",.lst [.str (wd p q [false]),.str (wd p q [true])]),("letters",.lst (letV p q b)),("name",.str (tx L)),("told",.lst (zQ ns)),("bare",.str (tx L)),("nothing",.lst (L.map fun c=>V.bool (b1N.contains c)))]) (by rfl) ?_)
 have hnl2:(L.map fun c=>V.bool (b1N.contains c)).length=L.length:=by rw [List.length_map]
 conv=>whnf
 refine ⟨by rw [zJ];lia,?_⟩
 conv=>whnf
 refine ⟨by rw [zJ];lia,by rw [zJ];lia,?_⟩
 rw [zJ,tv]
 refine no_implicit_lambda% (ww (fun (d:Nat)=>V.int d) (fun j=>if !b1N.contains (L.getD j 0) then [V.int (j:Nat)] else []) (List.range L.length) _ _ ?_ (fun j hj acc K' hacc k'=>?_) ?_)
 ·refine Nat.le_trans (Nat.add_le_add_left (uq _ 1 _ fun x _=>by split <;> simp) _) ?_
  rw [List.length_range,sizeLine_eq];show 0 + _≤_;lia
 ·rw [List.mem_range] at hj
  conv=>whnf
  refine ⟨nlo _,by lia,j,.bool (b1N.contains (L.getD j 0)),by rw [hnl2];exact seqN hj,by rw [List.getElem?_map,List.getElem?_eq_getElem hj,List.getD_eq_getElem?_getD,List.getElem?_eq_getElem hj];rfl,?_⟩
  conv=>whnf
  refine ⟨rfl,rfl,?_⟩
  cases hc:b1N.contains (L.getD j 0) with
  | true =>
   rw [hc] at k'
   conv=>whnf
   simpa using k'
  | false =>
   rw [hc] at k' hacc
   conv=>whnf
   exact ⟨by simp at hacc;lia,k'⟩
 have hspv:([]:List V)++(List.range L.length).flatMap (fun j=>if !b1N.contains (L.getD j 0) then [V.int (j:Nat)] else [])=zQ ((List.range 5).map s):=by
  rw [List.nil_append,← hsp]
  have:∀ l:List Nat,l.flatMap (fun j=>if !b1N.contains (L.getD j 0) then [V.int (j:Nat)] else [])=zQ (l.filter fun j=>!b1N.contains (L.getD j 0)):=fun l=>by
   induction l with
   | nil=>rfl
   | cons a l ih=>rw [List.flatMap_cons,ih,List.filter_cons];split <;> rfl
  exact this _
 rw [hspv]
 obtain ⟨sl,hsl⟩:∃ sl,sl=(List.range 5).map s:=⟨_,rfl⟩
 rw [← hsl]
 refine no_implicit_lambda% (uJ (ss:=(fdB 28).drop 15) (ρ':=st0 [("draws",.lst (zQ D)),("pair",.lst [.str (wd p q [false]),.str (wd p q [true])]),("letters",.lst (letV p q b)),("name",.str (tx L)),("told",.lst (zQ ns)),("bare",.str (tx L)),("nothing",.lst (L.map fun c=>V.bool (b1N.contains c))),("spots",.lst (zQ sl))]) (by rfl) ?_)
 conv=>whnf
 rw [beq_self_eq_true]
 conv=>whnf
 refine no_implicit_lambda% (zy (fun c=>V.bool (b1N.contains c)) (fun c=>V.bool (b1N.contains c)) L _ _ (by rw [sizeLine_eq];show 0 + _≤_;lia) (fun c hc acc K' hacc k'=>?_) ?_)
 ·conv=>whnf
  refine ⟨rfl,rfl,hacc,?_⟩
  rw [show zWl (V.bool (b1N.contains c)) (V.bool true)=b1N.contains c by show (b1N.contains c == true)=_;cases b1N.contains c <;> rfl]
  exact k'
 rw [List.nil_append]
 conv=>whnf
 refine ⟨by rw [zJ,sizeLine_eq];lia,?_⟩
 rw [hch]
 refine no_implicit_lambda% (zy (fun c=>V.str (tx [c])) (fun c=>V.bool (b1N.contains c)) L _ _ (by rw [sizeLine_eq];show 0 + _≤_;lia) (fun c hc acc K' hacc k'=>?_) ?_)
 ·conv=>whnf
  refine ⟨rfl,rfl,?_⟩
  conv=>whnf
  refine ⟨xJ rfl,zq (by rw [nQ];exact xW b1N),hacc,?_⟩
  rw [show ((toPL fq).any fun y=>y.eqv (toP (.int (((tx [c]).cps.getD 0 0:Nat):Int))))=b1N.contains c by rw [nQ];exact zQx c b1N,Bool.false_bne]
  exact k'
 rw [List.nil_append]
 refine zK7 (zX3 _ _) ?_
 conv=>whnf
 have hnv:zQ ((List.range 5).map s)=(List.range 5).map fun i=>V.int (s i:Nat):=by unfold zQ;rw [List.map_map];rfl
 rw [hsl,hnv]
 refine no_implicit_lambda% (zy (fun i=>V.int (s i:Nat)) (fun i=>V.str (wd p q [b.getD i false])) (List.range 5) _ _ (by rw [List.length_range,sizeLine_eq];show 0 + 5≤_;lia) (fun i hi acc K' hacc k'=>?_) ?_)
 ·rw [List.mem_range] at hi
  have hlt:=S.lt hi
  have hgi:L[s i]=g i:=by
   have:=S.at_ i hi
   rw [List.getElem?_eq_getElem hlt] at this
   exact Option.some.inj this
  have hb3:=hback i hi
  conv=>whnf
  refine ⟨by unfold fitsSsize;simp;lia,by lia,by rw [zJ];lia,?_⟩
  rw [zQh hlt,hgi]
  conv=>whnf
  refine ⟨tx [g i],rfl,rfl,?_⟩
  rw [show (((tx [g i]).cps.getD 0 0:Nat):Int)=((g i:Nat):Int) from rfl]
  cases hb:b3At ((g i:Nat):Int) with
  | some t =>
   rw [hb] at hb3
   have hb3:t=wd p q [b.getD i false]:=hb3
   subst hb3
   exact ⟨hacc,k'⟩
  | none =>
   rw [hb] at hb3
   have hb3:Txt.lower (tx [g i])=wd p q [b.getD i false]:=hb3
   rw [hb3]
   exact ⟨by rw [yq];rfl,hacc,k'⟩
 have hlet:([]:List V)++(List.range 5).map (fun i=>V.str (wd p q [b.getD i false]))=letV p q b:=by
  rw [List.nil_append]
  exact zVv p q hb
 rw [hlet]
 conv=>whnf
 refine ⟨zq (iX hpq hq b),zq (iX hpq hq b),?_⟩
 rw [uW (iX hpq hq b)]
 unfold zZ9
 dsimp only
 rw [show (true != true)=false from rfl]
 dsimp only
 refine zVp ?_
 refine no_implicit_lambda% (bw (ρ':=st0 [("draws",.lst (zQ D)),("pair",.lst [.str (wd p q [false]),.str (wd p q [true])]),("letters",.lst (letV p q b)),("bare",.str (tx L)),("spots",.lst ((List.range 5).map fun i=>V.int (s i:Nat)))]) (by kernel_rfl) ?_)
 rw [← hnv]
 exact segR D d2 d4 d5 hd2 hd4 hd5 hD b hb p q hpq hq L hLl s g S K k
end Mine
end
section
open PySem PySem.W PySem.Calls PyProof.Rows PySem.Builtin PySem.Builtin.Str PySem.StrLaws
namespace Mine
noncomputable def gK (i:Nat):List Nat:=[[],[46],[102,46],[105,46,108,46]].getD i []
noncomputable def vW (i:Nat):List Nat:=[[],[58],[10],[58,32,102,46,105],[10,105,46,108,58],[58,10,46,102],[10,58,46]].getD i []
theorem zQ0:∀ i:Fin 4,(∀ x∈gK i.val,x≠10∧x≠58∧0 < x∧x < 2 ^ 18)∧(gK i.val).length≤4∧(gK i.val=[]∨(gK i.val).getLast?=some 46):=by decide
theorem aQ:∀ i:Fin 7,(∀ x∈vW i.val,0 < x∧x < 2 ^ 18)∧(vW i.val).length≤5:=by decide
theorem zX4 {F L B:List Nat} (hF:∀ x∈F,x≠10∧x≠58) (hFl:F=[]∨F.getLast?=some 46) (hL:∀ x∈L,65≤x) (hB:B=[]∨(∃ r,B=58 :: r)∨(∃ r,B=10 :: r)) :
  kq (tx (F++L++B))=tx L:=by
 have hpre:∀ j:Nat,j < (F++L).length→∀ c,(F++L++B)[j]?=some c→c≠10∧(c=58→65≤c):=fun j hj c hc=>by
  rw [List.getElem?_append_left hj] at hc
  rcases List.mem_append.mp (List.mem_of_getElem? hc) with h | h
  ·exact ⟨(hF c h).1,fun e=>absurd e (hF c h).2⟩
  ·have:=hL c h;exact ⟨by lia,fun _=>this⟩
 have n10:∀ j:Nat,j < (F++L).length→(F++L++B)[j]?≠some 10:=fun j hj h=>(hpre j hj 10 h).1 rfl
 have n58:∀ j:Nat,j < (F++L).length→(F++L++B)[j]?≠some 58:=fun j hj h=>by have:=(hpre j hj 58 h).2 rfl;lia
 have hlen:(F++L++B).length=(F++L).length + B.length:=List.length_append
 have c10:("\n":Str)=tx [10]:=by decide +kernel
 have c58:(":":Str)=tx [58]:=by decide +kernel
 have c46:(".":Str)=tx [46]:=by decide +kernel
 unfold kq
 rw [c10,c58,c46]
 dsimp only
 obtain ⟨e1,h1,h1a,h1b,h1c⟩:∃ e1:Nat,(if 0≤Txt.find (tx (F++L++B)) (tx [10]) then Txt.find (tx (F++L++B)) (tx [10]) else ((tx (F++L++B)).length:Int))=e1∧(F++L).length≤e1∧e1≤(F++L++B).length∧(e1=(F++L).length∨∃ r,B=58 :: r):=by
  by_cases h:∃ j:Nat,(F++L++B)[j]?=some 10
  ·classical
   let P:Nat→Prop:=fun j=>(F++L++B)[j]?=some 10
   obtain ⟨j,hj,hmin⟩:∃ j:Nat,P j∧∀ i:Nat,i < j→¬ P i:=by
    obtain ⟨j,hj⟩:=h
    induction j using Nat.strongRecOn with
    | ind j ih =>
     by_cases hx:∃ i,i < j∧P i
     ·apply bc;intro hQ;rcases hx with ⟨i,hi,hp⟩;refine hQ ?_;clear hQ;exact ih i hi hp
     ·exact ⟨j,hj,fun i hi hp=>hx ⟨i,hi,hp⟩⟩
   rw [zVj hj hmin,if_pos (by lia)]
   have hjl:j < (F++L++B).length:=(List.getElem?_eq_some_iff.mp hj).1
   have hge:(F++L).length≤j:=by
    rcases Nat.lt_or_ge j (F++L).length with h | h
    ·exact absurd hj (n10 j h)
    ·exact h
   refine ⟨j,rfl,hge,by lia,?_⟩
   rcases hB with hB | hB | ⟨r,hB⟩
   ·rw [hB,List.append_nil] at hjl;lia
   ·exact .inr hB
   ·left
    have h0:P (F++L).length:=by
     show (F++L++B)[(F++L).length]?=some 10
     rw [List.getElem?_append_right (Nat.le_refl _),Nat.sub_self,hB];rfl
    rcases Nat.lt_or_eq_of_le hge with h | h
    ·exact absurd h0 (hmin _ h)
    ·exact h.symm
  ·rw [zVk fun j hj=>h ⟨j,hj⟩,if_neg (by decide)]
   refine ⟨(F++L++B).length,by rw [zJ],by lia,Nat.le_refl _,?_⟩
   rcases hB with hB | hB | ⟨r,hB⟩
   ·left;rw [hB,List.append_nil]
   ·exact .inr hB
   ·exact absurd ⟨(F++L).length,by rw [List.getElem?_append_right (Nat.le_refl _),Nat.sub_self,hB];rfl⟩ h
 rw [h1]
 have h2:(if 0≤vV (tx (F++L++B)) (tx [58]) 0 (e1:Int) then vV (tx (F++L++B)) (tx [58]) 0 (e1:Int) else (e1:Int))=((F++L).length:Nat):=by
  rw [show (0:Int)=((0:Nat):Int) from rfl]
  rcases Nat.lt_or_eq_of_le h1a with h | h
  ·obtain ⟨r,hB⟩:=h1c.resolve_left (by lia)
   rw [gZ (L:=F++L++B) (c:=58) (i:=(F++L).length) h1b (Nat.zero_le _) h (by rw [List.getElem?_append_right (Nat.le_refl _),Nat.sub_self,hB];rfl) fun j _ hj=>n58 j hj,if_pos (by lia)]
  ·rw [gX (L:=F++L++B) (c:=58) h1b fun j _ hj=>n58 j (by lia),if_neg (by decide),← h]
 rw [h2]
 have hle:(F++L).length≤(F++L++B).length:=by lia
 have h3:(if 0≤qV (tx (F++L++B)) (tx [46]) 0 ((F++L).length:Nat) then qV (tx (F++L++B)) (tx [46]) 0 ((F++L).length:Nat) + 1 else 0)=(F.length:Nat):=by
  have hin:∀ j:Nat,F.length≤j→j < (F++L).length→(F++L++B)[j]?≠some 46:=fun j hj hj2 h=>by
   rw [List.getElem?_append_left hj2,List.getElem?_append_right hj] at h
   have:=hL 46 (List.mem_of_getElem? h)
   lia
  have hlast:F≠[]→(F++L++B)[F.length - 1]?=some 46:=fun hne=>by
   have h:=hFl.resolve_left hne
   have hp:=List.length_pos_iff.mpr hne
   rw [List.append_assoc,List.getElem?_append_left (by lia)]
   rw [List.getLast?_eq_getElem?] at h
   exact h
  rw [show (0:Int)=((0:Nat):Int) from rfl]
  have hFL:F.length≤(F++L).length:=by rw [List.length_append];lia
  rcases zQu (L:=F++L++B) (c:=46) (a:=0) (b:=(F++L).length) hle with ⟨e,h⟩ | ⟨i,e,hi1,hi2,hi3⟩
  ·rw [e,if_neg (by decide)]
   by_cases hne:F=[]
   ·rw [hne];rfl
   ·have hp:=List.length_pos_iff.mpr hne
    exact absurd (hlast hne) (h _ (Nat.zero_le _) (by lia))
  ·rw [e,if_pos (by lia)]
   have hiF:i < F.length:=by
    rcases Nat.lt_or_ge i F.length with h | h
    ·exact h
    ·exact absurd hi2 (hin i h hi1)
   have hne:F≠[]:=by rintro rfl;exact absurd hiF (Nat.not_lt_zero _)
   have:i=F.length - 1:=by
    rcases Nat.lt_or_ge i (F.length - 1) with h | h
    ·exact absurd (hlast hne) (hi3 _ (Nat.zero_le _) h (by lia))
    ·exact Nat.le_antisymm (Nat.le_sub_one_of_lt hiF) h
   rw [this]
   exact congrArg Nat.cast (Nat.sub_add_cancel (List.length_pos_iff.mpr hne))
 rw [h3,zXm,List.take_left,List.drop_left]
theorem zQ1 (i:Fin 7):vW i.val=[]∨(∃ r,vW i.val=58 :: r)∨(∃ r,vW i.val=10 :: r) :=
 ((by decide:∀ i:Fin 7,vW i.val=[]∨vW i.val=58 :: (vW i.val).tail∨vW i.val=10 :: (vW i.val).tail) i).imp _root_.id (Or.imp (fun h=>⟨_,h⟩) fun h=>⟨_,h⟩)
theorem yYk (n:Nat):max 0 (min (-1 + (n:Int)) n)=((n - 1:Nat):Int):=by
 cases n with
 | zero=>rfl
 | succ n =>
  have e:-1 + ((n + 1:Nat):Int)=n:=by rw [Int.natCast_succ,Int.add_comm,Int.add_neg_cancel_right]
  rw [e,Int.min_eq_left (Int.ofNat_le.mpr (Nat.le_succ n)),Int.max_eq_right (Int.natCast_nonneg n)];rfl
section
variable (D:List Nat) (hD:D.length=6) (b:List Bool) (hb:b.length=5) (p q:Nat) (hp97:97≤p) (hpq:p < q) (hq:q≤122)
include hD hb hp97 hpq hq
theorem d_at {i:Nat} (hi:i < 6):D[i]?=some (D.getD i 0):=getD_some (by lia)
theorem xZ2 (P Nn:Nat) (ns:List Nat) (hns:∀ n∈ns,0 < n∧n < 2 ^ 18) (hnl:ns.length≤100) (hne:ns≠[]) (hst:kq (tx ns)=tx (yx (b.map (chB p q)) P Nn 5)) (K:Kp) (k:K (.bool true)) :
  xs cxL (fdSc 28) ["grown"] 90 ((fdB 28).drop 10) (st0 [("draws",.lst (zQ D)),("pair",.lst [.str (wd p q [false]),.str (wd p q [true])]),("letters",.lst (letV p q b)),("name",.str (tx (yx (b.map (chB p q)) P Nn 5))),("written",.lst (zQ ns)),("octets",.lst ((enc ns).map V.int))]) (fun _=>K .none) K (fun _=>False):=by
 have hel:((enc ns).map V.int).length≤sizeLine:=by
  have:∀ (l:List Nat) (acc:List Int),(l.foldl yv acc).length≤acc.length + 3 * l.length:=fun l=>by
   induction l with
   | nil=>intro acc;exact Nat.le_add_right _ _
   | cons n r ih =>
    intro acc
    have h1:=ih (yv acc n)
    have h2:=tq acc n
    rw [List.foldl_cons,List.length_cons];lia
  have:=this ns []
  rw [List.length_map,sizeLine_eq]
  have e:enc ns=ns.foldl yv []:=rfl
  rw [e]
  have:([]:List Int).length=0:=rfl
  lia
 conv=>whnf
 refine ⟨⟨⟩,ns,by rfl,hns,by lia,?_⟩
 conv=>whnf
 have hneg:∀ l:List V,lz l none (some (-1)) none=l.dropLast:=fun l=>by
  unfold lz
  have e:sliceBounds none (some (-1)) none l.length=(((0:Nat):Int),((l.length - 1:Nat):Int),1):=by
   unfold sliceBounds
   simp
   exact yYk _
  rw [e]
  dsimp only
  rw [ux,Nat.sub_zero]
  have:=oj l (l.length - 1) 0 (by rw [Nat.zero_add];exact Nat.sub_le _ _)
  rw [this,List.drop_zero,List.dropLast_eq_take]
 refine ⟨_,_,_,⟨rfl,rfl⟩,ns,hne,hns,by lia,?_,?_,?_,?_⟩
 ·unfold zQl
  conv=>whnf
  refine ⟨zq (xW ns),zq (xW ns),?_⟩
  rw [uW (xW ns)];rfl
 ·unfold jW
  conv=>whnf
  refine ⟨by decide,hel,?_⟩
  rw [hneg]
  conv=>whnf
  rw [List.map_dropLast]
 ·unfold zQl
  conv=>whnf
  refine ⟨by decide,by rw [zV,sizeLine_eq];lia,?_⟩
  rw [hneg];unfold zQ;rw [List.map_dropLast]
 refine no_implicit_lambda% (bw (ρ':=st0 [("draws",.lst (zQ D)),("pair",.lst [.str (wd p q [false]),.str (wd p q [true])]),("letters",.lst (letV p q b)),("name",.str (tx (yx (b.map (chB p q)) P Nn 5))),("told",.lst (zQ ns))]) (by kernel_rfl) ?_)
 exact segM D _ _ _ (d_at D hD b hb p q hp97 hpq hq (i:=2) (by lia)) (d_at D hD b hb p q hp97 hpq hq (i:=4) (by lia)) (d_at D hD b hb p q hp97 hpq hq (i:=5) (by lia)) hD b hb p q hp97 hpq hq P Nn ns (fun n h=>(hns n h).2) hnl hst K k
theorem xZ3 (P Nn:Nat) (K:Kp) (k:K (.bool true)) :
  xs cxL (fdSc 28) ["grown"] 94 ((fdB 28).drop 6) (st0 [("draws",.lst (zQ D)),("pair",.lst [.str (wd p q [false]),.str (wd p q [true])]),("letters",.lst (letV p q b)),("name",.str (tx (yx (b.map (chB p q)) P Nn 5)))]) (fun _=>K .none) K (fun _=>False):=by
 have hcl:(b.map (chB p q)).length=5:=by rw [List.length_map,hb]
 have hcc:∀ c∈b.map (chB p q),97≤c∧c≤122:=fun c hc=>by
  apply bc;intro hQ;rcases List.mem_map.mp hc with ⟨x,_,rfl⟩;refine hQ ?_;clear hQ
  unfold chB;split <;> lia
 have hLc:=fun x h=>bv (b.map (chB p q)) P Nn hcl hcc (x:=x) h
 have hLl:(yx (b.map (chB p q)) P Nn 5).length≤10:=jK _ _ _ 5
 have hL0:0 < (yx (b.map (chB p q)) P Nn 5).length:=by
  have:=(nx (b.map (chB p q)) P Nn 5 0 (by decide)).2;lia
 have fin:=fun ns hns hnl hne hst=>xZ2 D hD b hb p q hp97 hpq hq P Nn ns hns hnl hne hst K k
 have ix4:seqIndex? 4 (zQ D).length=some 4:=by rw [zV,hD];rfl
 have hd4:=d_at D hD b hb p q hp97 hpq hq (i:=4) (by lia)
 generalize yx (b.map (chB p q)) P Nn 5=L at *
 generalize D.getD 4 0=d4 at *
 conv=>whnf
 refine ⟨Nat.le_of_ble_eq_true rfl,?_⟩
 conv=>whnf
 refine ⟨by decide,by decide,4,_,ix4,zj hd4,?_⟩
 conv=>whnf
 refine ⟨by decide,?_⟩
 have hm4:Int.fmod (d4:Int) 4=((d4 % 4:Nat):Int):=by rw [Int.fmod_eq_emod_of_nonneg _ (by decide)];norm_cast
 have hm7:Int.fmod (Int.fdiv (d4:Int) 4) 7=((d4 / 4 % 7:Nat):Int):=by rw [Int.fdiv_eq_ediv_of_nonneg _ (by decide),Int.fmod_eq_emod_of_nonneg _ (by decide)];norm_cast
 rw [hm4]
 have h4:d4 % 4 < 4:=Nat.mod_lt _ (by decide)
 have h7:d4 / 4 % 7 < 7:=Nat.mod_lt _ (by decide)
 generalize d4 % 4=i4 at h4 ⊢
 generalize d4 / 4 % 7=i7 at h7 hm7
 conv=>whnf
 refine ⟨nlo _,nhi (Nat.lt_trans h4 (by decide)),i4,.str (tx (gK i4)),seqN h4,?_,?_⟩
 ·rcases (by decide:∀ i:Fin 4,i.val=0∨i.val=1∨i.val=2∨i.val=3) ⟨i4,h4⟩ with rfl | rfl | rfl | rfl <;> kernel_rfl
 conv=>whnf
 refine ⟨Nat.le_of_ble_eq_true rfl,?_⟩
 conv=>whnf
 refine ⟨by decide,by decide,4,_,ix4,zj hd4,?_⟩
 conv=>whnf
 refine ⟨by decide,pyl _ 4 (by decide),?_⟩
 conv=>whnf
 refine ⟨by decide,?_⟩
 rw [hm7]
 conv=>whnf
 refine ⟨nlo _,nhi (Nat.lt_trans h7 (by decide)),i7,.str (tx (vW i7)),seqN h7,?_,?_⟩
 ·rcases (by decide:∀ i:Fin 7,i.val=0∨i.val=1∨i.val=2∨i.val=3∨i.val=4∨i.val=5∨i.val=6) ⟨i7,h7⟩ with rfl | rfl | rfl | rfl | rfl | rfl | rfl <;> kernel_rfl
 apply bc;intro hQ;rcases zQ0 ⟨i4,h4⟩ with ⟨f1,f2,f3⟩;rcases aQ ⟨i7,h7⟩ with ⟨b1,b2⟩;refine hQ ?_;clear hQ
 have b3:=zQ1 ⟨i7,h7⟩
 dsimp only at f1 f2 f3 b1 b2 b3
 generalize gK i4=F at *
 generalize vW i7=B at *
 have hall:∀ n∈F++L++B,0 < n∧n < 2 ^ 18:=fun n hn=>by
  rcases List.mem_append.mp hn with hn | hn
  ·rcases List.mem_append.mp hn with hn | hn
   ·exact ⟨(f1 n hn).2.2.1,(f1 n hn).2.2.2⟩
   ·have:=hLc n hn;exact ⟨by lia,by lia⟩
  ·exact b1 n hn
 have htl:(F++L++B).length≤19:=by rw [List.length_append,List.length_append];lia
 have fin2:=fin (F++L++B) hall (by lia) (by
  intro h
  have:=congrArg List.length h
  rw [List.length_append,List.length_append] at this
  have:F.length + L.length + B.length=0:=this
  lia) (zX4 (fun x hx=>⟨(f1 x hx).1,(f1 x hx).2.1⟩) f3 (fun x hx=>(hLc x hx).1) b3)
 conv=>whnf
 refine ⟨by rw [zJ,zJ,sizeLine_eq];lia,?_⟩
 rw [hJ]
 conv=>whnf
 refine ⟨by rw [zJ,zJ,List.length_append,sizeLine_eq];lia,?_⟩
 rw [hJ]
 generalize F++L++B=T at *
 conv=>whnf
 refine ⟨by rw [zJ,sizeLine_eq];lia,?_⟩
 rw [qZ]
 refine no_implicit_lambda% (zy (fun c=>V.str (tx [c])) (fun (c:Nat)=>V.int c) T _ _ (by rw [sizeLine_eq];show 0 + _≤_;lia) (fun c hc acc K' hacc k'=>?_) ?_)
 ·conv=>whnf
  refine ⟨rfl,hacc,k'⟩
 rw [List.nil_append,show T.map (fun (c:Nat)=>V.int c)=zQ T from rfl]
 conv=>whnf
 refine ⟨T,rfl,hall,by lia,?_⟩
 refine no_implicit_lambda% (bw (ρ':=st0 [("draws",.lst (zQ D)),("pair",.lst [.str (wd p q [false]),.str (wd p q [true])]),("letters",.lst (letV p q b)),("name",.str (tx L)),("written",.lst (zQ T)),("octets",.lst ((enc T).map V.int))]) (by kernel_rfl) ?_)
 exact fin2
end
theorem xZ4 (D:List Nat) (hD:D.length=6) (K:Kp) (k:K (.bool true)) :
  xs cxL (fdSc 28) ["grown"] 98 ((fdB 28).drop 2) (st0 [("draws",.lst (zQ D))]) (fun _=>K .none) K (fun _=>False):=by
 have d_:∀ {i:Nat},i < 6→D[i]?=some (D.getD i 0):=fun hi=>getD_some (by lia)
 have ix:∀ {i:Nat},i < 6→seqIndex? (i:Int) (zQ D).length=some i:=fun hi=>by rw [zV,hD];exact seqN hi
 have hd0:=d_ (i:=0) (by lia)
 have hd1:=d_ (i:=1) (by lia)
 generalize D.getD 0 0=d0 at hd0
 generalize D.getD 1 0=d1 at hd1
 conv=>whnf
 refine ⟨by decide,by decide,0,_,ix (i:=0) (by lia),zj hd0,?_⟩
 conv=>whnf
 refine ⟨by decide,?_⟩
 have hp:(97:Int) + Int.fmod (d0:Int) 25=((97 + d0 % 25:Nat):Int):=by rw [Int.fmod_eq_emod_of_nonneg _ (by decide)];norm_cast
 have hp1:d0 % 25 < 25:=Nat.mod_lt _ (by decide)
 have hpp:97≤97 + d0 % 25∧97 + d0 % 25≤121:=by lia
 conv=>whnf
 rw [hp]
 generalize 97 + d0 % 25=p at hpp ⊢
 have hch:∀ c:Nat,(⟨#[(c:Int).toNat]⟩:Str)=tx [c]:=fun c=>by rw [Int.toNat_natCast];rfl
 refine ⟨by lia,by lia,?_⟩
 rw [hch]
 conv=>whnf
 refine ⟨by decide,by decide,0,_,ix (i:=0) (by lia),zj hd0,?_⟩
 conv=>whnf
 refine ⟨by decide,pyl _ 25 (by decide),?_⟩
 conv=>whnf
 refine ⟨by lia,?_⟩
 have hq1:Int.fmod (Int.fdiv (d0:Int) 25) (122 - (p:Int))=((d0 / 25 % (122 - p):Nat):Int):=by
  rw [show (122:Int) - (p:Int)=((122 - p:Nat):Int) by lia,Int.fdiv_eq_ediv_of_nonneg _ (by decide),Int.fmod_eq_emod_of_nonneg _ (by lia)];norm_cast
 rw [hq1]
 have hq2:d0 / 25 % (122 - p) < 122 - p:=Nat.mod_lt _ (by lia)
 conv=>whnf
 rw [show (p:Int) + 1 + ((d0 / 25 % (122 - p):Nat):Int)=((p + 1 + d0 / 25 % (122 - p):Nat):Int) by lia]
 have hqq:p < p + 1 + d0 / 25 % (122 - p)∧p + 1 + d0 / 25 % (122 - p)≤122:=⟨Nat.le_add_right _ _,by rw [Nat.add_right_comm,Nat.add_comm p];exact Nat.succ_le_of_lt (Nat.add_lt_of_lt_sub hq2)⟩
 generalize p + 1 + d0 / 25 % (122 - p)=q at hqq ⊢
 refine ⟨by lia,by lia,?_⟩
 rw [hch]
 conv=>whnf
 refine ⟨Nat.le_of_ble_eq_true rfl,?_⟩
 conv=>whnf
 refine ⟨by decide,by decide,?_⟩
 rw [show (5:Int)=((5:Nat):Int) from rfl,tv]
 refine no_implicit_lambda% (zy (fun (d:Nat)=>V.int d) (fun k=>V.str (wd p q [d1 / 2 ^ k % 2 == 1])) (List.range 5) _ _ (by rw [List.length_range,sizeLine_eq];show 0 + 5≤_;lia) (fun j hj acc K' hacc k'=>?_) ?_)
 ·conv=>whnf
  refine ⟨by decide,by decide,1,_,ix (i:=1) (by lia),zj hd1,?_⟩
  conv=>whnf
  refine ⟨by lia,?_⟩
  have hsh:Builtin.bitAnd (Int.fdiv (d1:Int) (2 ^ (j:Int).toNat)) 1=((d1 / 2 ^ j % 2:Nat):Int):=by
   rw [Int.toNat_natCast,Int.fdiv_eq_ediv_of_nonneg _ (Int.le_of_lt (Int.pow_pos (by decide)))]
   rw [show (d1:Int) / 2 ^ j=((d1 / 2 ^ j:Nat):Int) by norm_cast,bitAnd_pp (Int.natCast_nonneg _) (by decide),Int.toNat_natCast]
   show ((d1 / 2 ^ j &&& 1:Nat):Int)=_
   rw [Nat.and_one_is_mod]
  conv=>whnf
  rw [hsh]
  have hb2:d1 / 2 ^ j % 2 < 2:=Nat.mod_lt _ (by decide)
  generalize d1 / 2 ^ j % 2=bi at hb2 k'
  conv=>whnf
  refine ⟨nlo _,nhi (Nat.lt_trans hb2 (by decide)),bi,.str (wd p q [bi == 1]),seqN hb2,?_,hacc,k'⟩
  rcases (by lia:bi=0∨bi=1) with rfl | rfl <;> kernel_rfl
 have hlet:([]:List V)++(List.range 5).map (fun k=>V.str (wd p q [d1 / 2 ^ k % 2 == 1]))=letV p q ((List.range 5).map fun k=>d1 / 2 ^ k % 2 == 1):=by
  rw [List.nil_append];unfold letV;rw [List.map_map];rfl
 rw [hlet]
 have hbl:((List.range 5).map fun k=>d1 / 2 ^ k % 2 == 1).length=5:=by rw [List.length_map,List.length_range]
 generalize ((List.range 5).map fun k=>d1 / 2 ^ k % 2 == 1)=b at hbl ⊢
 refine no_implicit_lambda% (uJ (ss:=(fdB 28).drop 5) (ρ':=stS [("draws",.val (.lst (zQ D))),("low",.val (.int p)),("pair",.val (.lst [.str (wd p q [false]),.str (wd p q [true])])),("letters",.val (.lst (letV p q b)))]) (by rfl) ?_)
 have hd2:=d_ (i:=2) (by lia)
 have hd3:=d_ (i:=3) (by lia)
 have fin:=fun P Nn=>xZ3 D hD b hbl p q (by lia) hqq.1 hqq.2 P Nn K k
 generalize D.getD 2 0=d2 at hd2
 generalize D.getD 3 0=d3 at hd3
 conv=>whnf
 refine ⟨by decide,by decide,2,_,ix (i:=2) (by lia),zj hd2,?_⟩
 conv=>whnf
 refine ⟨by decide,by decide,3,_,ix (i:=3) (by lia),zj hd3,?_⟩
 conv=>whnf
 refine ⟨b.map (chB p q),d2,d3,?_,by rw [List.length_map,hbl],fun c hc=>?_,?_⟩
 ·have:letV p q b=(b.map (chB p q)).map fun c=>V.str (tx [c]):=by unfold letV;rw [List.map_map];rfl
  rw [this]
 ·apply bc;intro hQ;rcases List.mem_map.mp hc with ⟨x,_,rfl⟩;refine hQ ?_;clear hQ
  unfold chB;split <;> lia
 refine no_implicit_lambda% (bw (ρ':=st0 [("draws",.lst (zQ D)),("pair",.lst [.str (wd p q [false]),.str (wd p q [true])]),("letters",.lst (letV p q b)),("name",.str (tx (yx (b.map (chB p q)) d2 d3 5)))]) (by kernel_rfl) ?_)
 exact no_implicit_lambda% (fin d2 d3)
theorem xZ5 (ns:List Nat) (hl:ns.length≤60) (hb:∀ n∈ns,n≤1000000000) (k:Nat) (hk:k < 6):∃ m:List Nat,lz (zQ ns) (some (k:Int)) none (some 6)=zQ m∧m.length≤100∧∀ x∈m,x≤1000000000:=by
 refine ⟨(sliceRange (sliceBounds (some (k:Int)) none (some 6) (zQ ns).length).1 (sliceBounds (some (k:Int)) none (some 6) (zQ ns).length).2.1 (sliceBounds (some (k:Int)) none (some 6) (zQ ns).length).2.2).filterMap (ns[·]?),?_,?_,fun x hx=>?_⟩
 ·unfold lz zQ
  generalize sliceRange _ _ _=ix
  induction ix with
  | nil=>rfl
  | cons i r ih =>
   rw [List.filterMap_cons,List.filterMap_cons,ih,List.getElem?_map]
   cases ns[i]? <;> rfl
 ·refine Nat.le_trans (List.length_filterMap_le _ _) ?_
  rw [zV]
  unfold sliceRange sliceBounds
  rw [List.length_map,List.length_range]
  simp
  omega
 ·apply bc;intro hQ;rcases List.mem_filterMap.mp hx with ⟨i,_,hi⟩;refine hQ ?_;clear hQ
  exact hb x (List.mem_of_getElem? hi)
noncomputable def zVw:Expr:=match (fdB 28).drop 1 with | .Assign _ e _ :: _=>e | _=>default
noncomputable def eltD:Expr:=match zVw with | .ListComp e _ _ _=>e | _=>default
noncomputable def tgD:Expr:=match zVw with | .ListComp _ (g :: _) _ _=>g.target | _=>default
noncomputable def scD:Scope:=match zVw with | .ListComp _ _ s _=>s | _=>default
theorem yQb (l:List Nat):((l.map fun (n:Nat)=>(n:Int))).sum=(l.sum:Nat):=by
 induction l with
 | nil=>rfl
 | cons a r ih=>rw [List.map_cons,List.sum_cons,List.sum_cons,ih];push_cast;rfl
theorem aZ (ns:List Nat) (hl:ns.length≤60) (hb:∀ n∈ns,n≤1000000000):∀ (cs:List Nat) (i:Nat) (acc:List V) (K:List V→Prop),i + cs.length≤6→acc.length≤i→(∀ Ds:List Nat,Ds.length=cs.length→K (acc++zQ Ds)) →
  vX (oz cx0 (relS scD (fdSc 28)) 30 tgD [] [] eltD [("numbers",.lst (zQ ns))]) (cw i (zQ cs)) acc K
 | [],i,acc,K,_,_,k=>by
  have:=k [] rfl
  rw [show zQ []=[] from rfl,List.append_nil] at this
  exact this
 | c :: cs,i,acc,K,hi,ha,k=>by
  rw [List.length_cons] at hi
  have ih:=fun acc' h1 h2=>aZ ns hl hb cs (i + 1) acc' K (by lia) h1 h2
  apply bc;intro hQ;rcases xZ5 ns hl hb i (by lia) with ⟨m,e1,e2,e3⟩;refine hQ ?_;clear hQ
  conv=>whnf
  refine ⟨by decide,by rw [zV,sizeLine_eq];lia,?_⟩
  rw [e1]
  conv=>whnf
  refine ⟨m.map fun (n:Nat)=>(n:Int),by unfold zQ;rw [List.map_map];rfl,qk m 1000000000 100 e3 e2 (by decide),?_⟩
  rw [yQb]
  conv=>whnf
  refine ⟨by rw [sizeLine_eq];lia,?_⟩
  refine ih _ (by rw [List.length_append];show _ + 1≤_;lia) fun Ds hD=>?_
  have:=k ((c + m.sum) :: Ds) (by rw [List.length_cons,List.length_cons,hD])
  rw [List.append_assoc]
  rw [show (c:Int) + ((m.sum:Nat):Int)=((c + m.sum:Nat):Int) by push_cast;rfl]
  exact this
theorem xZ6 (script:List Int) (hs:script.length≤100) (K:Kp) (k:K (.bool true)) :
  xs cxL (fdSc 28) ["grown"] 100 (fdB 28) (wW ["script"] [.lst (script.map V.int)] oJ) (fun _=>K .none) K (fun _=>False):=by
 refine no_implicit_lambda% (uJ (ss:=fdB 28) (ρ':=st0 [("script",.lst (script.map V.int))]) (by rfl) ?_)
 conv=>whnf
 refine ⟨by decide,by rw [List.length_map,sizeLine_eq];lia,?_⟩
 have hpk:lz (script.map V.int) none (some 60) none=(script.take 60).map V.int:=by
  refine (oQ (script.map V.int) none (some 60)).trans ?_
  unfold cut
  rw [Option.getD_none,Option.getD_some,List.drop_zero,← List.map_take]
 rw [hpk]
 refine no_implicit_lambda% (zy V.int (fun x=>V.int (((x % 1000000000).toNat:Nat):Int)) (script.take 60) _ _ (by rw [List.length_take,sizeLine_eq];show 0 + _≤_;lia) (fun x hx acc K' hacc k'=>?_) ?_)
 ·conv=>whnf
  refine ⟨by decide,by decide,by decide,?_⟩
  rw [show (10:Int) ^ Int.toNat 9=1000000000 from by decide]
  conv=>whnf
  refine ⟨by decide,hacc,?_⟩
  rw [show Int.fmod x 1000000000=(((x % 1000000000).toNat:Nat):Int) by rw [Int.fmod_eq_emod_of_nonneg _ (by decide)];lia]
  exact k'
 have hnum:([]:List V)++(script.take 60).map (fun x=>V.int (((x % 1000000000).toNat:Nat):Int))=zQ ((script.take 60).map fun x=>(x % 1000000000).toNat):=by
  rw [List.nil_append];unfold zQ;rw [List.map_map];rfl
 rw [hnum]
 have hnl:((script.take 60).map fun x=>(x % 1000000000).toNat).length≤60:=by rw [List.length_map,List.length_take];lia
 have hnb:∀ n∈(script.take 60).map fun x=>(x % 1000000000).toNat,n≤1000000000:=fun n hn=>by
  apply bc;intro hQ;rcases List.mem_map.mp hn with ⟨x,_,rfl⟩;refine hQ ?_;clear hQ
  lia
 generalize (script.take 60).map (fun x=>(x % 1000000000).toNat)=ns at hnl hnb ⊢
 refine no_implicit_lambda% (uJ (ss:=(fdB 28).drop 1) (ρ':=st0 [("script",.lst (script.map V.int)),("numbers",.lst (zQ ns))]) (by rfl) ?_)
 conv=>whnf
 refine ⟨by rfl,by rfl,?_⟩
 conv=>whnf
 refine ⟨by decide,_,rfl,?_⟩
 show vX (oz cx0 (relS scD (fdSc 28)) 30 tgD [] [] eltD [("numbers",.lst (zQ ns))]) (cw 0 (zQ [110,22,25,74,219,99018])) [] _
 refine aZ ns hnl hnb [110,22,25,74,219,99018] 0 [] _ (by decide) (Nat.le_refl _) fun Ds hDs=>?_
 rw [List.nil_append]
 refine no_implicit_lambda% (bw (ρ':=st0 [("draws",.lst (zQ Ds))]) (by kernel_rfl) ?_)
 exact xZ4 Ds hDs K k
end Mine
end
section
open PySem PySem.W PySem.Calls PyProof.Rows PySem.Builtin PySem.Builtin.Str
namespace Mine
noncomputable section
theorem yYl (w:World):CxOk w 50 cxL :=
 ⟨fun f g e=>(jX (zKq w) f g e).use,fun x X e=>(by contradiction),fun sc e f h A E off s env ρ K Q room en G ol see ap kf q=>yXn h ⟨room,en,G,ol,see,ap⟩ kf q⟩
theorem yYm (w:World):SxOk w 50 cxL (fdSc 28):=by
 intro A E s₀ env off₀ st f ρ Kn Kr m cm ad s Q hp hf F kk q
 have hp:paL A env:=hp
 have hf:sxL st=some f:=hf
 rcases mw hf with rfl | hf
 ·obtain ⟨⟨⟩,kk⟩:=kk
  exact yXu hp F kk q
 rcases mw hf with rfl | hf
 ·apply bc;intro hQ;rcases kk with ⟨_,_,_,⟨n1,n2⟩,kk⟩;refine hQ ?_;clear hQ
  exact zXv hp F n1 n2 kk q
 rcases mw hf with rfl | hf
 ·apply bc;intro hQ;rcases kk with ⟨_,_,⟨n1,n2⟩,kk⟩;refine hQ ?_;clear hQ
  exact yWz hp F n1 n2 kk.1 kk.2 q
 contradiction
noncomputable def fd28 (P:Params):FuncData:=match (yVd P).data with | .func f=>f | _=>default
theorem at28 (w:World):FnAt w "law" 28 190 (fd28 w.params) :=
 ⟨by rfl,⟨_,by rfl,by rfl⟩,⟨189,_,_,_,by rfl,by rfl,by rfl,by rfl,by rfl⟩,by rfl,by rfl,by rfl,by rfl,by rfl⟩
theorem yYn (P:Params) (vs:List Value) (h:vs.length=1):bindArgs (fd28 P) ⟨vs,[]⟩=pure ((["script"]:List Str).zip vs):=by
 apply bc;intro hQ;rcases len1 h with ⟨v0,rfl⟩;refine hQ ?_;clear hQ;rfl
theorem yYo {w:World} {A:Around} {E:Value→Shared→Prop} {s:Shared} {v:Value} {script:List Int} {Q:Value→Shared→Prop} (room:Room 51 A) (hfr:A.frames=some []) (G:Glb w s.heap) (hs:script.length≤100)
  (r:Rd s.heap (fun _=>False) (.lst (script.map V.int)) v) (hQ:∀ h' tk,zW h'→Keep s.heap h'→Q (.bool true) { s with heap:=h',toks:=tk }) :
  wpAny (model pw w) A (call (.ref 190) [v]) Q E s:=by
 refine qx (at28 w) (names:=["script"]) (locs:=oJ) (off:=fun _=>False) (l:=[.lst (script.map V.int)]) (by rfl) (yYn _) room G (fun _ h=>h.elim) (RdL.one r) rfl fun env m cm ad s₁ henv F=>?_
 have hp:paL (A.deeper env) env:=⟨Around.frames_deeper hfr,by rw [henv];rfl⟩
 refine xok (snd (yYl w)) (yYm w) 100 hp F (xZ6 script hs (fun X=>X=.bool true) rfl) fun f s' o=>?_
 cases f with
 | next=>apply bc;intro hQ;rcases o with ⟨ρ',m',cm',ad',k1,F',_⟩;refine hQ ?_;clear hQ;contradiction
 | brk=>apply bc;intro hQ;rcases o with ⟨ρ',m',cm',ad',k1,_⟩;refine hQ ?_;clear hQ;exact k1.elim
 | cont=>exact o.elim
 | ret v =>
  apply bc;intro hQ;rcases o with ⟨X,k1,rd,h',tk,rfl,kp,t⟩;refine hQ ?_;clear hQ
  subst k1
  obtain rfl:=rd
  exact hQ h' tk t (kpt G h' kp t)
end
end Mine
end
section
open PySem PySem.W PySem.Calls PyProof.Rows
namespace Mine
noncomputable section
noncomputable def annV:Option Value:=some (.ref 6)
noncomputable def envT:Env:={ scope:=pw.main.scope,locals:=mainNs,globals:=mainNs,cells:=[],code:=.ref 13,frame:=some 14 }
noncomputable def xQ:Code:=.body pw.main.body envT
noncomputable def pos0:Pos:=⟨0,0,0,0⟩
noncomputable def bot:List Frame:=[topFrame pos0]
noncomputable def zk:Drawn:={}
noncomputable def stsB:List Stmt:=[stN 0,stN 1,stN 2,stN 3,stN 4,stN 5,stN 6,stN 7,stN 8]
theorem yYp (w:World):(fun os=>segRunT treeTable pw w 11 annV 1 238 ⟨tA w.params,15,{},#[],zk,187,os⟩ (piecesOf stsB envT xQ pos0 bot)) =
  fun os=>some (.next,⟨tB w.params,57,{},#[],zk,271,os⟩,xQ,⟨76,0,76,8⟩):=by
 kernel_rfl
end
noncomputable section
noncomputable abbrev qK:=Sem Value×Sem Value
noncomputable def sX (run:List qK) (main:Option Addr):Sem (Option Addr):=do
  if run.isEmpty then return main
  match main with
  | none=>return some (← subDict run)
  | some d =>
   let sub ← holding [.ref d] (subDict run)
   (holding [.ref d,.ref sub] (mergeMapping d (.ref sub) false)).onRaise fun x=>do let _ ← holding [.ref d,x] (runValue (.builtin "proto.let_go" {}))
   return some d
noncomputable def dd:List qK→Option Addr→List qK→Sem Value
 | [],main,run=>do
  match ← sX run main with
  | some d=>pure (.ref d)
  | none=>newDict
 | p :: rest,main,run =>
  if (run++[p]).length == 17 then do
   let main ← sX (run++[p]) main
   dd rest main []
  else dd rest main (run++[p])
noncomputable abbrev yYq:=Option (Sem Value)×Sem Value
noncomputable abbrev StS:=Option Addr×List qK
theorem eK (body:yYq→StS→Sem (ForInStep StS)) (tail:StS→Sem Value)
  (hb:∀ (p:qK) (s:StS),body (some p.1,p.2) s=if (s.2++[p]).length == 17 then (sX (s.2++[p]) s.1 >>= fun m=>pure (.yield (m,[]))) else pure (.yield (s.1,s.2++[p])))
  (ht:∀ s:StS,tail s=dd [] s.1 s.2):∀ (l:List qK) (s:StS),(forIn (l.map fun p=>((some p.1,p.2):yYq)) s body >>= tail)=dd l s.1 s.2
 | [],s=>ht s
 | p :: l,s=>by
  rw [List.map_cons,List.forIn_cons,hb]
  show _=if (s.2++[p]).length == 17 then (sX (s.2++[p]) s.1 >>= fun m=>dd l m []) else dd l s.1 (s.2++[p])
  cases h:(s.2++[p]).length == 17 with
  | true =>
   simp only [if_true]
   show Sem.bind (Sem.bind (Sem.bind _ _) _) _=Sem.bind _ _
   rw [Sem.bind_assoc,Sem.bind_assoc]
   congr 1
   funext m
   exact eK body tail hb ht l (m,[])
  | false=>exact eK body tail hb ht l (s.1,s.2++[p])
theorem xZ7 (l:List qK):dictDisplay (l.map fun p=>(some p.1,p.2))=dd l none []:=by
 unfold dictDisplay
 exact eK _ _ (fun p s=>rfl) (fun s=>rfl) l (none,[])
theorem zVx:∀ (l:List qK) (rest:List qK) (main:Option Addr) (run:List qK),run.length + l.length=17→l≠[]→dd (l++rest) main run=(sX (run++l) main).bind fun m=>dd rest m []
 | [],_,_,_,_,h=>absurd rfl h
 | [p],rest,main,run,h,_=>by
  show (if (run++[p]).length == 17 then (sX (run++[p]) main >>= fun m=>dd rest m []) else dd rest main (run++[p]))=_
  rw [List.length_append,h]
  rfl
 | p :: q :: l,rest,main,run,h,_=>by
  show (if (run++[p]).length == 17 then (sX (run++[p]) main >>= fun m=>dd (q :: l++rest) m []) else dd (q :: l++rest) main (run++[p]))=_
  rw [List.length_cons,List.length_cons] at h
  have:(run++[p]).length≠17:=by rw [List.length_append];show run.length + 1≠17;omega
  rw [beq_eq_false_iff_ne.mpr this,zVx (q :: l) rest main (run++[p]) (by rw [List.length_append,List.length_cons];show run.length + 1 + (l.length + 1)=17;omega) (List.cons_ne_nil _ _),List.append_assoc]
  rfl
/-! a run of the machine at the top: m ends in a -/
noncomputable abbrev SGo (w:World) (n:Nat) (s:Shared) (t:Thread):=segGo treeTable pw w 11 annV 1 n s t
noncomputable def Runs (w:World) {α:Type} (m:Sem α) (n:Nat) (s:Shared) (p:Pos) (a:α) (s':Shared) (p':Pos):Prop :=
 ∀ K H gd lv,SGo w n s ⟨m.wrap K H gd lv,xQ,p,bot⟩=some (s',⟨K a,xQ,p',bot⟩)
theorem zVy {w:World} {m:Nat}:∀ {n:Nat} {s s':Shared} {t t':Thread},SGo w n s t=some (s',t')→SGo w (n + m) s t=SGo w m s' t'
 | 0,_,_,_,_,h=>by
  rw [Nat.zero_add]
  obtain ⟨rfl,rfl⟩:=Prod.mk.inj (Option.some.inj h);rfl
 | n + 1,s,s',t,t',h=>by
  rw [Nat.succ_add]
  unfold SGo segGo at h
  conv=>lhs;unfold SGo segGo
  cases he:endAt 1 t with
  | some f=>rw [he] at h;contradiction
  | none =>
   rw [he] at h
   cases hk:stepOk 11 annV t with
   | false=>rw [hk] at h;contradiction
   | true =>
    rw [hk] at h
    cases hs:step (denote treeTable) pw w s t with
    | halt o s₂=>rw [hs] at h;contradiction
    | go s₂ t₂=>rw [hs] at h;exact zVy h
section
variable {w:World} {α β:Type} {s s' s'':Shared} {p p' p'':Pos} {n n':Nat}
theorem Runs.pure (a:α):Runs w (.pure a) 0 s p a s p:=fun _ _ _ _=>rfl
theorem Runs.bind {m:Sem α} {f:α→Sem β} {a:α} {b:β} (h:Runs w m n s p a s' p') (k:Runs w (f a) n' s' p' b s'' p''):Runs w (m.bind f) (n + n') s p b s'' p'':=fun K H gd lv=>by
 rw [Sem.bind_eq_wrap,Sem.wrap_wrap]
 exact (zVy (h _ _ _ _)).trans (k K H gd lv)
theorem Runs.keep {m:Sem α} {a:α} (vs:List Value) (h:Runs w m n s p a s' p'):Runs w (m.keep vs) n s p a s' p':=fun K H gd lv=>by
 rw [Sem.keep_eq_wrap,Sem.wrap_wrap]
 exact h _ _ _ _
theorem Runs.holding {m:Sem α} {a:α} (vs:List Value) (h:Runs w m n s p a s' p'):Runs w (holding vs m) n s p a s' p':=by
 unfold PySem.holding
 split
 ·exact h
 ·exact h.keep _
theorem Runs.onRaise {m:Sem α} {a:α} (f:Value→Sem Unit) (h:Runs w m n s p a s' p'):Runs w (m.onRaise f) n s p a s' p':=fun K H gd lv=>by
 rw [Sem.onRaise_eq_wrap,Sem.wrap_wrap]
 exact h _ _ _ _
variable {h:Heap} {k:Nat} {os:OsState}
noncomputable abbrev Sh (h:Heap) (k:Nat) (os:OsState):Shared:=⟨h,#[],zk,k,os⟩
theorem Runs.at {f:Unit→Sem α} {q:Pos} {a:α} (x:Runs w (f ()) n (Sh h k os) q a s' p'):Runs w (.at q f) (n + 1) (Sh h k os) p a s' p':=fun K H gd lv=>x K H gd lv
theorem Runs.rule {f:Unit→Sem α} {t:String} {a:α} (x:Runs w (f ()) n (Sh h k os) p a s' p'):Runs w (.rule t f) (n + 1) (Sh h k os) p a s' p':=fun K H gd lv=>x K H gd lv
theorem Runs.ask {f:Setting→Sem α} {a:α} (x:Runs w (f ⟨pw,w.params⟩) n (Sh h k os) p a s' p'):Runs w (.ask f) (n + 1) (Sh h k os) p a s' p':=fun K H gd lv=>x K H gd lv
theorem Runs.fresh {f:Tok→Sem α} {a:α} (x:Runs w (f k) n (Sh h (k + 1) os) p a s' p'):Runs w (.fresh f) (n + 1) (Sh h k os) p a s' p':=fun K H gd lv=>x K H gd lv
theorem Runs.alloc {f:Addr→Sem α} {o:Obj} {a:α} (x:Runs w (f h.objs.size) n (Sh (h.push o) k os) p a s' p'):Runs w (.alloc o f) (n + 1) (Sh h k os) p a s' p':=fun K H gd lv=>x K H gd lv
theorem Runs.load {f:Obj→Sem α} {d:Addr} {q:Option Value} {o:Obj} {a:α} (g:h.get? d=some o) (x:Runs w (f o) n (Sh h k os) p a s' p'):Runs w (.load d q f) (n + 1) (Sh h k os) p a s' p':=fun K H gd lv=>by
 have e:step (denote treeTable) pw w (Sh h k os) ⟨(Sem.load d q f).wrap K H gd lv,xQ,p,bot⟩=.go (Sh h k os) ⟨(f o).wrap K H gd lv,xQ,p,bot⟩:=by
  show (match h.get? d with | some o=>_ | none=>_)=_
  rw [g]
 show (match step (denote treeTable) pw w (Sh h k os) ⟨(Sem.load d q f).wrap K H gd lv,xQ,p,bot⟩ with | .go s' t'=>segGo treeTable pw w 11 annV 1 n s' t' | .halt _ _=>none)=_
 rw [e]
 exact x K H gd lv
theorem Runs.update {f:Unit→Sem α} {g:Obj→Obj} {d:Addr} {q:Option Value} {o:Obj} {a:α} (hd:Nat.ble 11 d=true) (e:h.get? d=some o) (x:Runs w (f ()) n (Sh (h.update d g) k os) p a s' p'):Runs w (.update d q g f) (n + 1) (Sh h k os) p a s' p':=fun K H gd lv=>by
 have e1:step (denote treeTable) pw w (Sh h k os) ⟨(Sem.update d q g f).wrap K H gd lv,xQ,p,bot⟩=.go (Sh (h.update d g) k os) ⟨(f ()).wrap K H gd lv,xQ,p,bot⟩:=by
  show (if (h.get? d).isSome then _ else _)=_
  rw [e]
  rfl
 have e2:stepOk 11 annV ⟨(Sem.update d q g f).wrap K H gd lv,xQ,p,bot⟩=true:=by
  show (Nat.ble 11 d || _ || _ || _)=true
  rw [hd]
  rfl
 show (match stepOk 11 annV ⟨(Sem.update d q g f).wrap K H gd lv,xQ,p,bot⟩ with | false=>none | true=>match step (denote treeTable) pw w (Sh h k os) ⟨(Sem.update d q g f).wrap K H gd lv,xQ,p,bot⟩ with | .go s' t'=>segGo treeTable pw w 11 annV 1 n s' t' | .halt _ _=>none)=_
 rw [e1,e2]
 exact x K H gd lv
end
end
noncomputable section
noncomputable def pS:Pos:=⟨144,0,144,8704⟩
noncomputable def pD:Pos:=⟨144,16,144,8704⟩
/-! heaps as lists -/
noncomputable abbrev HL (L:List Obj):Heap:=⟨L.toArray,{}⟩
noncomputable abbrev dO (es:List DictEntry) (n:Nat):Obj:=⟨.type "dict",none,.dict es.toArray n,#[]⟩
theorem mV (A:List Obj) (es:List DictEntry) (n:Nat) (B:List Obj) {d:Addr} (hd:d=A.length):(HL (A++dO es n :: B)).get? d=some (dO es n):=by
 subst hd
 unfold Heap.get?
 show (match (A++dO es n :: B).toArray[A.length]? with | some ⟨_,_,.freed,_⟩=>none | o=>o)=_
 rw [List.getElem?_toArray,List.getElem?_append_right (Nat.le_refl _),Nat.sub_self]
 rfl
theorem yYr (A:List Obj) (o:Obj) (B:List Obj) (f:Obj→Obj) {d:Addr} (hd:d=A.length):(HL (A++o :: B)).update d f=HL (A++f o :: B):=by
 subst hd
 show Heap.mk ((A++o :: B).toArray.modify A.length f) _=Heap.mk _ _
 congr 1
 apply Array.ext_getElem?
 intro i
 rw [Array.getElem?_modify,List.getElem?_toArray,List.getElem?_toArray]
 by_cases h:A.length=i
 ·subst h
  rw [if_pos rfl,List.getElem?_append_right (Nat.le_refl _),List.getElem?_append_right (Nat.le_refl _),Nat.sub_self]
  rfl
 ·rw [if_neg h]
  by_cases h2:i < A.length
  ·rw [List.getElem?_append_left h2,List.getElem?_append_left h2]
  ·have:i - A.length=(i - A.length - 1) + 1:=by omega
   rw [List.getElem?_append_right (Nat.le_of_not_lt h2),List.getElem?_append_right (Nat.le_of_not_lt h2),this]
   rfl
/-! the look-up that finds nothing -/
noncomputable def oq (l:List DictEntry) (h:Int):Bool:=l.all fun e=>!(decide (e.hash=h))
theorem eV (es:List DictEntry) (h:Int) (hn:oq es h=true):placesWithHash es.toArray.size (fun i=>es.toArray[i]?.map (·.hash)) h=[]:=by
 unfold placesWithHash
 rw [List.filter_eq_nil_iff]
 intro i hi
 rw [List.mem_range] at hi
 show ¬ (Option.map (fun x:DictEntry=>x.hash) es.toArray[i]? == some h)=true
 rw [Array.getElem?_eq_getElem hi]
 have:=List.all_eq_true.mp hn es.toArray[i] (Array.getElem_mem_toList hi)
 simpa using this
section
variable {w:World} {s s':Shared} {p p':Pos} {h:Heap} {k:Nat} {os:OsState}
theorem zVz {d:Addr} {i:Int} {t:Tok} {es:List DictEntry} {m:Nat} (g:h.get? d=some (dO es m)) (hn:oq es i=true):Runs w (dictFind d (.int i t) i) 1 (Sh h k os) p none (Sh h k os) p:=by
 refine Runs.load g ?_
 show Runs w (if ((Value.int i t :: (placesWithHash es.toArray.size (fun i=>es.toArray[i]?.map (·.hash)) i).filterMap fun i=>es.toArray[i]?.map (·.key)).all carriedByValue)=true then _ else _) _ _ _ _ _ _
 rw [eV es i hn]
 exact Runs.pure _
theorem zV0 {d:Addr} {i:Int} {t:Tok} {v:Value} {A B:List Obj} {es:List DictEntry} {m:Nat} {part:Option Value} (hd:d=A.length) (h11:Nat.ble 11 d=true) (hs:es.length≤100000) :
  Runs w (updateDictKeys d (·.push ⟨i,.int i t,v⟩) part) 3 (Sh (HL (A++dO es m :: B)) k os) p () (Sh (HL (A++dO (es++[⟨i,.int i t,v⟩]) (m + 1) :: B)) k os) p:=by
 refine Runs.load (mV A es m B hd) ?_
 refine Runs.update h11 (mV A es m B hd) ?_
 rw [yYr A _ B _ hd]
 show Runs w _ 1 (Sh (HL (A++⟨.type "dict",none,.dict (es.toArray.push ⟨i,.int i t,v⟩) (m + 1),#[]⟩ :: B)) k os) _ _ _ _
 rw [List.push_toArray]
 refine Runs.load (mV A _ _ B hd) ?_
 show Runs w (match (if (es++[_]).toArray.size > sizeLine + 1 then some "dict:memory" else none) with | some what=>unsupported what | _=>pure ()) 0 _ _ _ _ _
 rw [if_neg (by
  show ¬ ((es++[_]).length > sizeLine + 1)
  rw [List.length_append]
  have:sizeLine=16777216:=rfl
  rw [this]
  show ¬ (es.length + 1 > 16777216 + 1)
  omega)]
 exact Runs.pure _
theorem zQ2 {d:Addr} {i:Int} {t:Tok} {v:Value} {A B:List Obj} {es:List DictEntry} {m:Nat} (hd:d=A.length) (h11:Nat.ble 11 d=true) (hs:es.length≤100000) (hn:oq es i=true) :
  Runs w (dictPut d i (.int i t) v) 4 (Sh (HL (A++dO es m :: B)) k os) p () (Sh (HL (A++dO (es++[⟨i,.int i t,v⟩]) (m + 1) :: B)) k os) p:=by
 refine Runs.bind (n:=1) (n':=3) (zVz (mV A es m B hd) hn) ?_
 exact zV0 hd h11 hs
noncomputable def hv (i:Int):Int:=let h:Int:=i.natAbs % (2 ^ 61 - 1:Nat);let h:=if i < 0 then -h else h;if h == -1 then -2 else h
theorem yYs (n:Nat) (hn:n≤2000000):hv (Int.ofNat n)=Int.ofNat n:=by
 unfold hv
 have e:((Int.ofNat n).natAbs:Int) % ((2 ^ 61 - 1:Nat):Int)=Int.ofNat n:=by
  show ((n:Nat):Int) % _=(n:Int)
  rw [Int.emod_eq_of_lt (by omega) (by omega)]
 dsimp only
 have h0:¬ (Int.ofNat n < 0):=by show ¬ ((n:Int) < 0);omega
 rw [e,if_neg h0,beq_eq_false_iff_ne.mpr (by show ((n:Nat):Int)≠-1;omega)]
 rfl
theorem zQ3 (n:Nat) (hn:n≤2000000):pyHashByItsType.reduced (Int.ofNat n)=.pure (Int.ofNat n):=by
 unfold pyHashByItsType.reduced
 have h1:decide (-(2 ^ 63:Int)≤Int.ofNat n)=true:=decide_eq_true (by show -(2 ^ 63:Int)≤(n:Int);omega)
 have h2:decide (Int.ofNat n < 2 ^ 63)=true:=decide_eq_true (by show (n:Int) < 2 ^ 63;omega)
 rw [h1,h2]
 show Sem.pure (if (Int.ofNat n == -1)=true then _ else _)=_
 rw [beq_eq_false_iff_ne.mpr (by show ((n:Nat):Int)≠-1;omega)]
 rfl
theorem zV1 (i:Int) (t:Tok):Runs w (call (.builtin "int.__hash__") [.int i t]) 4 (Sh h k os) p (.int (hv i) k) (Sh h (k + 1) os) p:=fun K H gd lv=>by
 kernel_rfl
noncomputable def yQc:Value→Sem Int
 | .int i _=>pyHashByItsType.reduced i
 | .bool b=>pure (if b then 1 else 0)
 | .ref a=>do
   match (← load a).data with
   | .prim (.int i _) =>
    rule "hash.int-subclass"
    let h ← pyHashByItsType.reduced i
    point
    pure h
   | _=>raiseError "TypeError" "__hash__ method should return an integer"
 | r=>do notAStandIn r;raiseError "TypeError" "__hash__ method should return an integer"
noncomputable def hashInt (i:Int) (t:Tok):Sem Int:=.ask fun _=>(call (.builtin "int.__hash__") [.int i t]).bind yQc
theorem zX5 (i:Int) (t:Tok):pyHash (.int i t)=hashInt i t:=by
 show Sem.ask _=Sem.ask _
 congr 1
 funext st
 conv=>lhs;whnf
 dsimp only [Sem.bind]
 generalize st.params.followText "special-get-raises"=b
 cases b
 ·show Sem.call _ _ _ _ _=Sem.call _ _ _ _ _
  congr 1
  funext r
  cases r with
  | error e=>rfl
  | ok f=>cases f with
   | ret v=>cases v <;> rfl
   | _=>rfl
 ·show Sem.call _ _ _ _ _=Sem.call _ _ _ _ _
  congr 1
  funext r
  cases r with
  | error e=>rfl
  | ok f=>cases f with
   | ret v=>cases v <;> rfl
   | _=>rfl
theorem yX7 (n:Nat) (hn:n≤2000000) (t:Tok):Runs w (pyHash (.int (Int.ofNat n) t)) 5 (Sh h k os) p (Int.ofNat n) (Sh h (k + 1) os) p:=by
 rw [zX5]
 refine Runs.ask ?_
 refine Runs.bind (n:=4) (n':=0) (zV1 _ _) ?_
 show Runs w (pyHashByItsType.reduced (hv (Int.ofNat n))) _ _ _ _ _ _
 rw [yYs n hn,zQ3 n hn]
 exact Runs.pure _
theorem zV2 {d:Addr} {n:Nat} (hn:n≤2000000) {t t':Tok} {x:Str} {A B:List Obj} {es:List DictEntry} {m:Nat} (hd:d=A.length) (h11:Nat.ble 11 d=true) (hs:es.length≤100000) (hh:oq es (Int.ofNat n)=true) :
  Runs w (dictSet d (.int (Int.ofNat n) t) (.str x t')) 10 (Sh (HL (A++dO es m :: B)) k os) p () (Sh (HL (A++dO (es++[⟨Int.ofNat n,.int (Int.ofNat n) t,.str x t'⟩]) (m + 1) :: B)) (k + 1) os) p:=by
 refine Runs.bind (n:=5) (n':=5) (yX7 n hn t) ?_
 refine Runs.bind (n:=1) (n':=4) (zVz (mV A es m B hd) hh) ?_
 refine Runs.rule ?_
 exact zV0 hd h11 hs
/-! the items -/
noncomputable abbrev D:=Nat×String
noncomputable def uj (d:D):qK:=(constValue envT (.int (Int.ofNat d.1)),do let x ← constValue envT (.str (Str.ofString d.2));standAt pD;pure x)
noncomputable def oneQ (d:Addr) (q:qK):Sem (ForInStep PUnit) :=
 q.1.bind fun kv=>(holding [kv] q.2).bind fun vv=>(holding [kv,vv] (dictSet d kv vv)).bind fun _=>.pure (.yield ⟨⟩)
theorem yX8 {d:Addr} {q:D} (hn:q.1≤2000000) {A B:List Obj} {es:List DictEntry} {m:Nat} (hd:d=A.length) (h11:Nat.ble 11 d=true) (hs:es.length≤100000) (hh:oq es (Int.ofNat q.1)=true) :
  Runs w (oneQ d (uj q)) 13 (Sh (HL (A++dO es m :: B)) k os) p (.yield ⟨⟩) (Sh (HL (A++dO (es++[ie q.1 q.2 k]) (m + 1) :: B)) (k + 3) os) pD:=by
 refine Runs.bind (n:=1) (n':=12) (a:=.int (Int.ofNat q.1) k) (Runs.fresh (Runs.pure _)) ?_
 refine Runs.bind (n:=2) (n':=10) (a:=.str (Str.ofString q.2) (k + 1)) (Runs.fresh (Runs.at (Runs.pure _))) ?_
 exact Runs.bind (n:=10) (n':=0) (zV2 hn hd h11 hs hh) (Runs.pure _)
noncomputable def upD:Nat→List D→Bool
 | _,[]=>true
 | m,d :: r=>Nat.blt m d.1 && Nat.ble d.1 2000000 && upD d.1 r
noncomputable def topD:Nat→List D→Nat
 | m,[]=>m
 | _,d :: r=>topD d.1 r
noncomputable def lowE (m:Nat) (es:List DictEntry):Prop:=∀ e∈es,e.hash≤Int.ofNat m
theorem zV3 {m n:Nat} {es:List DictEntry} (hl:lowE m es) (h:m < n):oq es (Int.ofNat n)=true:=by
 refine List.all_eq_true.mpr fun e he=>?_
 have h1:e.hash≤(m:Int):=hl e he
 have h2:e.hash≠Int.ofNat n:=by show e.hash≠(n:Int);omega
 rw [decide_eq_false h2];rfl
theorem lV {m n:Nat} {es:List DictEntry} (hl:lowE m es) (h:m < n) (x:String) (t:Nat):lowE n (es++[ie n x t]):=fun e he=>by
 rcases List.mem_append.mp he with he | he
 ·exact Int.le_trans (hl e he) (Int.ofNat_le.mpr (Nat.le_of_lt h))
 ·rw [List.mem_singleton.mp he];exact Int.le_refl _
theorem iJ {m:Nat} {d:D} {r:List D} (h:upD m (d :: r)=true):m < d.1∧d.1≤2000000∧upD d.1 r=true:=by
 have h:=Bool.and_eq_true_iff.mp h
 have h1:=Bool.and_eq_true_iff.mp h.1
 exact ⟨Nat.le_of_ble_eq_true h1.1,Nat.le_of_ble_eq_true h1.2,h.2⟩
theorem Runs.to {α:Type} {m:Sem α} {n n':Nat} {a:α} {s s' s'':Shared} (h:Runs w m n s p a s' p') (e:n=n') (e2:s'=s''):Runs w m n' s p a s'' p':=by subst e;subst e2;exact h
theorem zQ4:∀ (l:List D) (m t:Nat) (es:List DictEntry),upD m l=true→lowE m es→lowE (topD m l) (es++ies t l)
 | [],m,t,es,_,h=>by rw [ies,List.append_nil];exact h
 | d :: r,m,t,es,hu,h=>by
  obtain ⟨h1,h2,h3⟩:=iJ hu
  have:=zQ4 r d.1 (t + 3) (es++[ie d.1 d.2 t]) h3 (lV h h1 _ _)
  rw [List.append_assoc] at this
  exact this
theorem eW:∀ (l:List D) (t:Nat),(ies t l).length=l.length
 | [],_=>rfl
 | d :: r,t=>congrArg (· + 1) (eW r (t + 3))
theorem zZ1 {d:Addr} {A B:List Obj} (hd:d=A.length) (h11:Nat.ble 11 d=true) (body:qK→PUnit→Sem (ForInStep PUnit)) (hb:∀ q u,body q u=oneQ d q) :
  ∀ (l:List D) (es:List DictEntry) (n t m:Nat),upD m l=true→lowE m es→es.length + l.length≤100000 →
   Runs w (forIn (l.map uj) PUnit.unit body) (13 * l.length) (Sh (HL (A++dO es n :: B)) t os) pD ⟨⟩ (Sh (HL (A++dO (es++ies t l) (n + l.length) :: B)) (t + 3 * l.length) os) pD
 | [],es,n,t,m,_,_,_=>by
  rw [ies,List.append_nil]
  exact Runs.pure _
 | q :: l,es,n,t,m,hu,hl,hs=>by
  obtain ⟨h1,h2,h3⟩:=iJ hu
  rw [List.length_cons] at hs
  rw [List.map_cons,List.forIn_cons,hb]
  have ih:=zZ1 (B:=B) hd h11 body hb l (es++[ie q.1 q.2 t]) (n + 1) (t + 3) q.1 h3 (lV hl h1 _ _) (by rw [List.length_append];show es.length + 1 + l.length≤_;omega)
  refine Runs.to (Runs.bind (n:=13) (yX8 h2 hd h11 (by omega) (zV3 hl h1)) ih) (by rw [List.length_cons];omega) ?_
  rw [List.append_assoc,List.length_cons,show n + 1 + l.length=n + (l.length + 1) by omega,show t + 3 + 3 * l.length=t + 3 * (l.length + 1) by omega]
  rfl
theorem zV4 (L:List Obj) (o:Obj):(HL L).push o=HL (L++[o]):=by
 show Heap.mk (L.toArray.push o) _=_
 rw [List.push_toArray]
theorem zV5 {L:List Obj} (h11:Nat.ble 11 L.length=true) (l:List D) (hl:l.length=17) (t m:Nat) (hu:upD m l=true) :
  Runs w (subDict (l.map uj)) 223 (Sh (HL L) t os) pD L.length (Sh (HL (L++[dO (ies t l) 17])) (t + 51) os) pD:=by
 unfold subDict
 refine Runs.bind (n:=1) (n':=222) (Runs.alloc (Runs.pure _)) ?_
 rw [zV4]
 refine Runs.bind (n:=222) (n':=0) (a:=⟨⟩) ?_ (Runs.pure _)
 refine Runs.holding _ ?_
 rw [List.length_map,hl,if_neg (by decide)]
 refine Runs.rule ?_
 refine Runs.bind (n:=0) (n':=221) (Runs.pure _) ?_
 refine Runs.bind (n:=221) (n':=0) (a:=⟨⟩) ?_ (Runs.pure _)
 refine Runs.to (zZ1 (A:=L) (B:=[]) rfl h11 _ (by rintro ⟨k,v⟩ u;rfl) l [] 0 t m hu (fun _ h=>absurd h List.not_mem_nil) (by rw [hl];decide)) (by rw [hl]) ?_
 rw [hl]
 rfl
/-! the last four -/
noncomputable def yQd:Nat→List D→List (Value×Value)
 | _,[]=>[]
 | t,d :: r=>(.int (Int.ofNat d.1) t,.str (Str.ofString d.2) (t + 1)) :: yQd (t + 2) r
noncomputable def ies2:Nat→List D→List DictEntry
 | _,[]=>[]
 | t,d :: r=>ie d.1 d.2 t :: ies2 (t + 2) r
theorem yQe:∀ (l:List D) (t:Nat),(ies2 t l).length=l.length
 | [],_=>rfl
 | d :: r,t=>congrArg (· + 1) (yQe r (t + 2))
theorem aX:∀ (l:List D) (t:Nat),Runs w (evalPairs (l.map uj)) (3 * l.length) (Sh h t os) pD (yQd t l) (Sh h (t + 2 * l.length) os) pD
 | [],t=>Runs.pure _
 | q :: l,t=>by
  have ih:=aX l (t + 2)
  refine Runs.to (Runs.bind (n:=1) (n':=2 + (3 * l.length + 0)) (a:=.int (Int.ofNat q.1) t) (Runs.fresh (Runs.pure _)) ?_) (by rw [List.length_cons];omega) rfl
  refine Runs.bind (n:=2) (a:=.str (Str.ofString q.2) (t + 1)) (Runs.fresh (Runs.at (Runs.pure _))) ?_
  refine Runs.to (Runs.bind (Runs.holding _ ih) (Runs.pure _)) rfl ?_
  rw [List.length_cons,show t + 2 + 2 * l.length=t + 2 * (l.length + 1) by omega]
theorem zZ2 {d:Addr} {A B:List Obj} (hd:d=A.length) (h11:Nat.ble 11 d=true) (body:Value×Value→PUnit→Sem (ForInStep PUnit)) (hb:∀ q u,body q u=(dictSet d q.1 q.2).bind fun _=>.pure (.yield ⟨⟩)) :
  ∀ (l:List D) (es:List DictEntry) (n u t m:Nat),upD m l=true→lowE m es→es.length + l.length≤100000 →
   Runs w (forIn (yQd u l) PUnit.unit body) (10 * l.length) (Sh (HL (A++dO es n :: B)) t os) pD ⟨⟩ (Sh (HL (A++dO (es++ies2 u l) (n + l.length) :: B)) (t + l.length) os) pD
 | [],es,n,u,t,m,_,_,_=>by
  rw [ies2,List.append_nil]
  exact Runs.pure _
 | q :: l,es,n,u,t,m,hu,hl,hs=>by
  obtain ⟨h1,h2,h3⟩:=iJ hu
  rw [List.length_cons] at hs
  rw [yQd,List.forIn_cons,hb]
  have ih:=zZ2 (B:=B) hd h11 body hb l (es++[ie q.1 q.2 u]) (n + 1) (u + 2) (t + 1) q.1 h3 (lV hl h1 _ _) (by rw [List.length_append];show es.length + 1 + l.length≤_;omega)
  refine Runs.to (Runs.bind (n:=10) (Runs.bind (n:=10) (n':=0) (zV2 h2 hd h11 (by omega) (zV3 hl h1)) (Runs.pure _)) ih) (by rw [List.length_cons];omega) ?_
  rw [List.append_assoc,List.length_cons,show n + 1 + l.length=n + (l.length + 1) by omega,show t + 1 + l.length=t + (l.length + 1) by omega]
  rfl
theorem yQf {L:List Obj} (h11:Nat.ble 11 L.length=true) (l:List D) (hl:l.length=4) (t m:Nat) (hu:upD m l=true) :
  Runs w (subDict (l.map uj)) 53 (Sh (HL L) t os) pD L.length (Sh (HL (L++[dO (ies2 t l) 4])) (t + 12) os) pD:=by
 unfold subDict
 refine Runs.bind (n:=1) (n':=52) (Runs.alloc (Runs.pure _)) ?_
 rw [zV4]
 refine Runs.bind (n:=52) (n':=0) (a:=⟨⟩) ?_ (Runs.pure _)
 refine Runs.holding _ ?_
 rw [List.length_map,hl,if_pos (by decide)]
 have h1:=aX (w:=w) (os:=os) (h:=HL (L++[dO [] 0])) l t
 rw [hl] at h1
 refine Runs.bind (n:=12) (n':=40) h1 ?_
 refine Runs.holding _ ?_
 refine Runs.bind (n:=40) (n':=0) (a:=⟨⟩) ?_ (Runs.pure _)
 refine Runs.to (zZ2 (A:=L) (B:=[]) rfl h11 _ (by rintro ⟨k,v⟩ u;rfl) l [] 0 t _ m hu (fun _ h=>absurd h List.not_mem_nil) (by rw [hl];decide)) (by rw [hl]) ?_
 rw [hl]
 rfl
/-! the merge -/
theorem zZ3 {d a:Addr} {A M:List Obj} {E:List DictEntry} {N:Nat} (hd:d=A.length) (ha:a=A.length + 1 + M.length) (h11:Nat.ble 11 d=true) (body:Nat→PUnit→Sem (ForInStep PUnit))
  (hb:∀ i u,body i u=(dictEntries a).bind fun es=>match es[i]? with
   | some e=>(holding [e.key,e.val] (dictPut d e.hash e.key e.val)).bind fun _=>(dictEpoch a).bind fun m=>if m != N then unsupported "dict.changed-during-merge" else .pure (.yield ⟨⟩)
   | none=>unsupported "dict.changed-during-merge") :
  ∀ (l done es:List DictEntry) (n t m:Nat),E=done++l→(∀ e∈l,∃ (i:Nat) (t:Tok),e=⟨Int.ofNat i,.int (Int.ofNat i) t,e.val⟩)→(∀ es2 e r,l=es2++e :: r→oq (es++es2) e.hash=true)→es.length + l.length≤100000 →
   Runs w (forIn (List.range' done.length l.length) PUnit.unit body) (6 * l.length) (Sh (HL (A++dO es n :: (M++[dO E N]))) t os) pD ⟨⟩ (Sh (HL (A++dO (es++l) (n + l.length) :: (M++[dO E N]))) t os) pD
 | [],done,es,n,t,m,_,_,_,_=>by
  rw [List.append_nil]
  exact Runs.pure _
 | e :: l,done,es,n,t,m,he,hk,hn,hs=>by
  rw [List.length_cons] at hs
  have ga:∀ (es':List DictEntry) (n':Nat),(HL (A++dO es' n' :: (M++[dO E N]))).get? a=some (dO E N):=fun es' n'=>by
   have:=mV (A++dO es' n' :: M) E N [] (d:=a) (ha.trans (by rw [List.length_append,List.length_cons,Nat.add_assoc,Nat.add_comm 1]))
   rwa [List.append_assoc] at this
  have ih:=zZ3 (E:=E) (N:=N) hd ha h11 body hb l (done++[e]) (es++[e]) (n + 1) t m (by rw [he,List.append_assoc];rfl) (fun x hx=>hk x (List.mem_cons_of_mem _ hx))
   (fun es2 x r hx=>by rw [List.append_assoc];exact hn (e :: es2) x r (by rw [hx];rfl)) (by rw [List.length_append];show es.length + 1 + l.length≤_;omega)
  rw [show (done++[e]).length=done.length + 1 from List.length_append] at ih
  rw [List.length_cons,List.range'_succ,List.forIn_cons,hb]
  obtain ⟨i,tk,ek⟩:=hk e List.mem_cons_self
  have h0:=hn [] e l rfl
  rw [List.append_nil] at h0
  have eh:e.hash=Int.ofNat i:=congrArg DictEntry.hash ek
  have hp:Runs w (dictPut d e.hash e.key e.val) 4 (Sh (HL (A++dO es n :: (M++[dO E N]))) t os) pD () (Sh (HL (A++dO (es++[e]) (n + 1) :: (M++[dO E N]))) t os) pD:=by
   rw [eh] at h0
   have:=zQ2 (w:=w) (k:=t) (os:=os) (p:=pD) (A:=A) (B:=M++[dO E N]) (m:=n) (t:=tk) (v:=e.val) hd h11 (by omega) h0
   rw [← ek] at this
   rw [show e.key=.int (Int.ofNat i) tk from congrArg DictEntry.key ek,eh]
   exact this
  have hE:E.toArray[done.length]?=some e:=by
   rw [List.getElem?_toArray,he,List.getElem?_append_right (Nat.le_refl _),Nat.sub_self];rfl
  refine Runs.to (Runs.bind (n:=6) (a:=ForInStep.yield PUnit.unit) ?_ ih) (Nat.add_comm _ _) ?_
  ·refine Runs.bind (n:=1) (n':=5) (Runs.load (ga _ _) (Runs.pure _)) ?_
   rw [hE]
   refine Runs.bind (n:=4) (n':=1) (Runs.holding _ hp) ?_
   refine Runs.bind (n:=1) (n':=0) (Runs.load (ga _ _) (Runs.pure _)) ?_
   show Runs w (if (N != N)=true then _ else _) _ _ _ _ _ _
   rw [bne_self_eq_false]
   exact Runs.pure _
  ·rw [List.append_assoc,show n + 1 + l.length=n + (l.length + 1) by omega]
   rfl
theorem yX9:isSubtype (.type "dict") (.type "dict")=.pure true:=by kernel_rfl
theorem zV6:typeLookup (.type "dict") "__iter__"=.pure (some (.builtin "dict.__iter__")):=by kernel_rfl
theorem zV7 {d a:Addr} {A M:List Obj} {E es:List DictEntry} {N n t:Nat} (hd:d=A.length) (ha:a=A.length + 1 + M.length) (h11:Nat.ble 11 d=true) (hs:(a == sysModules)=false) (he:es≠[])
  (hk:∀ e∈E,∃ (i:Nat) (t:Tok),e=⟨Int.ofNat i,.int (Int.ofNat i) t,e.val⟩) (hn:∀ es2 e r,E=es2++e :: r→oq (es++es2) e.hash=true) (hl:es.length + E.length≤100000) :
  Runs w (mergeMapping d (.ref a) false) (5 + 6 * E.length) (Sh (HL (A++dO es n :: (M++[dO E N]))) t os) pD ⟨⟩ (Sh (HL (A++dO (es++E) (n + E.length) :: (M++[dO E N]))) t os) pD:=by
 have ga:(HL (A++dO es n :: (M++[dO E N]))).get? a=some (dO E N):=by
  have:=mV (A++dO es n :: M) E N [] (d:=a) (ha.trans (by rw [List.length_append,List.length_cons,Nat.add_assoc,Nat.add_comm 1]))
  rwa [List.append_assoc] at this
 have gd:=mV A es n (M++[dO E N]) hd
 unfold mergeMapping
 refine Runs.to (Runs.bind (n:=1) (n':=4 + 6 * E.length) (a:=true) (Runs.load ga (by show Runs w (isSubtype (.type "dict") (.type "dict")) _ _ _ _ _ _;rw [yX9];exact Runs.pure _)) ?_) (by omega) rfl
 refine Runs.to (Runs.bind (n:=1) (n':=3 + 6 * E.length) (a:=some (.builtin "dict.__iter__")) (Runs.load ga (by show Runs w (typeLookup (.type "dict") "__iter__") _ _ _ _ _ _;rw [zV6];exact Runs.pure _)) ?_) (by omega) rfl
 have hq:(some (Value.builtin "dict.__iter__") == some (Value.builtin "dict.__iter__"))=true:=by kernel_rfl
 rw [hq]
 refine Runs.to (Runs.bind (n:=0) (n':=3 + 6 * E.length) (Runs.pure true) ?_) (Nat.zero_add _) rfl
 show Runs w (if (a == sysModules)=true then _ else _) _ _ _ _ _ _
 rw [hs]
 refine Runs.to (Runs.bind (n:=1) (n':=1 + (1 + 6 * E.length)) (Runs.load gd (Runs.pure _)) ?_) (by omega) rfl
 cases es with
 | nil=>exact absurd rfl he
 | cons e0 es0 =>
  refine Runs.bind (n:=1) (Runs.load ga (Runs.pure _)) ?_
  refine Runs.bind (n:=1) (Runs.load ga (Runs.pure _)) ?_
  rw [show List.range E.toArray.size=List.range' ([]:List DictEntry).length E.length from List.range_eq_range']
  refine Runs.to (Runs.bind (n':=0) (a:=⟨⟩) (zZ3 (es:=e0 :: es0) hd ha h11 _ (by
   intro i u
   show Sem.bind _ _=Sem.bind _ _
   congr 1
   funext es
   cases es[i]? with
   | none=>rfl
   | some e =>
    show Sem.bind _ _=Sem.bind _ _
    congr 1) E [] n t 0 rfl hk hn hl) (Runs.pure _)) rfl rfl
/-! one flush,the whole display -/
inductive Ents:List DictEntry→List D→Prop
 | nil:Ents [] []
 | cons (d:D) (t:Nat) {E:List DictEntry} {l:List D} (h:Ents E l):Ents (ie d.1 d.2 t :: E) (d :: l)
theorem yYt:∀ (l:List D) (t:Nat),Ents (ies t l) l
 | [],_=>.nil
 | d :: r,t=>.cons d t (yYt r _)
theorem yYu:∀ (l:List D) (t:Nat),Ents (ies2 t l) l
 | [],_=>.nil
 | d :: r,t=>.cons d t (yYu r _)
theorem Ents.len {E:List DictEntry} {l:List D} (x:Ents E l):E.length=l.length:=by
 induction x with
 | nil=>rfl
 | cons d t h ih=>exact congrArg (· + 1) ih
theorem Ents.keys {E:List DictEntry} {l:List D} (x:Ents E l):∀ e∈E,∃ (i:Nat) (t:Tok),e=⟨Int.ofNat i,.int (Int.ofNat i) t,e.val⟩:=by
 induction x with
 | nil=>exact fun e h=>absurd h List.not_mem_nil
 | cons d t h ih =>
  intro e he
  rcases List.mem_cons.mp he with he | he
  ·subst he;exact ⟨d.1,t,rfl⟩
  ·exact ih e he
theorem Ents.new {E:List DictEntry} {l:List D} (x:Ents E l):∀ (m:Nat) (es:List DictEntry),upD m l=true→lowE m es→∀ es2 e r,E=es2++e :: r→oq (es++es2) e.hash=true:=by
 induction x with
 | nil=>exact fun m es _ _ es2 e r h=>absurd (congrArg List.length h) (by rw [List.length_append,List.length_cons];exact (Nat.succ_ne_zero _).symm)
 | cons d t h ih =>
  intro m es hu hl es2 e r he
  obtain ⟨h1,h2,h3⟩:=iJ hu
  cases es2 with
  | nil =>
   obtain ⟨rfl,_⟩:=List.cons.inj he
   rw [List.append_nil]
   exact zV3 hl h1
  | cons x es2 =>
   obtain ⟨rfl,he2⟩:=List.cons.inj he
   have:=ih d.1 (es++[ie d.1 d.2 t]) h3 (lV hl h1 _ _) es2 e r he2
   rwa [List.append_assoc] at this
theorem zZ4 {A subs:List Obj} (hA:A.length=104) {l:List D} {E es:List DictEntry} {n N t t' m c:Nat} (x:Ents E l) (hl:l≠[]) (hu:upD m l=true) (hm:lowE m es) (he:es≠[]) (hs:es.length + l.length≤100000)
  (h:Runs w (subDict (l.map uj)) c (Sh (HL (A++dO es n :: subs)) t os) pD (A++dO es n :: subs).length (Sh (HL ((A++dO es n :: subs)++[dO E N])) t' os) pD) :
  Runs w (sX (l.map uj) (some 104)) (c + (5 + 6 * l.length)) (Sh (HL (A++dO es n :: subs)) t os) pD (some 104) (Sh (HL (A++dO (es++E) (n + l.length) :: (subs++[dO E N]))) t' os) pD:=by
 have e0:(l.map uj).isEmpty=false:=by
  cases l with
  | nil=>exact absurd rfl hl
  | cons a b=>rfl
 have ha:(A++dO es n :: subs).length=A.length + 1 + subs.length:=by rw [List.length_append,List.length_cons,Nat.add_assoc,Nat.add_comm 1]
 unfold sX
 rw [e0]
 refine Runs.bind (n:=c) (Runs.holding _ h) ?_
 rw [List.append_assoc]
 rw [← x.len] at hs ⊢
 refine Runs.bind (n:=5 + 6 * E.length) (n':=0) (a:=⟨⟩) (Runs.onRaise _ (Runs.holding _ (zV7 hA.symm ha (by decide) ?_ he x.keys (x.new m es hu hm) hs))) (Runs.pure _)
 rw [ha,hA,beq_eq_false_iff_ne]
 show 104 + 1 + subs.length≠1
 omega
theorem zZ5:∀ (l:List qK) (main:Option Addr) (run:List qK),run.length + l.length < 17→dd l main run=dd [] main (run++l)
 | [],main,run,_=>by rw [List.append_nil]
 | p :: l,main,run,h=>by
  rw [List.length_cons] at h
  have:(run++[p]).length≠17:=by rw [List.length_append];show run.length + 1≠17;omega
  show (if (run++[p]).length == 17 then (sX (run++[p]) main >>= fun m=>dd l m []) else dd l main (run++[p]))=_
  rw [beq_eq_false_iff_ne.mpr this]
  show dd l main (run++[p])=_
  rw [zZ5 l main (run++[p]) (by rw [List.length_append];show run.length + 1 + l.length < 17;omega),List.append_assoc]
  rfl
noncomputable def yQg:Nat→Nat→List D→List Obj
 | 0,t,l=>[dO (ies2 t l) 4]
 | m + 1,t,l=>dO (ies t (l.take 17)) 17 :: yQg m (t + 51) (l.drop 17)
noncomputable def yQh:Nat→Nat→List D→List DictEntry
 | 0,t,l=>ies2 t l
 | m + 1,t,l=>ies t (l.take 17)++yQh m (t + 51) (l.drop 17)
theorem zV8:∀ (a b:List D) (m:Nat),upD m (a++b)=true→upD m a=true∧upD (topD m a) b=true
 | [],b,m,h=>⟨rfl,h⟩
 | d :: a,b,m,h=>by
  obtain ⟨h1,h2,h3⟩:=iJ h
  obtain ⟨h4,h5⟩:=zV8 a b d.1 h3
  exact ⟨Bool.and_eq_true_iff.mpr ⟨(Bool.and_eq_true_iff.mp h).1,h4⟩,h5⟩
theorem yYv {A:List Obj} (hA:A.length=104):∀ (m:Nat) (l:List D) (es:List DictEntry) (n:Nat) (subs:List Obj) (t top:Nat),l.length=17 * m + 4→upD top l=true→lowE top es→es≠[]→es.length + l.length≤100000 →
  Runs w (dd (l.map uj) (some 104) []) (330 * m + 82) (Sh (HL (A++dO es n :: subs)) t os) pD (.ref 104) (Sh (HL (A++dO (es++yQh m t l) (n + l.length) :: (subs++yQg m t l))) (t + 51 * m + 12) os) pD
 | 0,l,es,n,subs,t,top,hl,hu,hm,he,hs=>by
  rw [zZ5 _ _ _ (by rw [List.length_map,hl];decide)]
  have hn:l≠[]:=fun q=>by rw [q] at hl;contradiction
  have:=zZ4 (n:=n) hA (yYu l t) hn hu hm he hs (yQf (w:=w) (os:=os) (L:=A++dO es n :: subs) (by rw [List.length_append,hA];exact Nat.ble_eq_true_of_le (Nat.le_trans (by decide) (Nat.le_add_right 104 _))) l hl t top hu)
  rw [hl] at this
  refine Runs.to (Runs.bind (n:=82) (n':=0) this (Runs.pure _)) rfl ?_
  rw [hl];rfl
 | m + 1,l,es,n,subs,t,top,hl,hu,hm,he,hs=>by
  have h17:(l.take 17).length=17:=by rw [List.length_take,hl];omega
  have hd:(l.drop 17).length=17 * m + 4:=by rw [List.length_drop,hl];omega
  have hn:l.take 17≠[]:=fun q=>by rw [q] at h17;contradiction
  obtain ⟨u1,u2⟩:=zV8 (l.take 17) (l.drop 17) top (by rw [List.take_append_drop];exact hu)
  have e:l.map uj=(l.take 17).map uj++(l.drop 17).map uj:=by rw [← List.map_append,List.take_append_drop]
  rw [e,zVx _ _ _ _ (by rw [List.length_map,h17];rfl) (by rw [Ne,List.map_eq_nil_iff];exact hn)]
  have fl:=zZ4 (n:=n) hA (yYt (l.take 17) t) hn u1 hm he (by rw [h17];omega) (zV5 (w:=w) (os:=os) (L:=A++dO es n :: subs) (by rw [List.length_append,hA];exact Nat.ble_eq_true_of_le (Nat.le_trans (by decide) (Nat.le_add_right 104 _))) (l.take 17) h17 t top u1)
  rw [h17] at fl
  have ih:=yYv hA m (l.drop 17) (es++ies t (l.take 17)) (n + 17) (subs++[dO (ies t (l.take 17)) 17]) (t + 51) _ hd u2 (zQ4 _ _ t _ u1 hm) (by
   intro q
   exact he (List.append_eq_nil_iff.mp q).1) (by rw [List.length_append,eW,h17,hd];omega)
  refine Runs.to (Runs.bind (n:=330) fl ih) (by omega) ?_
  rw [List.append_assoc,List.append_assoc,hd,hl,show n + 17 + (17 * m + 4)=n + (17 * (m + 1) + 4) by omega,show t + 51 + 51 * m + 12=t + 51 * (m + 1) + 12 by omega]
  rfl
theorem yYw {A:List Obj} (hA:A.length=104) (l:List D) (t:Nat) (hl:l.length=17 * 38 + 4) (hu:upD 0 l=true) :
  Runs w (dd (l.map uj) none []) (223 + (330 * 37 + 82)) (Sh (HL A) t os) pD (.ref 104) (Sh (HL (A++dO (ies t (l.take 17)++yQh 37 (t + 51) (l.drop 17)) 650 :: yQg 37 (t + 51) (l.drop 17))) (t + 51 * 38 + 12) os) pD:=by
 have h17:(l.take 17).length=17:=by rw [List.length_take,hl];decide
 have hd:(l.drop 17).length=17 * 37 + 4:=by rw [List.length_drop,hl]
 have hn:l.take 17≠[]:=fun q=>by rw [q] at h17;contradiction
 obtain ⟨u1,u2⟩:=zV8 (l.take 17) (l.drop 17) 0 (by rw [List.take_append_drop];exact hu)
 have e:l.map uj=(l.take 17).map uj++(l.drop 17).map uj:=by rw [← List.map_append,List.take_append_drop]
 rw [e,zVx _ _ _ _ (by rw [List.length_map,h17];rfl) (by rw [Ne,List.map_eq_nil_iff];exact hn)]
 have e0:((l.take 17).map uj).isEmpty=false:=by
  cases h:l.take 17 with
  | nil=>exact absurd h hn
  | cons a b=>rfl
 have s1:=zV5 (w:=w) (os:=os) (L:=A) (by rw [hA];decide) (l.take 17) h17 t 0 u1
 have fl:Runs w (sX ((l.take 17).map uj) none) 223 (Sh (HL A) t os) pD (some 104) (Sh (HL (A++[dO (ies t (l.take 17)) 17])) (t + 51) os) pD:=by
  unfold sX
  rw [e0]
  rw [hA] at s1
  exact Runs.bind (n:=223) (n':=0) s1 (Runs.pure _)
 have ih:=yYv (w:=w) (os:=os) hA 37 (l.drop 17) (ies t (l.take 17)) 17 [] (t + 51) _ hd u2 (zQ4 _ _ t [] u1 (fun _ h=>absurd h List.not_mem_nil)) (by
  intro q
  have:=eW (l.take 17) t
  rw [q,h17] at this
  contradiction) (by rw [eW,h17,hd];decide)
 refine Runs.to (Runs.bind fl ih) rfl ?_
 rw [hd]
 rfl
end
end
noncomputable section
noncomputable def tgF:List Expr:=match stN 19 with | .Assign t _ _=>t | _=>[]
noncomputable def valF:Expr:=match stN 19 with | .Assign _ v _=>v | _=>default
noncomputable def zQ5:List Expr:=match valF with | .Dict ks _ _=>ks.filterMap id | _=>[]
noncomputable def eY:List Expr:=match valF with | .Dict _ vs _=>vs | _=>[]
noncomputable def zV9:List qK:=(zQ5.map fun e=>eval e envT).zip (eY.map fun e=>(do let x ← eval e envT;standAt pD;pure x:Sem Value))
noncomputable def zWa (v:Value):Sem Flow:=do assignStores envT v (← swappedStores tgF valF envT) ((assignEach tgF envT).map (·.2))
noncomputable def zWb (f:Flow):Sem Flow:=match f with | .next=>execs [] envT | f=>pure f
theorem rj:∀ (ks:List Expr) (env:Env),evalEachOpt (ks.map some) env=(ks.map fun e=>eval e env).map some
 | [],_=>by rw [List.map_nil,evalEachOpt];rfl
 | k :: ks,env=>by
  rw [List.map_cons,evalEachOpt,rj ks env]
  rw [evalOpt];rfl
theorem mW:∀ (ks:List Expr) (env:Env),evalEach ks env=(ks.map fun e=>eval e env)
 | [],_=>by rw [evalEach];rfl
 | k :: ks,env=>by rw [List.map_cons,evalEach,mW ks env]
theorem zZ6 {α β:Type}:∀ (a:List α) (b:List β),(a.map some).zip b=(a.zip b).map fun p=>(some p.1,p.2)
 | [],_=>by simp
 | _ :: _,[]=>by simp
 | x :: a,y :: b=>by simp [zZ6 a b]
theorem yJa:stN 19=.Assign tgF (.Dict (zQ5.map some) eY pD) pS:=by kernel_rfl
theorem yYx:execs [stN 19] envT=.at pS fun _=>.at pD fun _=>((dd zV9 none []).bind zWa).bind zWb:=by
 rw [← xZ7,zV9,← zZ6,← rj]
 have e:(eY.map fun e=>(do let x ← eval e envT;standAt pD;pure x:Sem Value))=(evalEach eY envT).map fun v=>(do let x ← v;standAt pD;pure x:Sem Value):=(by
  rw [mW,List.map_map];rfl)
 rw [e,yJa]
 rfl
theorem zip3 {α β γ δ ε:Type} (f:α→δ) (g:β→ε):∀ (a:List α) (b:List β) (c:List γ),a.length=c.length→b.length=c.length→(a.map f).zip (b.map g)=(a.zip (b.zip c)).map fun t=>(f t.1,g t.2.1)
 | [],_,_,_,_=>rfl
 | _ :: _,[],[],_,_=>rfl
 | _ :: _,[],_ :: _,_,h=>absurd h.symm (Nat.succ_ne_zero _)
 | _ :: _,_ :: _,[],h,_=>absurd h (Nat.succ_ne_zero _)
 | x :: a,y :: b,z :: c,h1,h2=>congrArg ((f x,g y) :: ·) (zip3 f g a b c (Nat.succ.inj h1) (Nat.succ.inj h2))
noncomputable def valE (e:Expr):Sem Value:=do let x ← eval e envT;standAt pD;pure x
theorem xZ8:((zQ5.zip (eY.zip datF)).map fun t=>(eval t.1 envT,valE t.2.1))=(zQ5.zip (eY.zip datF)).map fun t=>uj t.2.2:=by kernel_rfl
theorem yYy {α β γ δ:Type} (f:γ→δ):∀ (a:List α) (b:List β) (c:List γ),a.length=c.length→b.length=c.length→((a.zip (b.zip c)).map fun t=>f t.2.2)=c.map f
 | [],_,[],_,_=>rfl
 | [],_,_ :: _,h,_=>absurd h.symm (Nat.succ_ne_zero _)
 | _ :: _,[],[],h,_=>absurd h (Nat.succ_ne_zero _)
 | _ :: _,[],_ :: _,_,h=>absurd h.symm (Nat.succ_ne_zero _)
 | _ :: _,_ :: _,[],h,_=>absurd h (Nat.succ_ne_zero _)
 | x :: a,y :: b,z :: c,h1,h2=>congrArg (f z :: ·) (yYy f a b c (Nat.succ.inj h1) (Nat.succ.inj h2))
theorem yJb:datF.length=17 * 38 + 4:=by kernel_rfl
theorem yYz:upD 0 datF=true:=by kernel_rfl
theorem zWc:zV9=datF.map uj:=by
 have h1:zQ5.length=datF.length:=by kernel_rfl
 have h2:eY.length=datF.length:=by kernel_rfl
 exact (zip3 _ _ zQ5 eY datF h1 h2).trans (xZ8.trans (yYy uj zQ5 eY datF h1 h2))
noncomputable def K0 (v:Value):Sem Fin:=((zWa v).bind zWb).wrap doneF deadEnd id id
theorem yJc (m:Sem Value):((m.bind zWa).bind zWb).wrap doneF deadEnd id id=m.wrap K0 deadEnd id id:=by
 rw [Sem.bind_assoc,Sem.bind_eq_wrap,Sem.wrap_wrap]
 rfl
theorem ats (w:World) (s:SharedT) (X:Sem Flow) (p:Pos):segGoT treeTable pw w 11 annV 1 2 s ⟨(Sem.at pS fun _=>.at pD fun _=>X).wrap doneF deadEnd id id,xQ,p,bot⟩=some (s,⟨X.wrap doneF deadEnd id id,xQ,pD,bot⟩):=by
 apply bc;intro hQ;rcases s with ⟨t,n,l,g,d,k,os⟩;refine hQ ?_;clear hQ
 rfl
noncomputable abbrev resF (w:World) (os:OsState):Option (Flow×Shared×Code×Pos):=some (.next,SharedT.abs ⟨tF w.params,143,{},#[],zk,2367,os⟩,xQ,⟨144,0,144,13⟩)
noncomputable def tFp (P:Params):BT:=(tF P).set 3 fun _=>oE3 P
theorem xZ9 (P:Params):absHeap (tE P) 104 {}=HL (lE P):=by kernel_rfl
theorem lenE (P:Params):(lE P).length=104:=by kernel_rfl
theorem xXa (P:Params):HL (lE P++dO (ies 416 (datF.take 17)++yQh 37 467 (datF.drop 17)) 650 :: yQg 37 467 (datF.drop 17))=absHeap (tFp P) 143 {}:=by kernel_rfl
theorem xXb (w:World) (os:OsState):segRunT treeTable pw w 11 annV 1 8 ⟨tFp w.params,143,{},#[],zk,2366,os⟩ ⟨K0 (.ref 104),xQ,pD,bot⟩=some (.next,⟨tF w.params,143,{},#[],zk,2367,os⟩,xQ,⟨144,0,144,13⟩):=by
 rw [PySem.W.Fast.te10110043849684766642,PySem.W.Fast.te14364793385576792824]
 kernel_rfl
theorem runF (w:World) (os:OsState):segRun treeTable pw w 11 annV 1 (2 + 12523) (SharedT.abs ⟨tE w.params,104,{},#[],zk,416,os⟩) (piecesOf [stN 19] envT xQ ⟨142,0,143,30⟩ bot)=resF w os:=by
 unfold piecesOf
 rw [yYx]
 refine seg_go (segGo_of (ats w _ _ _)) ?_
 rw [yJc,zWc]
 have h:=yYw (w:=w) (os:=os) (A:=lE w.params) (lenE _) datF 416 yJb yYz K0 deadEnd id id
 show segRun treeTable pw w 11 annV 1 (223 + (330 * 37 + 82) + 8) ⟨absHeap (tE w.params) 104 {},#[],zk,416,os⟩ _=_
 rw [xZ9]
 refine seg_go h ?_
 rw [xXa]
 exact segRun_of (xXb w os)
end
noncomputable section
noncomputable abbrev runT (w:World) (n:Nat) (s:SharedT) (t:Thread):=segRunT treeTable pw w 11 annV 1 n s t
noncomputable def stsC:List Stmt:=[stN 9,stN 10,stN 11,stN 12,stN 13,stN 14,stN 15,stN 16]
noncomputable def stsG:List Stmt:=[stN 20,stN 21,stN 22,stN 23,stN 24,stN 25,stN 26,stN 27,stN 28]
noncomputable def posB:Pos:=⟨76,0,76,8⟩
noncomputable def posC:Pos:=⟨140,0,140,8⟩
noncomputable def posD:Pos:=⟨141,0,141,6⟩
noncomputable def posE:Pos:=⟨142,0,143,30⟩
noncomputable def posF:Pos:=⟨144,0,144,13⟩
noncomputable def posG:Pos:=⟨188,0,254,86⟩
theorem yJd (w:World) (os:OsState):runT w 238 ⟨tA w.params,15,{},#[],zk,187,os⟩ (piecesOf stsB envT xQ pos0 bot)=some (.next,⟨tB w.params,57,{},#[],zk,271,os⟩,xQ,posB):=congrFun (yYp w) os
noncomputable def wR (w:World) (b:Bool):World:=w.withFollow "special-get-raises" b
theorem zWd (w:World):wR w (w.params.followText "special-get-raises")=w:=World.withFollow_self w _
theorem yJe (w:World) (os:OsState) (b:Bool):runT (wR w b) 322 ⟨tB (wR w b).params,57,{},#[],zk,271,os⟩ (piecesOf stsC envT xQ posB bot)=some (.next,⟨tC (wR w b).params,86,{},#[],zk,349,os⟩,xQ,posC):=by
 cases b <;> kernel_rfl
theorem yY0 (w:World) (os:OsState):runT w 322 ⟨tB w.params,57,{},#[],zk,271,os⟩ (piecesOf stsC envT xQ posB bot)=some (.next,⟨tC w.params,86,{},#[],zk,349,os⟩,xQ,posC):=by
 have h:=yJe w os (w.params.followText "special-get-raises")
 rw [zWd] at h
 exact h
theorem yJf (w:World) (os:OsState) (b:Bool):runT (wR w b) 999 ⟨tC (wR w b).params,86,{},#[],zk,349,os⟩ (piecesOf [stN 17] envT xQ posC bot)=some (.next,⟨tD (wR w b).params,97,{},#[],zk,409,os⟩,xQ,posD):=by
 unfold piecesOf runT
 rw [PySem.W.Fast.te10110043849684766642,PySem.W.Fast.te14364793385576792824,PySem.W.Fast.te12563942051412417395]
 cases b <;> kernel_rfl
theorem yY1 (w:World) (os:OsState):runT w 999 ⟨tC w.params,86,{},#[],zk,349,os⟩ (piecesOf [stN 17] envT xQ posC bot)=some (.next,⟨tD w.params,97,{},#[],zk,409,os⟩,xQ,posD):=by
 have h:=yJf w os (w.params.followText "special-get-raises")
 rw [zWd] at h
 exact h
theorem yY2 (w:World) (os:OsState):runT w 60 ⟨tD w.params,97,{},#[],zk,409,os⟩ (piecesOf [stN 18] envT xQ posD bot)=some (.next,⟨tE w.params,104,{},#[],zk,416,os⟩,xQ,posE):=by
 kernel_rfl
theorem yY3 (w:World) (os:OsState):runT w 260 ⟨tF w.params,143,{},#[],zk,2367,os⟩ (piecesOf stsG envT xQ posF bot)=some (.next,⟨tG w.params,191,{},#[],zk,2431,os⟩,xQ,posG):=by
 kernel_rfl
noncomputable def yJg (P:Params):Heap:=absHeap (tA P) 15 {}
noncomputable def pQ (P:Params):Heap:=absHeap (tG P) 191 {}
theorem xXc (w:World) (os:OsState):topGo treeTable pw w 11 annV 12 ⟨boot_heap w.params,#[],zk,boot_toks,os⟩ (topStub pw)=some (⟨yJg w.params,#[],zk,187,os⟩,⟨denote treeTable xQ,xQ,pos0,bot⟩):=by
 kernel_rfl
theorem yY4 (w:World) (os:OsState):segRun treeTable pw w 11 annV 1 1 ⟨yJg w.params,#[],zk,187,os⟩ (blockOf pw.main.body envT xQ pos0 [topFrame pos0])=some (.next,⟨yJg w.params,#[],zk,187,os⟩,xQ,pos0):=by
 kernel_rfl
theorem fin1 (w:World) (os:OsState):topRun treeTable pw w 11 annV 2 ⟨pQ w.params,#[],zk,2431,os⟩ ⟨doneF .next,xQ,posG,[topFrame pos0]⟩=some ⟨pQ w.params,#[],zk,2431,os⟩:=by
 kernel_rfl
theorem yJh:pw.main.body=stsB++(stsC++([stN 17]++([stN 18]++([stN 19]++(stsG++[]))))):=by kernel_rfl
theorem yJi (w:World) (os:OsState):topRun treeTable pw w 11 annV (12 + (1 + (238 + (322 + (999 + (60 + ((2 + 12523) + (260 + 2)))))))) ⟨boot_heap w.params,#[],zk,boot_toks,os⟩ (topStub pw)=some ⟨pQ w.params,#[],zk,2431,os⟩:=by
 refine go_top (xXc w os) ?_
 refine piece_block (yY4 w os) ?_
 rw [yJh]
 refine piece_app (segRun_of (yJd w os)) ?_
 refine piece_app (segRun_of (yY0 w os)) ?_
 refine piece_app (segRun_of (yY1 w os)) ?_
 refine piece_app (segRun_of (yY2 w os)) ?_
 refine piece_app (runF w os) ?_
 refine piece_app (segRun_of (yY3 w os)) ?_
 exact piece_nil (fin1 w os)
end
noncomputable section
abbrev rw0:OpenLaw:=PySem.Challenge.rw_ta0114_01
noncomputable def qv:Program:={ pw with main:={ pw.main with body:=[stN 1,stN 2,stN 3,stN 4,stN 5,stN 6,stN 7,stN 9,stN 10,stN 11,stN 13,stN 14,stN 15,stN 17,stN 18,stN 19,stN 20,stN 22,stN 23,stN 24,stN 25,stN 26,stN 27,stN 28] } }
noncomputable def gV:List Str:=["COMPILER_FLAG_NAMES","b1_set","b3_exceptions"]
noncomputable def gW:OpenRow:=rw0.row
def XtV (s:Shared):Bool:=recOk (RowW.records gW.toRowW) s
theorem xXd:∀ w:World,(fencedOpening treeTable pw w 30000).map (fun s=>(s.heap,s.gens,s.drawn,s.toks))=some (boot_heap w.params,#[],boot_drawn,boot_toks) :=
 boot_open (by kernel_rfl) (by decide) (fun s=>by kernel_rfl)
theorem xXe:∀ w:World,((boot_heap w.params).isNs mainGlobals && (#[]:Array GenState).size == 0,(boot_heap w.params).objs.size,(boot_heap w.params).nsMap mainGlobals "__annotations__")=(true,11,annV):=fun w=>by kernel_rfl
noncomputable def upI:Int→List (PyData×PyData)→Bool
 | _,[]=>true
 | m,p :: D=>match p.1 with | .int k=>decide (m < k) && upI k D | _=>false
theorem xXf {k:Int} (D:List (PyData×PyData)):∀ m:Int,upI m D=true→k≤m→hasIntKey k D=false:=by
 induction D with
 | nil=>exact fun _ _ _=>rfl
 | cons p D ih =>
  intro m h hk
  obtain ⟨a,d⟩:=p
  cases a with
  | int j =>
   have h:=Bool.and_eq_true_iff.mp h
   have hj:m < j:=of_decide_eq_true h.1
   show ((j == k) || hasIntKey k D)=false
   rw [beq_eq_false_iff_ne.mpr (Int.ne_of_gt (Int.lt_of_le_of_lt hk hj)),ih j h.2 (Int.le_of_lt (Int.lt_of_le_of_lt hk hj))];rfl
  | _=>exact absurd h Bool.false_ne_true
theorem yQi (D:List (PyData×PyData)):∀ m:Int,upI m D=true→keysApartInt D=true:=by
 induction D with
 | nil=>exact fun _ _=>rfl
 | cons p D ih =>
  intro m h
  obtain ⟨a,d⟩:=p
  cases a with
  | int j =>
   have h:=Bool.and_eq_true_iff.mp h
   show (!hasIntKey j D && keysApartInt D)=true
   rw [xXf D j h.2 (Int.le_refl _),ih j h.2];rfl
  | _=>exact absurd h Bool.false_ne_true
theorem yQj:keysApartInt=fun D=>upI (-1) D || keysApartInt D:=funext fun D=>by
 cases h:upI (-1) D with
 | true=>exact yQi D _ h
 | false=>rfl
theorem yY5:∀ w:World,(fun os=>((staticsOk (importedModules pw.main.body) (boot_heap w.params) (pQ w.params) && namesBound pw (pQ w.params) && gensDone ⟨pQ w.params,#[],zk,2431,os⟩ && laidKept (boot_heap w.params) (pQ w.params)),
    openSeen qv gV (importedModules pw.main.body) XtV true ⟨pQ w.params,#[],zk,2431,os⟩,(pQ w.params)))=fun _=>(true,openGood qv gV,pQ w.params):=fun w=>by
 delta openSeen tablesOk Heap.tabIntOk
 rw [yQj]
 kernel_rfl
end
noncomputable section
theorem xXg:LeftO pw qv gV XtV (fun s=>s.heap) (fun w=>pQ w.params) 30000:=LeftO.of_pieces xXd xXe yJi (by decide) yY5
noncomputable def YPv (w:World) (h:Heap):Prop:=∀ b o,(pQ w.params).get? b=some o→h.get? b=some o
noncomputable def zWe:Pos:=(stN 28).pos
open PySem.W.Fast PySem.W.R in
theorem sd3 (a:Bool) (b:List Str) (ha:a=false) (hb:b=[]):tw8326940854005059898 { strict:=a,foot:=none,bare:=b } (tw2368527892694137696 rw0).prog.main.body=true:=by subst ha;subst hb;kernel_rfl
open PySem.W.Fast PySem.W.R in
theorem sd4:tw8377067652309620493 (tw2368527892694137696 rw0).prog=true:=by kernel_rfl
open PySem.W.Fast PySem.W.R in
theorem xXh:OpenLaw.wellSaid rw0=true:=by
 unfold OpenLaw.wellSaid OpenRow.wellSaid OpenRow.partSaid looksOpen
 repeat' (with_reducible refine look_both ?_ ?_)
 ·rw [te11788848310118352699,te2368527892694137696];kernel_rfl
 ·rw [te9807087744658564304,te2368527892694137696,te12862048085361865435];kernel_rfl
 ·rw [te8377067652309620493,te2368527892694137696];exact sd4
 ·rw [allR_eq,te18344453789297297638,te2368527892694137696,te3471404346716756564,sDec_eq,te14412699480532031325];kernel_rfl
 ·rw [te8326940854005059898,allR_eq,te5923862056798008813,te2368527892694137696,te3471404346716756564,sDec_eq,te17691160309236699985,filterR_eq,te13343964577679436407];exact sd3 _ _ (by kernel_rfl) (by kernel_rfl)
 ·rw [te17119622794617984870,te2368527892694137696,te17868728402115742887];kernel_rfl
 ·rw [te2368527892694137696];kernel_rfl
 ·rw [te2368527892694137696];kernel_rfl
 ·rw [te2368527892694137696,allR_eq,te9706382859710513879];kernel_rfl
 ·rw [allR_eq,te2368527892694137696,te3471404346716756564,sDec_eq,te18344453789297297638,S.strDecS_eq,te2357444279172408678];kernel_rfl
 ·rw [mapR_eq,te2368527892694137696,sDec_eq];kernel_rfl
 ·rw [allR_eq,te2368527892694137696,te4857012375875476094,named_eq,te3471404346716756564,sDec_eq,te18344453789297297638];kernel_rfl
 ·rw [te13582783067957832011,te2368527892694137696];kernel_rfl
 ·rw [te5318747976498570220,te2368527892694137696];kernel_rfl
 ·rw [te5318747976498570220,te2368527892694137696];kernel_rfl
 ·rw [allR_eq,te2368527892694137696,te5318747976498570220];kernel_rfl
 ·rw [allR_eq,te2368527892694137696,te4579403493507170074,anyR_eq,te4274047373036748609];kernel_rfl
 ·rw [allR_eq,te2368527892694137696];kernel_rfl
 ·rw [te2368527892694137696];kernel_rfl
 ·rw [te3471404346716756564,sDec_eq,te18344453789297297638,te2368527892694137696];kernel_rfl
 ·rw [te3471404346716756564,sDec_eq,te12749700546528644094,te2368527892694137696];kernel_rfl
 ·kernel_rfl
 ·rw [allR_eq,te10501279942588096481];kernel_rfl
 ·rw [te8179353310426384613];kernel_rfl
 ·kernel_rfl
 ·kernel_rfl
 ·rw [te8326940854005059898,te797321630700447069,te9572597257264208301];kernel_rfl
 ·rw [te9558739934217749035];kernel_rfl
 ·rw [te16286561074155671207];kernel_rfl
 ·rw [allR_eq,sDec_eq];kernel_rfl
 ·rw [allR_eq,te797321630700447069,named_eq,sDec_eq,te6984425678791042302];kernel_rfl
 ·rw [allR_eq,te17095254045102204799,te12879404354523853263,te6984425678791042302];kernel_rfl
 ·rw [allR_eq,te17095254045102204799,te12879404354523853263,te6984425678791042302,te482687673346738481,sDec_eq];kernel_rfl
 ·rw [te17119622794617984870,te3471404346716756564,sDec_eq,te9572597257264208301];kernel_rfl
 ·rw [te3471404346716756564,sDec_eq,te10792542408131684335];kernel_rfl
 ·rw [te7723801398212525404,sDec_eq,te10792542408131684335];kernel_rfl
 ·rw [allR_eq,te10792542408131684335,named_eq];kernel_rfl
 ·rw [te17119622794617984870,te3471404346716756564,sDec_eq,te10792542408131684335];kernel_rfl
 ·rw [te17119622794617984870,sDec_eq];kernel_rfl
theorem yY6 (call:WalkO qv gV (fun _ _=>True) YPv gW.toRowW ⟨"law",fdP 28,fdB 28,fdSc 28,zWe⟩ [] fun f vs=>PySem.call f vs):rw0.Holds:=by
 w_on
 refine holds_law xXh fun said=>?_
 refine holds_open (q:=qv) (loose:=gV) (Xt:=XtV) (XP:=fun _ _=>True) (Yf:=fun s=>s.heap) (Ya:=fun w=>pQ w.params) (YP:=YPv) (N:=30000)
  xXg (fun w s e=>by intro b o h;rw [← e] at h;exact h) (fun w h h' y k b o e=>k b o (y b o e)) (fun _ _=>trivial) (fun _ _ _ _ _=>trivial)
  (d:=⟨"law",fdP 28,fdB 28,fdSc 28,zWe⟩) (kwd:=[]) (by kernel_rfl) (by kernel_rfl) (by kernel_rfl) (fun s e=>recFacts_of e) (by rfl) (by first | assumption | decide +kernel) (by decide +kernel) ⟨rfl,rfl,rfl,rfl,rfl,by decide +kernel⟩ ?hw call
 case hw=>w_witness2
end
end Mine
end
section
open PySem PySem.W PySem.Calls PyProof.Rows PySem.Builtin PySem.Builtin.Str
namespace Mine
noncomputable section
noncomputable def chkT:BT→Nat→Nat→Bool
 | .nil,_,_=>true
 | .node v l r,a,b=>Nat.ble (b + 1) 191 && !v.isFreed && chkT l (2 * a) (a + b) && chkT r (2 * a) (2 * a + b)
theorem eq:∀ {t:BT} {a b j:Nat} {o:Obj},chkT t a b=true→t.get j=some o→a * j + b < 191∧o.isFreed=false
 | .nil,_,_,_,_,_,g=>by contradiction
 | .node v l r,a,b,j,o,h,g=>by
  unfold chkT at h
  simp only [Bool.and_eq_true,Bool.not_eq_true'] at h
  apply bc;intro hQ;rcases h with ⟨⟨⟨h1,h2⟩,h3⟩,h4⟩;refine hQ ?_;clear hQ
  rw [BT.get_node] at g
  split at g
  ·rename_i hj
   (injection g with g;subst g);subst hj
   exact ⟨by have:=Nat.le_of_ble_eq_true h1;lia,h2⟩
  ·rename_i hj
   split at g
   ·rename_i hm
    have:=eq h3 g
    refine ⟨?_,this.2⟩
    have e:a * j=2 * a * (j / 2) + a:=by
     have:j=2 * (j / 2) + 1:=by lia
     calc a * j=a * (2 * (j / 2) + 1):=by rw [← this]
      _=2 * a * (j / 2) + a:=by rw [Nat.mul_add,Nat.mul_one,← Nat.mul_assoc,Nat.mul_comm a 2]
    lia
   ·rename_i hm
    have:=eq h4 g
    refine ⟨?_,this.2⟩
    have e:a * j=2 * a * (j / 2 - 1) + 2 * a:=by
     have:j=2 * (j / 2 - 1) + 2:=by lia
     calc a * j=a * (2 * (j / 2 - 1) + 2):=by rw [← this]
      _=2 * a * (j / 2 - 1) + 2 * a:=by rw [Nat.mul_add,← Nat.mul_assoc,Nat.mul_comm a 2]
    lia
theorem yY7 (P:Params):chkT (tG P) 1 0=true:=by kernel_rfl
theorem yQk {o:Obj} (h:o.isFreed=false):alive o=some o:=by
 apply bc;intro hQ;rcases o with ⟨c,d,dt,sl⟩;refine hQ ?_;clear hQ
 cases dt <;> first | rfl | contradiction
theorem aJ {P:Params} {a:Addr} {o:Obj} (h:(tG P).get a=some o):(pQ P).get? a=some o:=by
 obtain ⟨h1,h2⟩:=eq (yY7 P) h
 unfold pQ
 rw [abs_get (by lia) h,yQk h2]
theorem yY8 {w:World} {h:Heap} (hY:YPv w h):Glb w h:=by
 have at0:∀ a o,(tG w.params).get a=some o→h.get? a=some o:=fun a o e=>hY a o (aJ e)
 exact ⟨fun a o e _=>at0 a o e,⟨⟨#[],at0 30 _ (by rfl),.inl rfl⟩,⟨#[],at0 37 _ (by rfl),.inl rfl⟩⟩⟩
theorem aK {P:Params} {h:Heap} {off:Addr→Prop}:∀ {ns:List Int} {vs:List Value},WellAll P h vs (ns.map WData.int)→RdL h off (ns.map V.int) vs
 | [],vs,x=>by cases x;exact RdL.nil
 | n :: ns,vs,x=>by
  cases x with
  | cons a b =>
   cases a
   exact RdL.cons (Rd.int _ _) (aK b)
set_option tactic.hygienic true in
theorem xXi:WalkO qv gV (fun _ _=>True) YPv gW.toRowW ⟨"law",fdP 28,fdB 28,fdSc 28,zWe⟩ [] (fun f vs=>PySem.call f vs):=by
 intro w s₀ s₁ mg mb Gd hY a o pm cd doc dV kV ho hd hcode hdf hmg hgens args vals as hpre hlay hrd hwell has
 have G:=yY8 hY
 have at0:∀ a o,(tG w.params).get a=some o→s₁.heap.get? a=some o:=fun a o e=>hY a o (aJ e)
 have ea:a=190:=by
  apply bc;intro hQ;rcases Gd.T.g with ⟨o1,es1,ep1,h1,h2,_,h3⟩;rcases G.g with ⟨o2,es2,ep2,h4,h5,_,h6⟩;refine hQ ?_;clear hQ
  rw [h1] at h4;(injection h4 with h4;subst h4)
  rw [h2] at h5;(injection h5 with h5;subst h5)
  have e1:=h3 "law"
  have e2:=h6 "law"
  rw [e1] at e2
  have e3:mgv w.params "law"=some (.ref 190):=(at28 w).name
  rw [e3] at e2
  have e4:mg "law"=some (.ref a):=hmg
  rw [e4] at e2
  cases e2;rfl
 clear ho hd hcode hdf hmg
 subst ea
 obtain ⟨p1,p2⟩:=pre_splitW hpre
 have p1:WShape.hasAll gW.toRowW.records args [.list .int]=true:=p1
 apply bc;intro hQ;rcases hasAllW_cons p1 with ⟨d,r,rfl,p3,p4⟩;refine hQ ?_;clear hQ
 have:=hasAllW_nil p4
 subst this
 apply bc;intro hQ;rcases hasW_list p3 with ⟨xs,rfl,p5⟩;rcases items_int p5 with ⟨ns,rfl⟩;refine hQ ?_;clear hQ
 have hv:gW.toRowW.pre.value gW.toRowW.records { args:=[WData.list (ns.map WData.int)] }=some (.bool (!(decide ((63:Int) < ((ns.map WData.int).length:Nat))) && true)) :=
  w_and (w_not (w_lt w_lit (w_len_list (w_arg rfl)))) w_lit
 rw [holdsW_of_value hv] at p2
 have hlen:ns.length≤63:=by
  simp at p2
  lia
 cases hwell with
 | cons wa wb =>
  cases wb
  cases wa with
  | list hg wl =>
   rename_i aA vsA
   have rd:Rd s₁.heap (fun _=>False) (.lst (ns.map V.int)) (.ref aA):=by
    unfold Rd
    exact ⟨_,_,rfl,fun h=>h,⟨_,hg⟩,aK wl⟩
   refine yYo (by constructor <;> decide) rfl G (by lia) rd fun h' tk tb kp=>?_
   refine ⟨.inl ⟨.bool true,.bool true,[],rfl,fun cls=>rfl,.bool true,?_,fun _=>⟨List.nodup_nil,fun a ha=>(nm ha)⟩⟩,⟨fun b o e=>?_,fun b o e=>kp.live b o e⟩,rfl,AllBare.of_eq hgens⟩
   ·exact postC_of (X:=(true == true)) (by rfl) (w_eq_bool (w_res rfl) w_lit) rfl
   ·cases hh:Hid b with
    | false=>exact .inl (kp.obj b o e (.inl hh))
    | true =>
     obtain ⟨ps,e2⟩:=yQ tb hh
     have hc:∀ {c t:Addr} {co:Obj} {vs:Array Value},(tG w.params).get c=some co→co.cls=.type "code"→co.data=.fields vs→vs[11]?=some (.ref t)→isCodeTable s₁.heap t:=fun {c t co vs} h1 h2 h3 h4=>⟨c,co,vs,at0 c co h1,h2,h3,h4⟩
     unfold Hid at hh
     rw [Bool.or_eq_true] at hh
     rcases hh with q | q
     ·have q:b=30:=by simpa using q
      subst q
      have e3:=at0 30 (tabO #[]) (by rfl)
      rw [e] at e3;(injection e3 with e3;subst e3)
      exact .inr (.inl ⟨hc (c:=34) (by rfl) (by rfl) (by rfl) (by rfl),rfl,#[],ps,rfl,by rw [e2];simp⟩)
     ·have q:b=37:=by simpa using q
      subst q
      have e3:=at0 37 (tabO #[]) (by rfl)
      rw [e] at e3;(injection e3 with e3;subst e3)
      exact .inr (.inl ⟨hc (c:=41) (by rfl) (by rfl) (by rfl) (by rfl),rfl,#[],ps,rfl,by rw [e2];simp⟩)
theorem holds1:rw0.Holds:=yY6 xXi
end
end Mine
end
theorem PySem.Challenge.cw_ta0114_01_holds : PySem.Challenge.rw_ta0114_01.Holds := by
 exact Mine.holds1
