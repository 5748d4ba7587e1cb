import PyProof.Rows.All
import Wide.All
import OpenK.AllK
import Wide.FinOn
import PySem.Challenge.RW_ti0060_01
open PySem PySem.W PyProof.Rows
set_option Elab.async false
set_option maxRecDepth 100000
namespace PySem.W.Fast
theorem tw5000232492035539693 : True := trivial
theorem tw10648816792666195974 : True := trivial
theorem tw861502493610598483 : True := trivial
theorem tw13981452214448068213 : True := trivial
theorem tw15219865102035514327 : True := trivial
theorem tw18220107867447499408 : True := trivial
theorem tw7774113678449685934 : True := trivial
theorem tw14920823985818648580 : True := trivial
theorem tw1310944521214732992 : True := trivial
theorem tw15251899222009183613 : True := trivial
theorem tw2868788209673775175 : True := trivial
theorem tw457283913326318344 : True := trivial
theorem tw1746151400102762189 : True := trivial
theorem tw13758190518337804936 : True := trivial
theorem tw5702276774652866934 : True := trivial
theorem tw991626836265849350 : True := trivial
theorem tw5444512763150141072 : True := trivial
theorem tw14963028359598502718 : True := trivial
theorem tw2474200967059427378 : True := trivial
theorem tw10341888390210383824 : True := trivial
theorem tw14404928986312190071 : True := trivial
theorem tw6030501089693204938 : True := trivial
theorem tw11853640710764476214 : True := trivial
theorem tw2135409205425526673 : True := trivial
theorem tw7086961617601330827 : True := trivial
theorem tw8733291241859026926 : True := trivial
theorem tw4309217394794523951 : True := trivial
theorem tw11161164713144168021 : True := trivial
theorem tw1467881925912835984 : True := trivial
theorem tw2646887283097553488 : True := trivial
theorem tw977512076041815475 : True := trivial
theorem tw1532491051758110099 : True := trivial
theorem tw3919386906821981792 : True := trivial
theorem tw256976265262469064 : True := trivial
theorem tw12408111787983249662 : True := trivial
theorem tw6128145076113358165 : True := trivial
theorem tw11384182702204212275 : True := trivial
theorem tw2455152089536381482 : True := trivial
theorem tw5667099127317398114 : True := trivial
theorem tw17214186515701724070 : True := trivial
theorem tw17339309145561079191 : True := trivial
theorem tw15752536640612570366 : True := trivial
theorem tw16615150188913437886 : True := trivial
theorem tw2144661209622563809 : True := trivial
theorem tw8760152093665844161 : True := trivial
theorem tw2261719852989239553 : True := trivial
theorem tw4436474186459923750 : True := trivial
theorem tw14782755387869428366 : True := trivial
theorem tw10212804917625248896 : True := trivial
theorem tw5002640475654186023 : True := trivial
theorem tw7867829370405329436 : True := trivial
theorem tw3721919958574915784 : True := trivial
theorem tw9527419180321252691 : True := trivial
theorem tw6148498323302512570 : True := trivial
theorem tw615563214671542189 : True := trivial
theorem tw17318462890700432884 : True := trivial
theorem tw28018229315631829 : True := trivial
theorem tw15401437161963490237 : True := trivial
theorem tw14958820412457663293 : True := trivial
theorem tw15554417296805563061 : True := trivial
theorem tw8060666987683057360 : True := trivial
theorem tw15254633091992210921 : True := trivial
theorem tw6858818405166986180 : True := trivial
theorem tw6056707288978253535 : True := trivial
theorem tw4148533619186036948 : True := trivial
theorem tw10483620692585885732 : True := trivial
theorem tw14847308668706973960 : True := trivial
theorem tw16248296213531012650 : True := trivial
theorem tw14760874974797668852 : True := trivial
theorem tw1825952489489211193 : True := trivial
theorem tw10792498714594961201 : True := trivial
theorem tw1607123104830579860 : True := trivial
theorem tw15536608767410316090 : True := trivial
theorem tw2042730919218753758 : True := trivial
theorem tw11266997524610791606 : True := trivial
theorem tw13053770412826190925 : True := trivial
theorem tw3238445694619138142 : True := trivial
theorem tw9796564346219866840 : True := trivial
theorem tw5684269996591040895 : True := trivial
theorem tw17843931727820963302 : True := trivial
theorem tw18191872463588725041 : True := trivial
theorem tw2789304352393801511 : True := trivial
theorem tw15590096980072825465 : True := trivial
theorem tw12269216009862288129 : True := trivial
theorem tw13946496683202179788 : True := trivial
theorem tw14520296925931582552 : True := trivial
theorem tw8865387616306378214 : True := trivial
theorem tw4096221787609464999 : True := trivial
theorem tw5344687154915797982 : True := trivial
theorem tw17187875760726034783 : True := trivial
theorem tw14739061395040367012 : True := trivial
theorem tw9387514328989991554 : True := trivial
theorem tw14261769069557060686 : True := trivial
theorem tw3099597729799864441 : True := trivial
theorem tw17062427158221528723 : True := trivial
theorem tw8331849164307833061 : True := trivial
theorem tw17435391645217708394 : True := trivial
theorem tw1488040442021784004 : True := trivial
theorem tw8374155422468719031 : True := trivial
theorem tw16226643914720891334 : True := trivial
theorem tw16409965706819354750 : True := trivial
theorem tw11692469974320434101 : True := trivial
theorem tw896878414759379649 : True := trivial
theorem tw866717566613908145 : True := trivial
theorem tw2827255003249426055 : True := trivial
theorem tw7943549864190904611 : True := trivial
theorem tw3374319085511977134 : True := trivial
theorem tw5449601097390414333 : True := trivial
theorem tw15577281813014381367 : True := trivial
theorem tw4323258101793500111 : True := trivial
theorem tw3215387988796971590 : True := trivial
theorem tw1293241653719404408 : True := trivial
theorem tw13674586047789940208 : True := trivial
theorem tw9289785034321846288 : True := trivial
theorem tw9402243437249704421 : True := trivial
theorem tw5832305185047221409 : True := trivial
theorem tw15925456577456769635 : True := trivial
theorem tw4493901809537577575 : True := trivial
theorem tw16756451883985382160 : True := trivial
theorem tw15402603294489630176 : True := trivial
theorem tw17338325484393633139 : True := trivial
theorem tw12330612334027959195 : True := trivial
theorem tw15166322114958858414 : True := trivial
theorem tw5217270863462422736 : True := trivial
theorem tw16636501806038632012 : True := trivial
theorem tw16108870410212019532 : True := trivial
theorem tw12297992134047619483 : True := trivial
theorem tw17659185236578331656 : True := trivial
theorem tw9646623106273453227 : True := trivial
theorem tw8431482922422412695 : True := trivial
theorem tw16919654943277366748 : True := trivial
theorem tw8972062959192195235 : True := trivial
theorem tw10519837036962490867 : True := trivial
theorem tw1979317910248211280 : True := trivial
theorem tw15127105006835628225 : True := trivial
theorem tw15861351967447197489 : True := trivial
theorem tw10842938092177581297 : True := trivial
theorem tw15709406588529926149 : True := trivial
theorem tw8912161614967838395 : True := trivial
theorem tw2403389108928632939 : True := trivial
theorem tw12917704675397863716 : True := trivial
theorem tw6548459193220583526 : True := trivial
theorem tw4075453323654395381 : True := trivial
theorem tw18073898193381586223 : True := trivial
theorem tw18183970276198133131 : True := trivial
theorem tw446995266069924076 : True := trivial
theorem tw280917380089993231 : True := trivial
theorem tw2694234056635809718 : True := trivial
theorem tw14564479935002850509 : True := trivial
theorem tw17170472223608059050 : True := trivial
theorem tw9461873434466728008 : True := trivial
theorem tw9536688357841153863 : True := trivial
theorem tw3641951560692057861 : True := trivial
theorem tw16873086082458093902 : True := trivial
theorem tw16822532161544500889 : True := trivial
theorem tw8737599933303070863 : True := trivial
theorem tw6522051377940421278 : True := trivial
theorem tw12768989823518198380 : True := trivial
theorem tw11066385474520676512 : True := trivial
theorem tw7322748291113730364 : True := trivial
theorem tw4321966507151631593 : True := trivial
theorem tw4096438862311573950 : True := trivial
theorem tw87601786513091389 : True := trivial
theorem tw13135312941875745310 : True := trivial
theorem tw4804111812005502284 : True := trivial
theorem tw4015202173357781934 : True := trivial
theorem tw12954591660760965231 : True := trivial
theorem tw12903330217458380548 : True := trivial
theorem tw6798380500665416597 : True := trivial
theorem tw16955839230299176341 : True := trivial
theorem tw11962351593759143498 : True := trivial
theorem tw12770481643036789091 : True := trivial
theorem tw1708089923452030704 : True := trivial
theorem tw13769103115541136327 : True := trivial
theorem tw4849480874435393781 : True := trivial
theorem tw18328257000508772394 : True := trivial
theorem tw9972681490609642005 : True := trivial
theorem tw8297923619242306668 : True := trivial
theorem tw443766864951011646 : True := trivial
theorem tw2931988195819169919 : True := trivial
theorem tw16298917771340976007 : True := trivial
theorem tw10159399881129095643 : True := trivial
theorem tw15227483606004533461 : True := trivial
theorem tw10294118229990073760 : True := trivial
theorem tw3308634892276815127 : True := trivial
theorem tw9404705873571188630 : True := trivial
theorem tw8159993647027272844 : True := trivial
theorem tw4548300405975405348 : True := trivial
theorem tw2399617604181995578 : True := trivial
theorem tw11898673842065290130 : True := trivial
theorem tw2295934692909999376 : True := trivial
theorem tw14727194681476072466 : True := trivial
theorem tw8899516883271353254 : True := trivial
theorem tw7046044490832178742 : True := trivial
theorem tw17678831435119133177 : True := trivial
theorem tw11024694936033576346 : True := trivial
theorem tw2259672571474061568 : True := trivial
theorem tw8949853181751564097 : True := trivial
theorem tw16140922888777852060 : True := trivial
theorem tw8002303944043701648 : True := trivial
theorem tw2353497105660221152 : True := trivial
end PySem.W.Fast
set_option maxHeartbeats 8000000 in
open_top hd for PySem.Challenge.rw_ti0060_01
namespace Mine
noncomputable abbrev Led := List (Addr × Obj)
structure Wd where
  prog : Program
  p : Program
  loose : List PySem.Str
  mean : ExcName → Option Value
  mg : PySem.Str → Option Value
  mb : PySem.Str → Option Value
noncomputable abbrev fsc (nms : List (PySem.Str × NameKind)) (ig ic : Bool) (mo : List (PySem.Str × PySem.Const)) : Scope := { kind := .function, names := nms, isGenerator := ig, isCoroutine := ic, more := mo }
noncomputable def Ctr (W : Wd) (w : World) (f : Addr) (args : Args) (news : Led) (dn un : Nat) (Post : Value → Led → Prop) : Prop :=
  ∀ (dp ut : Nat) (gd : Option (List Code)) (cn : PySem.Str) (nms : List (PySem.Str × NameKind)) (ig ic : Bool) (mo : List (PySem.Str × PySem.Const)) (a : Addr) (ccd : Value) (cl : List (PySem.Str × Addr)) (outer : List Env) (A₀ : Around) (base h₀ : Heap) (L : Addr) (m : PySem.Str → Option Value) (s : Shared) (R : Result → Shared → Prop),
    Below A₀ base outer h₀ → Fr h₀ L s.heap m → (hd.heap_39 w.params).In h₀ → News h₀ L s.heap news → Top W.p W.loose W.mean W.mg W.mb h₀ → dp + dn < recursionLimit → ut + un < cLine →
    (∀ v news' h' tk', Fr h₀ L h' m → News h₀ L h' news' → Post v news' → R (.ok (.ret v)) { s with heap := h', toks := tk' }) →
    codeAny (model W.prog w) (ktrTop dp ut gd cn (fsc nms ig ic mo) L a ccd cl outer) (.call (.ref f) args) R s
theorem Ctr.use {W : Wd} {w : World} {f : Addr} {args : Args} {news : Led} {dn un : Nat} {Post : Value → Led → Prop} (C : Ctr W w f args news dn un Post)
  {dp ut : Nat} {gd : Option (List Code)} {cn : PySem.Str} {nms : List (PySem.Str × NameKind)} {ig ic : Bool} {mo : List (PySem.Str × PySem.Const)} {a : Addr} {ccd : Value} {cl : List (PySem.Str × Addr)} {outer : List Env} {A₀ : Around} {base h₀ : Heap} {L : Addr} {m : PySem.Str → Option Value} {s : Shared} {R : Result → Shared → Prop}
  (B : Below A₀ base outer h₀) (F : Fr h₀ L s.heap m) (X : (hd.heap_39 w.params).In h₀) (N : News h₀ L s.heap news) (T : Top W.p W.loose W.mean W.mg W.mb h₀) (h1 : dp + dn < recursionLimit) (h2 : ut + un < cLine)
  (ret : ∀ v news' h' tk', Fr h₀ L h' m → News h₀ L h' news' → Post v news' → R (.ok (.ret v)) { s with heap := h', toks := tk' }) :
  codeAny (model W.prog w) (ktrTop dp ut gd cn (fsc nms ig ic mo) L a ccd cl outer) (.call (.ref f) args) R s := C _ _ _ _ _ _ _ _ _ _ _ _ _ _ _ _ _ _ _ B F X N T h1 h2 ret
noncomputable def CtrS (S : Heap → Prop) (W : Wd) (w : World) (f : Addr) (args : Args) (news : Led) (dn un : Nat) (Post : Value → Led → Prop) : Prop :=
  ∀ (dp ut : Nat) (gd : Option (List Code)) (cn : PySem.Str) (nms : List (PySem.Str × NameKind)) (ig ic : Bool) (mo : List (PySem.Str × PySem.Const)) (a : Addr) (ccd : Value) (cl : List (PySem.Str × Addr)) (outer : List Env) (A₀ : Around) (base h₀ : Heap) (L : Addr) (m : PySem.Str → Option Value) (s : Shared) (R : Result → Shared → Prop),
    S h₀ → Below A₀ base outer h₀ → Fr h₀ L s.heap m → (hd.heap_39 w.params).In h₀ → News h₀ L s.heap news → Top W.p W.loose W.mean W.mg W.mb h₀ → dp + dn < recursionLimit → ut + un < cLine →
    (∀ v news' h' tk', Fr h₀ L h' m → News h₀ L h' news' → Post v news' → R (.ok (.ret v)) { s with heap := h', toks := tk' }) →
    codeAny (model W.prog w) (ktrTop dp ut gd cn (fsc nms ig ic mo) L a ccd cl outer) (.call (.ref f) args) R s
theorem CtrS.use {S : Heap → Prop} {W : Wd} {w : World} {f : Addr} {args : Args} {news : Led} {dn un : Nat} {Post : Value → Led → Prop} (C : CtrS S W w f args news dn un Post)
  {dp ut : Nat} {gd : Option (List Code)} {cn : PySem.Str} {nms : List (PySem.Str × NameKind)} {ig ic : Bool} {mo : List (PySem.Str × PySem.Const)} {a : Addr} {ccd : Value} {cl : List (PySem.Str × Addr)} {outer : List Env} {A₀ : Around} {base h₀ : Heap} {L : Addr} {m : PySem.Str → Option Value} {s : Shared} {R : Result → Shared → Prop}
  (hS : S h₀) (B : Below A₀ base outer h₀) (F : Fr h₀ L s.heap m) (X : (hd.heap_39 w.params).In h₀) (N : News h₀ L s.heap news) (T : Top W.p W.loose W.mean W.mg W.mb h₀) (h1 : dp + dn < recursionLimit) (h2 : ut + un < cLine)
  (ret : ∀ v news' h' tk', Fr h₀ L h' m → News h₀ L h' news' → Post v news' → R (.ok (.ret v)) { s with heap := h', toks := tk' }) :
  codeAny (model W.prog w) (ktrTop dp ut gd cn (fsc nms ig ic mo) L a ccd cl outer) (.call (.ref f) args) R s := C _ _ _ _ _ _ _ _ _ _ _ _ _ _ _ _ _ _ _ hS B F X N T h1 h2 ret
noncomputable def ScL (a : Addr) (vs : List Value) (h : Heap) : Prop := h.IsList a (List.toArray vs)
theorem Fr.nm {h₀ h : Heap} {L : Addr} {l : List (PySem.Str × Value)} (F : Fr h₀ L h (fun y => List.lookup y l)) (l' : List (PySem.Str × Value)) (e : l = l') : Fr h₀ L h (fun y => List.lookup y l') := e ▸ F
structure Here (W : Wd) (w : World) (dp ut dn un : Nat) (outer : List Env) (A₀ : Around) (base h₀ : Heap) (L : Addr) (m : PySem.Str → Option Value) (s : Shared) (news : Led) : Prop where
  B : Below A₀ base outer h₀
  F : Fr h₀ L s.heap m
  X : (hd.heap_39 w.params).In h₀
  N : News h₀ L s.heap news
  T : Top W.p W.loose W.mean W.mg W.mb h₀
  d : dp + dn < recursionLimit
  u : ut + un < cLine
theorem Ctr.call {W : Wd} {w : World} {f : Addr} {pos : List Value} {kw : List (PySem.Str × Value)} {news : Led} {dn un : Nat} {Post : Value → Led → Prop}
  {dp ut : Nat} {gd : Option (List Code)} {cn : PySem.Str} {nms : List (PySem.Str × NameKind)} {ig ic : Bool} {mo : List (PySem.Str × PySem.Const)} {a : Addr} {ccd : Value} {cl : List (PySem.Str × Addr)} {outer : List Env} {A₀ : Around} {base h₀ : Heap} {L : Addr} {m : PySem.Str → Option Value} {s : Shared} {Q E : Value → Shared → Prop}
  (H : Here W w dp ut dn un outer A₀ base h₀ L m s news) (C : Ctr W w f ⟨pos, kw⟩ news dn un Post)
  (ret : ∀ v news' h' tk', Fr h₀ L h' m → News h₀ L h' news' → Post v news' → Q v { s with heap := h', toks := tk' }) :
  wpAny (model W.prog w) (ktrTop dp ut gd cn (fsc nms ig ic mo) L a ccd cl outer) (call (.ref f) pos kw) Q E s :=
  wpAny_call (C.use H.B H.F H.X H.N H.T H.d H.u ret)
theorem CtrS.call {S : Heap → Prop} {W : Wd} {w : World} {f : Addr} {pos : List Value} {kw : List (PySem.Str × Value)} {news : Led} {dn un : Nat} {Post : Value → Led → Prop}
  {dp ut : Nat} {gd : Option (List Code)} {cn : PySem.Str} {nms : List (PySem.Str × NameKind)} {ig ic : Bool} {mo : List (PySem.Str × PySem.Const)} {a : Addr} {ccd : Value} {cl : List (PySem.Str × Addr)} {outer : List Env} {A₀ : Around} {base h₀ : Heap} {L : Addr} {m : PySem.Str → Option Value} {s : Shared} {Q E : Value → Shared → Prop}
  (hS : S h₀) (H : Here W w dp ut dn un outer A₀ base h₀ L m s news) (C : CtrS S W w f ⟨pos, kw⟩ news dn un Post)
  (ret : ∀ v news' h' tk', Fr h₀ L h' m → News h₀ L h' news' → Post v news' → Q v { s with heap := h', toks := tk' }) :
  wpAny (model W.prog w) (ktrTop dp ut gd cn (fsc nms ig ic mo) L a ccd cl outer) (call (.ref f) pos kw) Q E s :=
  wpAny_call (C.use hS H.B H.F H.X H.N H.T H.d H.u ret)
end Mine
namespace Mine
open PySem.Builtin PySem.Builtin.Re PySem.Sre
theorem rx_slot : Slot "re.Pattern" "search" "re.Pattern.search" :=
  .of (owner := "re.Pattern") (n := "search") (by rw [typeLookup_type, builtinLookup_eq_fast]; kernel_rfl) (by decide +kernel) (by decide +kernel) (by decide +kernel)
    (by first | exact .inl (by decide +kernel) | exact .inr (by decide +kernel)) (by rw [isSubtype_type]; kernel_rfl)
theorem rx_type : typeOf (.builtin "re.Pattern.search") = pure (.type "method_descriptor") := by show builtinType _ = _; rw [builtinType_eq_fast]; kernel_rfl
theorem rx_entry : entryFor table "re.Pattern.search" = some Builtin.«re.Pattern.search» := entryFor_of_tree (by kernel_rfl)
theorem rx_plain : PlainAttrs "re.Pattern" :=
  ⟨⟨"object.__getattribute__", by rw [typeLookup_type, builtinLookup_eq_fast]; kernel_rfl, by decide +kernel⟩, by rw [typeLookup_type, builtinLookup_eq_fast]; kernel_rfl⟩
theorem rx_args (a b : Value) : argsOk "re.Pattern.search" ⟨[a, b], []⟩ := by
  unfold argsOk
  kernel_rfl

noncomputable def Clean (x : PySem.Str) : Prop := ∀ c ∈ x.cps.toList, 32 ≤ c ∧ c < 127
noncomputable def code1 : Array Nat := #[14, 10, 4, 1, 1, 22, 0, 31, 16, 127, 0, 13, 7, 22, 0, 31, 16, 127, 0, 1]
noncomputable def code2 : Array Nat := #[14, 14, 4, 1, 1, 9, 4294966783, 0, 0, 2147483648, 0, 0, 0, 0, 0, 13, 11, 9, 4294966783, 0, 0, 2147483648, 0, 0, 0, 0, 0, 1]
theorem set1 (c : Nat) (h0 : 32 ≤ c) (h1 : c < 127) (seen : Sre.Seen) : ∃ seen', inSet code1 c code1.size 5 true seen = .ok (false, seen') := by
  have a : (decide (0 ≤ c) && decide (c ≤ 31)) = false := by simp; omega
  have b : (c == 127) = false := by simp; omega
  refine ⟨((seen.add 22).add 16).add 0, ?_⟩
  show inSet code1 c 20 5 true seen = _
  unfold inSet
  show (if (decide (0 ≤ c) && decide (c ≤ 31)) = true then _ else inSet code1 c 19 8 true _) = _
  rw [a, if_neg Bool.false_ne_true]
  unfold inSet
  show (if (c == 127) = true then _ else inSet code1 c 18 10 true _) = _
  rw [b, if_neg Bool.false_ne_true]
  unfold inSet
  rfl
theorem bit2 : ∀ c, c < 127 → 32 ≤ c → (code2.getD (5 + (1 + c / 32)) 0).testBit (c % 32) = false := by decide +kernel
theorem set2 (c : Nat) (h0 : 32 ≤ c) (h1 : c < 127) (seen : Sre.Seen) : ∃ seen', inSet code2 c code2.size 5 true seen = .ok (false, seen') := by
  refine ⟨(seen.add 9).add 0, ?_⟩
  show inSet code2 c 28 5 true seen = _
  unfold inSet
  show (if (decide (c < 256) && (code2.getD (5 + (1 + c / 32)) 0).testBit (c % 32)) = true then _ else inSet code2 c 27 14 true _) = _
  rw [bit2 c h1 h0, Bool.and_false, if_neg Bool.false_ne_true]
  unfold inSet
  rfl
theorem adm (code : Array Nat) (hc : ∀ c, 32 ≤ c → c < 127 → ∀ seen, ∃ seen', inSet code c code.size 5 true seen = .ok (false, seen'))
    (m : M) (hm : m.code = code) (hl : m.lim = m.text.size) (hx : ∀ c ∈ m.text.toList, 32 ≤ c ∧ c < 127) : ∀ (fuel i : Nat) (seen : Sre.Seen), ∃ seen', M.admitted m fuel i seen = .ok (none, seen') := by
  intro fuel
  induction fuel with
  | zero => intro i seen; exact ⟨_, rfl⟩
  | succ n ih =>
    intro i seen
    unfold M.admitted
    by_cases h : i ≥ m.lim
    · rw [if_pos h]; exact ⟨_, rfl⟩
    · rw [if_neg h]
      have hi : i < m.text.size := by omega
      have hg : m.text.getD i 0 = m.text[i] := by simp [Array.getD, hi]
      have hmem := hx m.text[i] (by simp)
      obtain ⟨s', e⟩ := hc _ hmem.1 hmem.2 seen
      rw [hg, hm, e]
      exact ih _ _
theorem adm_no {m : M} {fuel i : Nat} {seen : Sre.Seen} {r} (e : M.admitted m fuel i seen = r) (code : Array Nat) (hc : ∀ c, 32 ≤ c → c < 127 → ∀ seen, ∃ seen', inSet code c code.size 5 true seen = .ok (false, seen'))
    (hm : m.code = code) (hl : m.lim = m.text.size) (hx : ∀ c ∈ m.text.toList, 32 ≤ c ∧ c < 127) : ∃ s', r = .ok (none, s') := by
  obtain ⟨s', e'⟩ := adm code hc m hm hl hx fuel i seen
  exact ⟨s', e.symm.trans e'⟩
theorem srch (code : Array Nat) (hc : ∀ c, 32 ≤ c → c < 127 → ∀ seen, ∃ seen', inSet code c code.size 5 true seen = .ok (false, seen'))
    (h0 : code.getD 0 0 = 14) (h1 : code.getD 1 0 = 10 ∨ code.getD 1 0 = 14) (h2 : code.getD 2 0 = 4) (h3 : code.getD 3 0 = 1)
    (text : Array Nat) (hx : ∀ c ∈ text.toList, 32 ≤ c ∧ c < 127) : ∃ m, (Sre.forSearch code text 0 0 text.size false).runFor 4 = m ∧ m.outcome = some .failed := by
  have step : ∀ m : M, m.outcome = none → m.answer = some false → m.frames = [] → ∃ m', m.runFor 4 = m' ∧ m'.outcome = some .failed := by
    intro m a b c
    refine ⟨_, rfl, ?_⟩
    have e : m.step = { m with outcome := some .failed } := by
      unfold M.step
      rw [a, b, c]
      rfl
    unfold M.runFor
    rw [a]
    simp only [Option.isSome_none, Bool.false_eq_true, if_false]
    rw [e]
    rfl
  have hd : (Sre.header code).1 = 1 := by
    unfold Sre.header
    rw [h0]
    show code.getD 3 0 = 1
    exact h3
  have hd2 : (Sre.header code).2 ≠ 0 := by
    unfold Sre.header
    rw [h0]
    show 1 + code.getD 1 0 ≠ 0
    omega
  unfold Sre.forSearch
  simp only [hd]
  split
  · exact step _ rfl rfl rfl
  · rename_i hne
    unfold M.attemptFrom
    have hf : ∀ m : M, m.code = code → m.hasFirstSet = true := by
      intro m hm
      unfold M.hasFirstSet
      rw [hm, h0, h2]
      rfl
    rw [hf _ rfl]
    simp only [Bool.not_true, Bool.false_eq_true, if_false]
    split
    · rename_i s seen e
      obtain ⟨s', e'⟩ := adm_no e code hc rfl rfl hx
      cases e'
    · exact step _ rfl rfl rfl
    · rename_i why e
      obtain ⟨s', e'⟩ := adm_no e code hc rfl rfl hx
      cases e'

noncomputable def patO (pat c : Value) (t1 t2 t3 : Tok) (sl : Array (Option Value)) : Obj := ⟨.type "re.Pattern", none, .fields #[pat, .int 32 t1, .int 0 t2, .none, .none, c, .int 0 t3], sl⟩
section
variable {prog : Program} {w : World} {A : Around} {E : Value → Shared → Prop} {s : Shared}
theorem noRules (l : List Nat) (f : Nat → PUnit → Sem (ForInStep PUnit)) (hf : ∀ i (Q : ForInStep PUnit → Shared → Prop) s, Q (.yield ()) s → wpAny (model prog w) A (f i ()) Q E s) (Q : PUnit → Shared → Prop) (h : Q () s) :
    wpAny (model prog w) A (forIn l PUnit.unit f) Q E s := by
  induction l with
  | nil => exact wpAny_pure h
  | cons a r ih =>
    rw [List.forIn_cons]
    exact wpAny_bind (hf _ _ _ ih)
theorem runToEnd (m0 m : M) (e : m0.runFor 4 = m) (ho : m.outcome = some .failed) (Q : Option M → Shared → Prop) (h : Q none s) : wpAny (model prog w) A (reRunToEnd m0) Q E s := by
  unfold reRunToEnd
  refine wpAny_bind ?_
  have e1 : reDrive (2 ^ 64) m0 = pure m := by
    show reDrive ((2 ^ 64 - 1) + 1) m0 = pure m
    unfold reDrive
    show (if (m0.runFor 4).outcome.isSome then pure (m0.runFor 4) else _) = _
    rw [e, ho]
    rfl
  rw [e1]
  refine wpAny_pure ?_
  refine wpAny_bind ?_
  refine noRules _ _ (fun i Q s hq => ?_) _ ?_
  · split
    · exact wpAny_bind (wpAny_rule (wpAny_pure hq))
    · exact wpAny_pure hq
  rw [ho]
  exact wpAny_pure h
theorem rawItems {c : Addr} {o : Obj} {xs : Array Value} {n : Nat} (hc : s.heap.get? c = some o) (ho : o.data = .seq xs n) (Q : Array Int → Shared → Prop) (h : Q (xs.map reRawOf) s) : wpAny (model prog w) A (reRawItems (.ref c)) Q E s := by
  unfold reRawItems
  refine wpAny_bind ?_
  unfold seqItems?
  refine wpAny_bind (wpAny_load hc ?_)
  rw [ho]
  exact wpAny_pure (wpAny_pure h)
theorem ite_no {α : Type} {M : Model} {c : Bool} {a b : Sem α} {Q : α → Shared → Prop} (hc : c = false) (h : wpAny M A b Q E s) : wpAny M A (if c = true then a else b) Q E s := by
  subst hc
  exact h
theorem srch_call {p c : Addr} {pat : Value} {t1 t2 t3 tx : Tok} {sl : Array (Option Value)} {oc : Obj} {xs : Array Value} {n : Nat} {x : PySem.Str} {code : Array Nat}
    (hp : s.heap.get? p = some (patO pat (.ref c) t1 t2 t3 sl)) (hoc : s.heap.get? c = some oc) (ho : oc.data = .seq xs n) (he : (xs.map reRawOf).map (·.toNat) = code)
    (hs : ∀ text : Array Nat, (∀ c ∈ text.toList, 32 ≤ c ∧ c < 127) → ∃ m, (Sre.forSearch code text 0 0 text.size false).runFor 4 = m ∧ m.outcome = some .failed)
    (hl : (x.length : Int) ≤ 2 ^ 63 - 1) (hx : Clean x) (Q : Value → Shared → Prop) (h : Q .none s) : wpAny (model prog w) A (call (.builtin "re.Pattern.search") [.ref p, .str x tx]) Q E s := by
  refine wpAny_call (codeAny_call_builtin rx_slot.plain rx_entry (rx_slot.check _ _ _ _ _ _ _ _ ⟨_, hp, rfl⟩ (rx_args _ _) ?_))
  unfold «re.Pattern.search»
  refine wpAny_bind ?_
  unfold reTarget
  have e1 : reNamed "re.Pattern.search" "search" ["string", "pos", "endpos"] 1 [.str x tx] [] = pure [some (.str x tx), none, none] := by rfl
  simp only [e1]
  refine wpAny_bind (wpAny_pure ?_)
  refine wpAny_bind (wpAny_pure ?_)
  refine wpAny_bind (wpAny_pure ?_)
  unfold fieldsOf
  refine wpAny_bind (wpAny_bind (wpAny_load hp (wpAny_pure ?_)))
  unfold reTextOf
  refine wpAny_bind ?_
  refine wpAny_bind (wpAny_pure ?_)
  refine wpAny_pure ?_
  refine ite_no rfl ?_
  refine ite_no rfl ?_
  refine wpAny_bind (wpAny_pure ?_)
  refine wpAny_bind (rawItems hoc ho _ (wpAny_pure ?_))
  dsimp only
  rw [he]
  have em : Min.min (2 ^ 63 - 1 : Int).toNat x.cps.size = x.cps.size := by
    have : x.length = x.cps.size := rfl
    omega
  show wpAny _ _ (reAnswer _ (forSearch code x.cps 0 0 (Min.min (2 ^ 63 - 1 : Int).toNat x.cps.size) false)) _ _ _
  obtain ⟨m, e, ho'⟩ := hs x.cps hx
  rw [em]
  unfold reAnswer
  refine wpAny_bind (runToEnd _ m e ho' _ ?_)
  exact wpAny_pure h
end
theorem srch1 : ∀ text : Array Nat, (∀ c ∈ text.toList, 32 ≤ c ∧ c < 127) → ∃ m, (Sre.forSearch code1 text 0 0 text.size false).runFor 4 = m ∧ m.outcome = some .failed :=
  fun text hx => srch code1 (fun c h0 h1 seen => set1 c h0 h1 seen) rfl (.inl rfl) rfl rfl text hx
theorem srch2 : ∀ text : Array Nat, (∀ c ∈ text.toList, 32 ≤ c ∧ c < 127) → ∃ m, (Sre.forSearch code2 text 0 0 text.size false).runFor 4 = m ∧ m.outcome = some .failed :=
  fun text hx => srch code2 (fun c h0 h1 seen => set2 c h0 h1 seen) rfl (.inr rfl) rfl rfl text hx
end Mine
namespace Mine
section
variable {prog : Program} {w : World} {A : Around} {E : Value → Shared → Prop} {s : Shared} {K : Frag} {h₀ : Heap} {L : Addr} {m : PySem.Str → Option Value}
theorem rx_getMethod {p : Addr} {vs : Array Value} {sl : Array (Option Value)} {pl : Sem Bool} {Q : Value × List Value → Shared → Prop} (F : Fr h₀ L s.heap m) (X : K.In h₀) (hl : K.lookup p = some ⟨.type "re.Pattern", none, .fields vs, sl⟩)
    (h : Q (.builtin "re.Pattern.search", [.ref p]) s) : wpAny (model prog w) A (getMethod (.ref p) (PySem.Str.ofString "search") pl) Q E s :=
  have hp := F.keep _ _ (X _ _ hl)
  getMethod_builtin ⟨_, hp, rfl⟩ rx_plain rx_slot rx_type (fun a e => by cases e; exact ⟨_, hp, rfl⟩) h
theorem rx_call1 {tx : Tok} {x : PySem.Str} (F : Fr h₀ L s.heap m) (X : K.In h₀) {pat : Value} {t1 t2 t3 : Tok} {sl sl' : Array (Option Value)} {oc : Value} {od : Option Addr} {xs : Array Value} {n : Nat} (hp : K.lookup 114 = some ⟨.type "re.Pattern", none, .fields #[pat, .int 32 t1, .int 0 t2, .none, .none, .ref 113, .int 0 t3], sl⟩) (hc : K.lookup 113 = some ⟨oc, od, .seq xs n, sl'⟩)
    (he : (xs.map Builtin.Re.reRawOf).map (·.toNat) = code1) (hl : (x.length : Int) ≤ 2 ^ 63 - 1) (hx : Clean x) {Q : Value → Shared → Prop} (h : Q .none s) : wpAny (model prog w) A (call (.builtin "re.Pattern.search") [.ref 114, .str x tx]) Q E s :=
  srch_call (F.keep _ _ (X _ _ hp)) (F.keep _ _ (X _ _ hc)) rfl he srch1 hl hx Q h
theorem rx_call2 {tx : Tok} {x : PySem.Str} (F : Fr h₀ L s.heap m) (X : K.In h₀) {pat : Value} {t1 t2 t3 : Tok} {sl sl' : Array (Option Value)} {oc : Value} {od : Option Addr} {xs : Array Value} {n : Nat} (hp : K.lookup 119 = some ⟨.type "re.Pattern", none, .fields #[pat, .int 32 t1, .int 0 t2, .none, .none, .ref 118, .int 0 t3], sl⟩) (hc : K.lookup 118 = some ⟨oc, od, .seq xs n, sl'⟩)
    (he : (xs.map Builtin.Re.reRawOf).map (·.toNat) = code2) (hl : (x.length : Int) ≤ 2 ^ 63 - 1) (hx : Clean x) {Q : Value → Shared → Prop} (h : Q .none s) : wpAny (model prog w) A (call (.builtin "re.Pattern.search") [.ref 119, .str x tx]) Q E s :=
  srch_call (F.keep _ _ (X _ _ hp)) (F.keep _ _ (X _ _ hc)) rfl he srch2 hl hx Q h
end
end Mine
namespace Mine
noncomputable def Hold (P : Prop) : Prop := P
theorem Hold.out {P : Prop} (h : Hold P) : P := h
noncomputable def MEnd (h₀ : Heap) (L : Addr) (pi : Addr × Obj) (J : (PySem.Str → Option Value) → List (Addr × Obj) → Prop) (s s' : Shared) : Prop :=
  ∃ h' tk m' news' nx, s' = { s with heap := h', toks := tk } ∧ Fr h₀ L h' m' ∧ News h₀ L h' news' ∧ pi ∈ news' ∧ (∀ p ∈ nx, p ∈ news' ∧ (p.1 ≠ pi.1 ∨ p.2.cls ≠ pi.2.cls)) ∧ J m' nx
noncomputable def MPost (h₀ : Heap) (L : Addr) (pi : Addr × Obj) (J : (PySem.Str → Option Value) → List (Addr × Obj) → Prop) (s : Shared) (Q : Flow → Shared → Prop) (f : Flow) (s' : Shared) : Prop :=
  match f with
  | .ret v => Q (.ret v) s'
  | .brk => Q .next s'
  | _ => MEnd h₀ L pi J s s'
section
variable {prog : Program} {w : World} {A : Around} {E : Value → Shared → Prop} {s : Shared} {env : Env} {h₀ : Heap} {target : PySem.Expr} {body : List Stmt} {Q : Flow → Shared → Prop}
theorem m_iter {l : Addr} {vs : List Value} {nn : Nat} {m₀ : PySem.Str → Option Value} {news : List (Addr × Obj)} (J : Nat → (PySem.Str → Option Value) → List (Addr × Obj) → Prop)
    (hh : A.handled = none) (hl : (l, PySem.W.listOf vs.toArray nn) ∈ news) (F : Fr h₀ env.locals s.heap m₀) (N : News h₀ env.locals s.heap news) (hj : J 0 m₀ news)
    (turn : ∀ i v m₁ nx I it h tk, vs[i]? = some v → J i m₁ nx → it.cls = .type "list_iterator" → (l, PySem.W.listOf vs.toArray nn) ∈ nx → (∀ p ∈ nx, p.1 ≠ I) → Fr h₀ env.locals h m₁ → News h₀ env.locals h ((I, it) :: nx) →
      wpAny (model prog w) A (assign target env v) (fun _ s₃ => wpAny (model prog w) A (execs body env)
        (MPost h₀ env.locals (I, it) (fun m' nx' => (l, PySem.W.listOf vs.toArray nn) ∈ nx' ∧ J (i + 1) m' nx') s Q) E s₃) E { s with heap := h, toks := tk })
    (done : ∀ m₁ nx h tk, J vs.length m₁ nx → (l, PySem.W.listOf vs.toArray nn) ∈ nx → Fr h₀ env.locals h m₁ → News h₀ env.locals h nx → Q .next { s with heap := h, toks := tk }) :
    wpAny (model prog w) A (pyIter (.ref l)) (fun it s₂ => TurnsAt prog w A h₀ env target body Q E it s₂) E s := by
  have hol : s.heap.get? l = some (PySem.W.listOf vs.toArray nn) := (N _ hl).1
  have hls : s.heap.IsList l vs.toArray := ⟨_, hol, rfl, nn, rfl⟩
  have hne : l ≠ s.heap.objs.size := Nat.ne_of_lt (Heap.lt_size hol)
  refine wpAny_pyIter_list hls ?_
  have W := Walks.list (prog := prog) (w := w) hh s.heap.objs.size l hne vs.toArray
  have T := KTurns.ofWalks (target := target) W (fun i v s Q E st q => letGo_listiter st.1 q)
  have hlen : vs.toArray.size = vs.length := by simp
  rw [hlen] at T
  refine ⟨_, _, _, vs.length, _, _, _, m₀, news, (fun i m nx => (l, PySem.W.listOf vs.toArray nn) ∈ nx ∧ J i m nx), rfl, T, ?_, ?_, ?_, ⟨⟨_, Heap.get?_push_size _ rfl, rfl, rfl⟩, hls.at fun o e => Heap.get?_push_of_some _ e⟩, F.push _,
    (fun p hp => ⟨Heap.get?_push_of_some _ (N p hp).1, (N p hp).2⟩), ⟨hl, hj⟩, ?_, ?_⟩
  · intro hm
    rcases List.mem_cons.mp hm with e | hm
    · exact absurd F.ns.lt (e ▸ Nat.lt_irrefl _)
    · exact (N _ hl).2.1 ((List.mem_singleton.mp hm).symm)
  · intro b hb
    rw [List.mem_singleton.mp hb]
    exact next_is_new F
  · intro p hp hI
    exact absurd (Heap.lt_size (N p hp).1) ((List.mem_singleton.mp hI) ▸ Nat.lt_irrefl _)
  · rintro i v m₁ news₁ h tk own hin hP ⟨hl₁, hJ⟩ hoff hown hget hfp hst F₁ N₁
    have hP' : vs[i]? = some v := by simpa using hP
    have hI0 : h₀.get? s.heap.objs.size = none := next_is_new F
    obtain ⟨⟨oI, hoI, hcI, _⟩, _⟩ := id hst
    have hIown : (s.heap.objs.size, oI) ∈ own := hfp _ (List.mem_cons.mpr (.inl rfl)) hI0 _ hoI
    have hnI : ∀ p ∈ news₁, p.1 ≠ s.heap.objs.size := fun p hp e => hoff p hp (List.mem_singleton.mpr e)
    have N₂ : News h₀ env.locals h ((s.heap.objs.size, oI) :: news₁) := fun p hp => by
      rcases List.mem_cons.mp hp with rfl | hp
      · exact N₁ _ (List.mem_append.mpr (.inl hIown))
      · exact N₁ _ (List.mem_append.mpr (.inr hp))
    have hlo : h.get? l = some (PySem.W.listOf vs.toArray nn) := (N₁ _ (List.mem_append.mpr (.inr hl₁))).1
    refine wpAny_mono (turn i v m₁ news₁ _ oI h tk hP' hJ hcI hl₁ hnI F₁ N₂) (fun _ s₃ p => wpAny_mono p (fun f s₂ q => ?_) fun _ _ x => x) fun _ _ x => x
    have fin : MEnd h₀ env.locals (s.heap.objs.size, oI) (fun m' nx' => (l, PySem.W.listOf vs.toArray nn) ∈ nx' ∧ J (i + 1) m' nx') s s₂ →
        LoopStepU h₀ env.locals [s.heap.objs.size] own (fun m nx => (l, PySem.W.listOf vs.toArray nn) ∈ nx ∧ J (i + 1) m nx) { s with heap := h, toks := tk } .next s₂ := by
      rintro ⟨h', tk', m', news', nx, e, F', N', hpi, hn, hm⟩
      have hI' : h'.get? s.heap.objs.size = some oI := (N' _ hpi).1
      refine ⟨rfl, h', tk', m', nx, e, F', fun p hp => ?_, fun p hp hq => ?_, hm⟩
      · rcases List.mem_append.mp hp with hp | hp
        · have h2 : h.get? p.1 = some p.2 := hget p hp
          rcases List.mem_cons.mp (hown p hp) with h1 | h1
          · rw [h1, hoI] at h2
            have h3 : p = (s.heap.objs.size, oI) := Prod.ext h1 (Option.some.inj h2).symm
            rw [h3]
            exact N' _ hpi
          · have h1 := List.mem_singleton.mp h1
            rw [h1, hlo] at h2
            have h3 : p = (l, PySem.W.listOf vs.toArray nn) := Prod.ext h1 (Option.some.inj h2).symm
            rw [h3]
            exact N' _ (hn _ hm.1).1
        · exact N' p (hn p hp).1
      · have h1 := List.mem_singleton.mp hq
        obtain ⟨h2, h3⟩ := hn p hp
        have h4 := (N' p h2).1
        rw [h1, hI'] at h4
        rcases h3 with h3 | h3
        · exact h3 h1
        · exact h3 (by rw [← Option.some.inj h4])
    cases f with
    | ret v => exact q
    | brk => exact q
    | next => exact .next (fin q)
    | cont => exact .cont (fin q)
  · rintro h' tk m' news' F' N' _ ⟨hl', hJ⟩
    exact done m' news' h' tk hJ hl' F' N'
end
noncomputable def FI (ps : List (PySem.Str × Value)) (st : List PySem.Str) (m₀ m : PySem.Str → Option Value) : Prop :=
  (∀ p ∈ ps, m p.1 = some p.2) ∧ ∀ z, (∀ p ∈ ps, z ≠ p.1) → st.contains z = false → m z = m₀ z
section
variable {prog : Program} {w : World} {A : Around} {E : Value → Shared → Prop} {s : Shared} {env : Env} {h₀ : Heap} {target : PySem.Expr} {body : List Stmt} {Q : Flow → Shared → Prop}
noncomputable def MJ {σ : Type} (lp : Addr × Obj) (ps : σ → List (PySem.Str × Value)) (st : List PySem.Str) (m₀ : PySem.Str → Option Value) (P : σ → List (Addr × Obj) → Prop) (m' : PySem.Str → Option Value) (nx : List (Addr × Obj)) : Prop :=
  lp ∈ nx ∧ ∃ c, FI (ps c) st m₀ m' ∧ P c nx
theorem m_loop {σ : Type} {l : Addr} {vs : List Value} {nn : Nat} {m₀ : PySem.Str → Option Value} {news : List (Addr × Obj)} (ps : σ → List (PySem.Str × Value)) (st : List PySem.Str) (P : Nat → σ → List (Addr × Obj) → Prop) (c₀ : σ)
    (hh : A.handled = none) (hl : (l, PySem.W.listOf vs.toArray nn) ∈ news) (F : Fr h₀ env.locals s.heap m₀) (N : News h₀ env.locals s.heap news) (hk : ∀ p ∈ ps c₀, m₀ p.1 = some p.2) (hj : P 0 c₀ news)
    (turn : ∀ i v c (u : PySem.Str → Option Value) nx I it h tk, vs[i]? = some v → P i c nx → it.cls = .type "list_iterator" → (l, PySem.W.listOf vs.toArray nn) ∈ nx → (∀ p ∈ nx, p.1 ≠ I) →
      Fr h₀ env.locals h (kstB (fun z => if st.contains z then u z else m₀ z) (ps c)) → News h₀ env.locals h ((I, it) :: nx) →
      wpAny (model prog w) A (assign target env v) (fun _ s₃ => wpAny (model prog w) A (execs body env)
        (MPost h₀ env.locals (I, it) (MJ (l, PySem.W.listOf vs.toArray nn) ps st m₀ (P (i + 1))) s Q) E s₃) E { s with heap := h, toks := tk })
    (done : ∀ c (u : PySem.Str → Option Value) nx h tk, P vs.length c nx → (l, PySem.W.listOf vs.toArray nn) ∈ nx → Fr h₀ env.locals h (kstB (fun z => if st.contains z then u z else m₀ z) (ps c)) → News h₀ env.locals h nx → Q .next { s with heap := h, toks := tk }) :
    wpAny (model prog w) A (pyIter (.ref l)) (fun it s₂ => TurnsAt prog w A h₀ env target body Q E it s₂) E s := by
  refine m_iter (fun i m nx => ∃ c, FI (ps c) st m₀ m ∧ P i c nx) hh hl F N ⟨c₀, ⟨hk, fun _ _ _ => rfl⟩, hj⟩ ?_ ?_
  · rintro i v m₁ nx I it h tk hv ⟨c, hf, hp⟩ hc hl' hI F₁ N₁
    exact turn i v c m₁ nx I it h tk hv hp hc hl' hI (ksw_fr hf.1 hf.2 F₁) N₁
  · rintro m₁ nx h tk ⟨c, hf, hp⟩ hl' F₁ N₁
    exact done c m₁ nx h tk hp hl' (ksw_fr hf.1 hf.2 F₁) N₁
theorem m_end {σ : Type} {lp pi : Addr × Obj} {ps : σ → List (PySem.Str × Value)} {st : List PySem.Str} {m₀ m' : PySem.Str → Option Value} {P : σ → List (Addr × Obj) → Prop} {L : Addr} {h' : Heap} {tk : Nat} {news' : List (Addr × Obj)} (c : σ) (nx : List (Addr × Obj))
    (F : Fr h₀ L h' m') (N : News h₀ L h' news') (hpi : pi ∈ news') (hn : ∀ p ∈ nx, p ∈ news' ∧ (p.1 ≠ pi.1 ∨ p.2.cls ≠ pi.2.cls)) (hl : lp ∈ nx) (hk : ∀ p ∈ ps c, m' p.1 = some p.2)
    (hr : ∀ z, (∀ p ∈ ps c, z ≠ p.1) → st.contains z = false → m' z = m₀ z) (hP : P c nx) : MEnd h₀ L pi (MJ lp ps st m₀ P) s { s with heap := h', toks := tk } :=
  ⟨h', tk, m', news', nx, rfl, F, N, hpi, hn, hl, c, ⟨hk, hr⟩, hP⟩
end
inductive A2 {α β : Type} (R : α → β → Prop) : List α → List β → Prop
  | nil : A2 R [] []
  | cons {a b as bs} : R a b → A2 R as bs → A2 R (a :: as) (b :: bs)
theorem A2.length {α β : Type} {R : α → β → Prop} {as : List α} {bs : List β} (h : A2 R as bs) : as.length = bs.length := by
  induction h with
  | nil => rfl
  | cons _ _ ih => simp [ih]
theorem A2.mono {α β : Type} {R R' : α → β → Prop} {as : List α} {bs : List β} (h : A2 R as bs) (hm : ∀ a b, R a b → R' a b) : A2 R' as bs := by
  induction h with
  | nil => exact .nil
  | cons r _ ih => exact .cons (hm _ _ r) ih
theorem A2.append {α β : Type} {R : α → β → Prop} {as as' : List α} {bs bs' : List β} (h : A2 R as bs) (h' : A2 R as' bs') : A2 R (as ++ as') (bs ++ bs') := by
  induction h with
  | nil => exact h'
  | cons r _ ih => exact .cons r ih
theorem A2.get {α β : Type} {R : α → β → Prop} {as : List α} {bs : List β} (h : A2 R as bs) : ∀ {i : Nat} {a : α}, as[i]? = some a → ∃ b, bs[i]? = some b ∧ R a b := by
  induction h with
  | nil => intro i a e; cases e
  | cons r _ ih =>
    intro i a e
    cases i with
    | zero => cases e; exact ⟨_, rfl, r⟩
    | succ i => exact ih e
noncomputable abbrev tupO (vs : List Value) (n : Nat) : Obj := { cls := .type "tuple", data := .seq vs.toArray n }
noncomputable def RowAt (news : List (Addr × Obj)) (v : Value) (r : PySem.Str × PySem.Str) : Prop := ∃ a n tk tx, v = .ref a ∧ (a, tupO [.str r.1 tk, .str r.2 tx] n) ∈ news
theorem RowAt.mono {news news' : List (Addr × Obj)} (hs : ∀ p ∈ news, p ∈ news') {v : Value} {r : PySem.Str × PySem.Str} (h : RowAt news v r) : RowAt news' v r :=
  let ⟨a, n, tk, tx, e, hm⟩ := h; ⟨a, n, tk, tx, e, hs _ hm⟩
end Mine
namespace Mine
open PyProof.Rows.LCg (NsObj ns_obj)
noncomputable abbrev lsO (ys : List Value) : Obj := PySem.W.listOf ys.toArray ys.length
noncomputable def tests (ifs : List PySem.Expr) (cenv : Env) : Sem Bool := forIn ifs true fun c r => if r = true then do let ok ← isTrue c cenv (eval c cenv); pure (ForInStep.yield ok) else pure (ForInStep.yield r)
noncomputable def cTree (e : PySem.Expr) (depth : Nat) (it acc : Value) (cenv : Env) (gp : Pos) (tgt : PySem.Expr) (ifs : List PySem.Expr) (emit : Sem Unit) : Sem Fin := do
  standAt gp
  match ← pyNext it with
  | none => pure (.done .next)
  | some v =>
    letOwnedTupleGo tgt it v
    assign tgt cenv v
    let ok ← tests ifs cenv
    if ok then emit
    again (.compLoop e depth it acc cenv)
noncomputable def emit1 (elt : PySem.Expr) (acc : Value) (cenv : Env) : Sem Unit := do let _ ← call (.builtin "list.append") [acc, ← eval elt cenv]
noncomputable def emit2 (e iter2 : PySem.Expr) (acc : Value) (cenv : Env) : Sem Unit := do
  let x ← eval iter2 cenv
  standAt iter2.pos
  let x ← foldedSetIterable iter2 cenv x
  let _ ← runOwn (.compStart e 1 (← holding [x] (pyIter x)) acc cenv) cenv
theorem turn_one (elt tgt iter : PySem.Expr) (ifs : List PySem.Expr) (scope : Scope) (pos : Pos) (it acc : Value) (cenv : Env) :
    compTurn (.ListComp elt [⟨tgt, iter, ifs, 0⟩] scope pos) 0 it acc cenv = cTree (.ListComp elt [⟨tgt, iter, ifs, 0⟩] scope pos) 0 it acc cenv iter.pos tgt ifs (emit1 elt acc cenv) := by rfl
theorem turn_two0 (elt tgt iter tgt2 iter2 : PySem.Expr) (ifs ifs2 : List PySem.Expr) (scope : Scope) (pos : Pos) (it acc : Value) (cenv : Env) :
    compTurn (.ListComp elt [⟨tgt, iter, ifs, 0⟩, ⟨tgt2, iter2, ifs2, 0⟩] scope pos) 0 it acc cenv = cTree (.ListComp elt [⟨tgt, iter, ifs, 0⟩, ⟨tgt2, iter2, ifs2, 0⟩] scope pos) 0 it acc cenv iter.pos tgt ifs (emit2 (.ListComp elt [⟨tgt, iter, ifs, 0⟩, ⟨tgt2, iter2, ifs2, 0⟩] scope pos) iter2 acc cenv) := by
  unfold cTree emit2
  simp only [bind_assoc, pure_bind]
  rfl
theorem turn_two1 (elt tgt iter tgt2 iter2 : PySem.Expr) (ifs ifs2 : List PySem.Expr) (scope : Scope) (pos : Pos) (it acc : Value) (cenv : Env) :
    compTurn (.ListComp elt [⟨tgt, iter, ifs, 0⟩, ⟨tgt2, iter2, ifs2, 0⟩] scope pos) 1 it acc cenv = cTree (.ListComp elt [⟨tgt, iter, ifs, 0⟩, ⟨tgt2, iter2, ifs2, 0⟩] scope pos) 1 it acc cenv iter2.pos tgt2 ifs2 (emit1 elt acc cenv) := by rfl
section
variable {prog : Program} {w : World} {A : Around} {E : Value → Shared → Prop} {s : Shared} {env : Env} {h₀ : Heap} {L : Addr} {m : PySem.Str → Option Value}
theorem cl_any {elt : PySem.Expr} {gens : List Comprehension} {scope : Scope} {pos gp : Pos} {depth : Nat} {it acc : Value} {cenv : Env} {tgt : PySem.Expr} {ifs : List PySem.Expr} {emit : Sem Unit} {R : Result → Shared → Prop} (I : Nat → Shared → Prop)
    (ht : compTurn (.ListComp elt gens scope pos) depth it acc cenv = cTree (.ListComp elt gens scope pos) depth it acc cenv gp tgt ifs emit)
    (turn : ∀ n s, I n s → wpAny (model prog w) A (pyNext it) (fun r s₁ => match r with
      | none => R (.ok .next) s₁
      | some v => ∀ E' : Value → Shared → Prop, wpAny (model prog w) A (letOwnedTupleGo tgt it v) (fun _ s₁' => wpAny (model prog w) A (assign tgt cenv v) (fun _ s₂ =>
          wpAny (model prog w) A (tests ifs cenv) (fun ok s₃ => if ok = true then wpAny (model prog w) A emit (fun _ s₅ => ∃ m, m < n ∧ I m s₅) E' s₃ else ∃ m, m < n ∧ I m s₃) E' s₂) E' s₁') E' s₁) (fun _ _ => False) s)
    (n : Nat) (h : I n s) : codeAny (model prog w) A (.compLoop (.ListComp elt gens scope pos) depth it acc cenv) R s := by
  refine codeAny_loop rfl I (fun n s hI => ?_) n h
  show wpAny _ A ((compTurn (.ListComp elt gens scope pos) depth it acc cenv).onRaise (fun x => do noteFrame x cenv; theTreesLotGoes x)) _ _ s
  refine wpAny_noted ?_
  rw [ht]
  unfold cTree
  refine wpAny_bind (wpAny_standAt (wpAny_bind (wpAny_mono (turn n s hI) (fun r s₁ h₁ => ?_) fun _ _ x => x.elim)))
  cases r with
  | none => exact wpAny_pure h₁
  | some v =>
    refine wpAny_bind (wpAny_mono (h₁ _) (fun _ s₁' h₁' => ?_) fun _ _ h' => h')
    refine wpAny_bind (wpAny_mono h₁' (fun _ s₂ h₂ => wpAny_bind (wpAny_mono h₂ (fun ok s₃ h₃ => ?_) fun _ _ h' => h')) fun _ _ h' => h')
    cases ok with
    | false => exact wpAny_pure ⟨rfl, h₃⟩
    | true => exact wpAny_bind (wpAny_mono h₃ (fun _ s₅ h₅ => wpAny_pure ⟨rfl, h₅⟩) fun _ _ h' => h')
noncomputable def CEnd (h₀ : Heap) (L : Addr) (m : PySem.Str → Option Value) (s : Shared) (I : Addr) (oI : Obj) (C D : Addr) (M : (PySem.Str → Option Value) → Prop) (J : List Value → List (Addr × Obj) → Prop) (s' : Shared) : Prop :=
  ∃ h' tk news' nx oC m₂ ys, s' = { s with heap := h', toks := tk } ∧ Fr h₀ L h' m ∧ News h₀ L h' news' ∧ (I, oI) ∈ news' ∧ (C, oC) ∈ news' ∧ (NsObj oC m₂ ∧ M m₂) ∧ (D, lsO ys) ∈ news' ∧ (∀ p ∈ nx, p ∈ news' ∧ p.1 ≠ I ∧ p.1 ≠ C ∧ p.1 ≠ D) ∧ ys.length ≤ sizeLine ∧ J ys nx
theorem c_loop {elt : PySem.Expr} {gens : List Comprehension} {scope : Scope} {pos gp : Pos} {depth : Nat} {cenv : Env} {tgt : PySem.Expr} {ifs : List PySem.Expr} {emit : Sem Unit} {R : Result → Shared → Prop} {I C D : Addr} {fp : List Addr} {n : Nat}
    {P : Nat → Value → Prop} {St : Nat → Heap → Prop} {S : List (Addr × Obj) → Prop} (M : (PySem.Str → Option Value) → Prop) (J : Nat → List Value → List (Addr × Obj) → Prop) {news : List (Addr × Obj)} {oC : Obj} {m₂ : PySem.Str → Option Value} {ys : List Value}
    (ht : compTurn (.ListComp elt gens scope pos) depth (.ref I) (.ref D) cenv = cTree (.ListComp elt gens scope pos) depth (.ref I) (.ref D) cenv gp tgt ifs emit)
    (W : Walks prog w A I fp [I] n P St) (hgo : ∀ i v (s : Shared) (Q : Unit → Shared → Prop) (E : Value → Shared → Prop), St i s.heap → Q () s → wpAny (model prog w) A (letOwnedTupleGo tgt (.ref I) v) Q E s)
    (hIo : ∀ i h, St i h → ∃ o, h.get? I = some o)
    (hSt : ∀ i h h' o nw, St i h → h.get? I = some o → h'.get? I = some o → News h₀ L h' nw → S nw → St i h')
    (hst : St 0 s.heap) (F : Fr h₀ L s.heap m) (N : News h₀ L s.heap ((C, oC) :: (D, lsO ys) :: news)) (hC : NsObj oC m₂ ∧ M m₂) (hIL : L ≠ I) (hI₀ : h₀.get? I = none) (hne : I ≠ C ∧ I ≠ D ∧ C ≠ D)
    (off : ∀ p ∈ news, p.1 ≠ I ∧ p.1 ≠ C ∧ p.1 ≠ D) (hS : S news) (hsz : ys.length ≤ sizeLine) (hJ : J 0 ys news)
    (turn : ∀ i v ys nx oI oC m₂ h tk (E' : Value → Shared → Prop), i < n → P i v → J i ys nx → S nx → ys.length ≤ sizeLine → (∀ p ∈ nx, p.1 ≠ I ∧ p.1 ≠ C ∧ p.1 ≠ D) → Fr h₀ L h m → News h₀ L h ((I, oI) :: (C, oC) :: (D, lsO ys) :: nx) → (NsObj oC m₂ ∧ M m₂) →
      wpAny (model prog w) A (assign tgt cenv v) (fun _ s₂ => wpAny (model prog w) A (tests ifs cenv) (fun ok s₃ =>
        if ok = true then wpAny (model prog w) A emit (fun _ s₅ => CEnd h₀ L m s I oI C D M (fun ys nx => S nx ∧ J (i + 1) ys nx) s₅) E' s₃ else CEnd h₀ L m s I oI C D M (fun ys nx => S nx ∧ J (i + 1) ys nx) s₃) E' s₂) E' { s with heap := h, toks := tk })
    (done : ∀ ys nx oC m₂ h tk, J n ys nx → S nx → ys.length ≤ sizeLine → (∀ p ∈ nx, p.1 ≠ I ∧ p.1 ≠ C ∧ p.1 ≠ D) → Fr h₀ L h m → News h₀ L h ((C, oC) :: (D, lsO ys) :: nx) → (NsObj oC m₂ ∧ M m₂) → R (.ok .next) { s with heap := h, toks := tk }) :
    codeAny (model prog w) A (.compLoop (.ListComp elt gens scope pos) depth (.ref I) (.ref D) cenv) R s := by
  refine cl_any (fun k s' => ∃ h' tk i ys nx oC m₂, s' = { s with heap := h', toks := tk } ∧ i ≤ n ∧ k = n + 1 - i ∧ St i h' ∧ Fr h₀ L h' m ∧ News h₀ L h' ((C, oC) :: (D, lsO ys) :: nx) ∧ (NsObj oC m₂ ∧ M m₂) ∧
      (∀ p ∈ nx, p.1 ≠ I ∧ p.1 ≠ C ∧ p.1 ≠ D) ∧ S nx ∧ ys.length ≤ sizeLine ∧ J i ys nx) ht ?_ (n + 1) ⟨s.heap, s.toks, 0, ys, news, oC, m₂, rfl, Nat.zero_le _, rfl, hst, F, N, hC, off, hS, hsz, hJ⟩
  rintro k s' ⟨h', tk, i, ys, nx, oC, m₂, rfl, hi, rfl, hst', F', N', hC', off', hS', hsz', hJ'⟩
  have noI : ∀ p ∈ (C, oC) :: (D, lsO ys) :: nx, p.1 ∉ [I] := by
    intro p hp hm
    have e := List.mem_singleton.mp hm
    rcases List.mem_cons.mp hp with rfl | hp
    · exact hne.1 e.symm
    · rcases List.mem_cons.mp hp with rfl | hp
      · exact hne.2.1 e.symm
      · exact (off' p hp).1 e
  have stay : ∀ h₂ : Heap, (∀ b o, b ∉ [I] → h'.get? b = some o → h₂.get? b = some o) → Fr h₀ L h₂ m ∧ News h₀ L h₂ ((C, oC) :: (D, lsO ys) :: nx) := fun h₂ hk =>
    ⟨⟨F'.ns.at' fun o e => hk L o (by simpa using hIL) e, fun b o e => hk b o (fun hm => by rw [List.mem_singleton.mp hm, hI₀] at e; cases e) (F'.keep b o e), F'.above⟩, fun p hp => ⟨hk _ _ (noI p hp) (N' p hp).1, (N' p hp).2⟩⟩
  by_cases hlt : i < n
  · refine W.item i _ _ _ hlt hst' fun v h₂ tk₂ hPv hst₂ hk₂ => ?_
    obtain ⟨F₂, N₂⟩ := stay h₂ hk₂
    obtain ⟨oI, heI⟩ := hIo _ _ hst₂
    have N₃ : News h₀ L h₂ ((I, oI) :: (C, oC) :: (D, lsO ys) :: nx) := fun p hp => by
      rcases List.mem_cons.mp hp with rfl | hp
      · exact ⟨heI, Ne.symm hIL, hI₀⟩
      · exact N₂ p hp
    intro E'
    refine hgo (i + 1) v _ _ _ hst₂ ?_
    have fin : ∀ s₅, CEnd h₀ L m s I oI C D M (fun ys nx => S nx ∧ J (i + 1) ys nx) s₅ → ∃ k', k' < n + 1 - i ∧ ∃ h' tk i ys nx oC m₂, s₅ = { s with heap := h', toks := tk } ∧ i ≤ n ∧ k' = n + 1 - i ∧ St i h' ∧ Fr h₀ L h' m ∧ News h₀ L h' ((C, oC) :: (D, lsO ys) :: nx) ∧ (NsObj oC m₂ ∧ M m₂) ∧
      (∀ p ∈ nx, p.1 ≠ I ∧ p.1 ≠ C ∧ p.1 ≠ D) ∧ S nx ∧ ys.length ≤ sizeLine ∧ J i ys nx := by
      rintro s₅ ⟨h₅, tk₅, news₅, nx₅, oC₅, m₅, ys₅, rfl, F₅, N₅, hI₅, hC₅, hn₅, hD₅, ho₅, hz₅, hS₅, hJ₅⟩
      have N₆ : News h₀ L h₅ ((C, oC₅) :: (D, lsO ys₅) :: nx₅) := fun p hp => by
        rcases List.mem_cons.mp hp with rfl | hp
        · exact N₅ _ hC₅
        · rcases List.mem_cons.mp hp with rfl | hp
          · exact N₅ _ hD₅
          · exact N₅ _ (ho₅ p hp).1
      exact ⟨n + 1 - (i + 1), by omega, h₅, tk₅, i + 1, ys₅, nx₅, oC₅, m₅, rfl, hlt, rfl, hSt _ _ _ _ _ hst₂ heI (N₅ _ hI₅).1 (fun p hp => N₆ p (.tail _ (.tail _ hp))) hS₅, F₅, N₆, hn₅, fun p hp => (ho₅ p hp).2, hS₅, hz₅, hJ₅⟩
    refine wpAny_mono (turn i v ys nx oI oC m₂ h₂ _ E' hlt hPv hJ' hS' hsz' off' F₂ N₃ hC') (fun _ s₃ h₃ => wpAny_mono h₃ (fun ok s₄ h₄ => ?_) fun _ _ x => x) fun _ _ x => x
    cases ok with
    | false => exact fin _ h₄
    | true => exact wpAny_mono h₄ (fun _ s₅ h₅ => fin _ h₅) fun _ _ x => x
  · have : i = n := by omega
    subst this
    refine W.done _ _ _ hst' fun h₂ tk₂ hk₂ => ?_
    obtain ⟨F₂, N₂⟩ := stay h₂ hk₂
    exact done ys nx oC m₂ h₂ tk₂ hJ' hS' hsz' off' F₂ N₂ hC'
theorem c_block {elt tgt iter : PySem.Expr} {ifs : List PySem.Expr} {gens : List Comprehension} {scope : Scope} {cl : List (PySem.Str × Addr)} {pos gp : Pos} {s₂ : Shared} {I : Addr} {fp : List Addr} {n : Nat} {P : Nat → Value → Prop} {St : Nat → Heap → Prop} {S : List (Addr × Obj) → Prop}
    {news : List (Addr × Obj)} {emit : Addr → Addr → Sem Unit} {RR : Value → Addr → Result → Shared → Prop} (J : Nat → List Value → List (Addr × Obj) → Prop)
    (ht : ∀ C D, compTurn (.ListComp elt (⟨tgt, iter, ifs, 0⟩ :: gens) scope pos) 0 (.ref I) (.ref D) (compEnvC scope cl C env) = cTree (.ListComp elt (⟨tgt, iter, ifs, 0⟩ :: gens) scope pos) 0 (.ref I) (.ref D) (compEnvC scope cl C env) gp tgt ifs (emit C D))
    (W : Walks prog w A I fp [I] n P St) (hgo : ∀ i v (s : Shared) (Q : Unit → Shared → Prop) (E : Value → Shared → Prop), St i s.heap → Q () s → wpAny (model prog w) A (letOwnedTupleGo tgt (.ref I) v) Q E s)
    (hIo : ∀ i h, St i h → ∃ o, h.get? I = some o)
    (hSt : ∀ i h h' o nw, St i h → h.get? I = some o → h'.get? I = some o → News h₀ L h' nw → S nw → St i h')
    (hcell : ∀ y ∈ scope.names, y.2 ≠ .cell) (hkind : scope.kind = .function) (hst : St 0 s₂.heap) (hfp : ∀ b ∈ fp, b < s₂.heap.objs.size)
    (F : Fr h₀ L s₂.heap m) (N : News h₀ L s₂.heap news) (hIL : L ≠ I) (hI₀ : h₀.get? I = none) (off : ∀ p ∈ news, p.1 ≠ I) (hS : S news) (hJ : J 0 [] news)
    (turn : ∀ i v ys nx oI C oC D m₂ h tk (E' : Value → Shared → Prop), i < n → P i v → J i ys nx → S nx → ys.length ≤ sizeLine → (∀ p ∈ nx, p.1 ≠ I ∧ p.1 ≠ C ∧ p.1 ≠ D) → (I ≠ C ∧ I ≠ D ∧ C ≠ D) → Fr h₀ L h m → News h₀ L h ((I, oI) :: (C, oC) :: (D, lsO ys) :: nx) → NsObj oC m₂ →
      wpAny (model prog w) A (assign tgt (compEnvC scope cl C env) v) (fun _ s₃ => wpAny (model prog w) A (tests ifs (compEnvC scope cl C env)) (fun ok s₄ =>
        if ok = true then wpAny (model prog w) A (emit C D) (fun _ s₅ => CEnd h₀ L m s₂ I oI C D (fun _ => True) (fun ys nx => S nx ∧ J (i + 1) ys nx) s₅) E' s₄ else CEnd h₀ L m s₂ I oI C D (fun _ => True) (fun ys nx => S nx ∧ J (i + 1) ys nx) s₄) E' s₃) E' { s₂ with heap := h, toks := tk })
    (hRR : ∀ D C h tk m' ys nx, Fr h₀ L h m → News h₀ L h ((D, lsO ys) :: nx) → (∀ p ∈ nx, p.1 ≠ D) → h.Ns C m' → h₀.get? C = none → C ≠ L → C ≠ D → (∀ p ∈ nx, p.1 ≠ C) → S nx → J n ys nx → RR (.ref D) C (.ok .next) { s₂ with heap := h, toks := tk }) :
    wpAny (model prog w) A (newList []) (fun acc s₃ => wpAny (model prog w) A (newFunctionEnv scope env.globals cl [] env.qual none .none (some env)) (fun cenv s₄ =>
      codeAny (model prog w) A (.compStart (.ListComp elt (⟨tgt, iter, ifs, 0⟩ :: gens) scope pos) 0 (.ref I) acc { cenv with scope := relabel scope env }) (RR acc cenv.locals) s₄) E s₃) E s₂ := by
  refine wpAny_newObj_type (wpAny_newFunctionEnv hcell (by intro y hy; simp at hy) (fun h₁ hns₁ hsb₁ => ?_) hkind)
  dsimp only at hns₁ hsb₁ ⊢
  generalize hH2 : s₂.heap.push { cls := .type "list", dict := none, data := .seq ([] : List Value).toArray } = H2 at hns₁ hsb₁ ⊢
  have hC : H2.objs.size = s₂.heap.objs.size + 1 := by rw [← hH2, Heap.size_push]
  have below : ∀ b, b < s₂.heap.objs.size → b ≠ H2.objs.size ∧ b ≠ s₂.heap.objs.size := fun b hb => ⟨by rw [hC]; exact Nat.ne_of_lt (Nat.lt_succ_of_lt hb), Nat.ne_of_lt hb⟩
  have hDC : s₂.heap.objs.size ≠ H2.objs.size := by rw [hC]; exact Nat.ne_of_lt (Nat.lt_succ_self _)
  have hIf : I ∈ fp := W.sub I (List.mem_singleton.mpr rfl)
  have hIlt : I < s₂.heap.objs.size := hfp I hIf
  have old : ∀ b o, s₂.heap.get? b = some o → h₁.get? b = some o := fun b o e => hsb₁.extBut b o (below b (Heap.lt_size e)).1 (Heap.get?_push_of_some _ (hH2 ▸ Heap.get?_push_of_some _ e))
  have hacc : h₁.get? s₂.heap.objs.size = some (lsO []) := hsb₁.extBut _ _ hDC (Heap.get?_push_of_some _ (hH2 ▸ Heap.get?_push_size _ rfl))
  have hst₁ : St 0 h₁ := W.frame _ _ _ hst fun b _ o e => old b o e
  have fresh₀ : ∀ a, s₂.heap.objs.size ≤ a → h₀.get? a = none := fun a ha => by
    cases e : h₀.get? a with
    | none => rfl
    | some o' => exact absurd (Heap.lt_size (F.keep a o' e)) (Nat.not_lt.mpr ha)
  have hD₀ : h₀.get? s₂.heap.objs.size = none := fresh₀ _ (Nat.le_refl _)
  have hC₀ : h₀.get? H2.objs.size = none := fresh₀ _ (by rw [hC]; exact Nat.le_succ _)
  have hLlt : L < s₂.heap.objs.size := F.ns.lt
  have hDL : s₂.heap.objs.size ≠ L := Ne.symm (below L hLlt).2
  have hCL : H2.objs.size ≠ L := Ne.symm (below L hLlt).1
  obtain ⟨oC, heC, hoC⟩ := ns_obj hns₁
  have loop : ∀ s₃ : Shared, s₃ = { s₂ with heap := h₁, toks := s₂.toks + ([] : List (PySem.Str × Value)).length } →
      codeAny (model prog w) A (.compLoop (.ListComp elt (⟨tgt, iter, ifs, 0⟩ :: gens) scope pos) 0 (.ref I) (.ref s₂.heap.objs.size) (compEnvC scope cl H2.objs.size env))
        (RR (.ref s₂.heap.objs.size) H2.objs.size) s₃ := by
    rintro s₃ rfl
    refine c_loop (C := H2.objs.size) (news := news) (oC := oC) (ys := []) (fun _ => True) J (ht _ _) W hgo hIo hSt hst₁ (F.keeps old) (fun p hp => ?_) ⟨hoC, trivial⟩ hIL hI₀ ⟨(below I hIlt).1, (below I hIlt).2, Ne.symm hDC⟩
      (fun p hp => ⟨off p hp, (below _ (Heap.lt_size (N p hp).1)).1, (below _ (Heap.lt_size (N p hp).1)).2⟩) hS (Nat.zero_le _) hJ ?_ ?_
    · rcases List.mem_cons.mp hp with rfl | hp
      · exact ⟨heC, hCL, hC₀⟩
      · rcases List.mem_cons.mp hp with rfl | hp
        · exact ⟨hacc, hDL, hD₀⟩
        · exact ⟨old _ _ (N p hp).1, (N p hp).2⟩
    · intro i v ys nx oI oC m₂ h tk E' hi hP hJ' hS' hz ho F₁ N₁ hN₁
      exact turn i v ys nx oI _ oC _ m₂ h tk E' hi hP hJ' hS' hz ho ⟨(below I hIlt).1, (below I hIlt).2, Ne.symm hDC⟩ F₁ N₁ hN₁.1
    · intro ys nx oC m₂ h tk hJ' hS' hz ho F₁ N₁ hN₁
      exact hRR _ _ h tk m₂ ys nx F₁ (fun p hp => N₁ p (.tail _ hp)) (fun p hp => (ho p hp).2.2) (hN₁.1.ns (N₁ _ (.head _)).1) hC₀ hCL (Ne.symm hDC) (fun p hp => (ho p hp).2.1) hS' hJ'
  exact codeAny_compStart_list (loop _ rfl) (W.self 0 _ _ _ hst₁ (loop _ rfl))
noncomputable def CSrcL (prog : Program) (w : World) (A : Around) (h₀ : Heap) (L : Addr) (m : PySem.Str → Option Value) (env : Env) (tgt : PySem.Expr) (ifs : List PySem.Expr) (scope : Scope) (cl : List (PySem.Str × Addr)) (emit : Addr → Addr → Sem Unit) (Q : Addr → List Value → List (Addr × Obj) → Shared → Prop) (xv : Value) (s₁ : Shared) : Prop :=
  ∃ (l : Addr) (vs : List Value) (nn : Nat) (news : List (Addr × Obj)) (J : Nat → List Value → List (Addr × Obj) → Prop), xv = .ref l ∧ A.handled = none ∧ Fr h₀ L s₁.heap m ∧ News h₀ L s₁.heap news ∧ (l, PySem.W.listOf vs.toArray nn) ∈ news ∧ J 0 [] news ∧
    (∀ i v ys nx I oI C oC D m₂ h tk (E' : Value → Shared → Prop), vs[i]? = some v → J i ys nx → (l, PySem.W.listOf vs.toArray nn) ∈ nx → ys.length ≤ sizeLine → (∀ p ∈ nx, p.1 ≠ I ∧ p.1 ≠ C ∧ p.1 ≠ D) → (I ≠ C ∧ I ≠ D ∧ C ≠ D) → Fr h₀ L h m → News h₀ L h ((I, oI) :: (C, oC) :: (D, lsO ys) :: nx) → NsObj oC m₂ →
      wpAny (model prog w) A (assign tgt (compEnvC scope cl C env) v) (fun _ s₃ => wpAny (model prog w) A (tests ifs (compEnvC scope cl C env)) (fun ok s₄ =>
        if ok = true then wpAny (model prog w) A (emit C D) (fun _ s₅ => CEnd h₀ L m s₁ I oI C D (fun _ => True) (fun ys nx => (l, PySem.W.listOf vs.toArray nn) ∈ nx ∧ J (i + 1) ys nx) s₅) E' s₄ else CEnd h₀ L m s₁ I oI C D (fun _ => True) (fun ys nx => (l, PySem.W.listOf vs.toArray nn) ∈ nx ∧ J (i + 1) ys nx) s₄) E' s₃) E' { s₁ with heap := h, toks := tk }) ∧
    (∀ D ys nx h tk, J vs.length ys nx → (l, PySem.W.listOf vs.toArray nn) ∈ nx → (∀ p ∈ nx, p.1 ≠ D) → Fr h₀ L h m → News h₀ L h ((D, lsO ys) :: nx) → Q D ys nx { s₁ with heap := h, toks := tk })
noncomputable def CSrcR (prog : Program) (w : World) (A : Around) (h₀ : Heap) (L : Addr) (m : PySem.Str → Option Value) (env : Env) (tgt : PySem.Expr) (ifs : List PySem.Expr) (scope : Scope) (cl : List (PySem.Str × Addr)) (emit : Addr → Addr → Sem Unit) (Q : Addr → List Value → List (Addr × Obj) → Shared → Prop) (xv : Value) (s₁ : Shared) : Prop :=
  ∃ (r : Addr) (a b c : Int) (t u v : Tok) (n : Nat) (news : List (Addr × Obj)) (J : Nat → List Value → List (Addr × Obj) → Prop), xv = .ref r ∧ A.handled = none ∧ Fr h₀ L s₁.heap m ∧ News h₀ L s₁.heap news ∧ IsRange s₁.heap r a b c t u v ∧ Builtin.Range.small a b c = true ∧ Builtin.Range.rangeSize a b c = ((n : Nat) : Int) ∧ J 0 [] news ∧
    (∀ i tk₀ ys nx I oI C oC D m₂ h tk (E' : Value → Shared → Prop), i < n → J i ys nx → ys.length ≤ sizeLine → (∀ p ∈ nx, p.1 ≠ I ∧ p.1 ≠ C ∧ p.1 ≠ D) → (I ≠ C ∧ I ≠ D ∧ C ≠ D) → Fr h₀ L h m → News h₀ L h ((I, oI) :: (C, oC) :: (D, lsO ys) :: nx) → NsObj oC m₂ →
      wpAny (model prog w) A (assign tgt (compEnvC scope cl C env) (.int (a + (i : Int) * c) tk₀)) (fun _ s₃ => wpAny (model prog w) A (tests ifs (compEnvC scope cl C env)) (fun ok s₄ =>
        if ok = true then wpAny (model prog w) A (emit C D) (fun _ s₅ => CEnd h₀ L m s₁ I oI C D (fun _ => True) (J (i + 1)) s₅) E' s₄ else CEnd h₀ L m s₁ I oI C D (fun _ => True) (J (i + 1)) s₄) E' s₃) E' { s₁ with heap := h, toks := tk }) ∧
    (∀ D ys nx h tk, J n ys nx → (∀ p ∈ nx, p.1 ≠ D) → Fr h₀ L h m → News h₀ L h ((D, lsO ys) :: nx) → Q D ys nx { s₁ with heap := h, toks := tk })
theorem range_w {I : Addr} (hh : A.handled = none) (a c : Int) (n : Nat) : Walks prog w A I [I] [I] n (fun i v => ∃ t, v = .int (a + (i : Int) * c) t) (fun i h => IsRangeIter h I (a + (i : Nat) * c) ((n : Int) - (i : Nat)) c) :=
  let W := (Walks.range (prog := prog) (w := w) hh I a c n).bound
  { sub := W.sub, frame := W.frame, done := W.done, self := W.self,
    item := fun i s Q E hi st hQ => W.item i s Q E hi st fun v h' tk hP => hQ v h' tk hP.2 }
theorem c_src {elt tgt iter : PySem.Expr} {ifs : List PySem.Expr} {gens : List Comprehension} {scope : Scope} {cl : List (PySem.Str × Addr)} {pos gp : Pos} {emit : Addr → Addr → Sem Unit} {RR : Value → Addr → Result → Shared → Prop} {Q : Addr → List Value → List (Addr × Obj) → Shared → Prop}
    (ht : ∀ C D I, compTurn (.ListComp elt (⟨tgt, iter, ifs, 0⟩ :: gens) scope pos) 0 (.ref I) (.ref D) (compEnvC scope cl C env) = cTree (.ListComp elt (⟨tgt, iter, ifs, 0⟩ :: gens) scope pos) 0 (.ref I) (.ref D) (compEnvC scope cl C env) gp tgt ifs (emit C D))
    (hcell : ∀ y ∈ scope.names, y.2 ≠ .cell) (hkind : scope.kind = .function)
    (xv : Value) (s₁ : Shared) (h : CSrcL prog w A h₀ L m env tgt ifs scope cl emit Q xv s₁ ∨ ((∃ x px, tgt = .Name x px) ∧ CSrcR prog w A h₀ L m env tgt ifs scope cl emit Q xv s₁))
    (hRR : ∀ D C h tk m' ys nx, Fr h₀ L h m → News h₀ L h ((D, lsO ys) :: nx) → (∀ p ∈ nx, p.1 ≠ D) → h.Ns C m' → h₀.get? C = none → C ≠ L → C ≠ D → (∀ p ∈ nx, p.1 ≠ C) →
      (∀ h' tk', Fr h₀ L h' m → News h₀ L h' ((D, lsO ys) :: nx) → Q D ys nx { s₁ with heap := h', toks := tk' }) → RR (.ref D) C (.ok .next) { s₁ with heap := h, toks := tk }) :
    wpAny (model prog w) A (pyIter xv) (fun it s₂ => wpAny (model prog w) A (newList []) (fun acc s₃ => wpAny (model prog w) A (newFunctionEnv scope env.globals cl [] env.qual none .none (some env)) (fun cenv s₄ =>
      codeAny (model prog w) A (.compStart (.ListComp elt (⟨tgt, iter, ifs, 0⟩ :: gens) scope pos) 0 it acc { cenv with scope := relabel scope env }) (RR acc cenv.locals) s₄) E s₃) E s₂) E s₁ := by
  rcases h with ⟨l, vs, nn, news, J, rfl, hh, F, N, hl, hJ, turn, done⟩ | ⟨⟨x, px, rfl⟩, r, a, b, c, t, u, v, n, news, J, rfl, hh, F, N, hr, hsm, hn, hJ, turn, done⟩
  · have hol : s₁.heap.get? l = some (PySem.W.listOf vs.toArray nn) := (N _ hl).1
    have hls : s₁.heap.IsList l vs.toArray := ⟨_, hol, rfl, nn, rfl⟩
    have hlt : l < s₁.heap.objs.size := Heap.lt_size hol
    refine wpAny_pyIter_list hls ?_
    have up : ∀ b o, s₁.heap.get? b = some o → (s₁.heap.push { cls := .type "list_iterator", data := .fields #[.ref l, .int 0 0] }).get? b = some o := fun b o e => Heap.get?_push_of_some _ e
    have W := Walks.list (prog := prog) (w := w) hh s₁.heap.objs.size l (Nat.ne_of_lt hlt) vs.toArray
    have hlen : vs.toArray.size = vs.length := by simp
    rw [hlen] at W
    refine c_block (St := fun i h => h.IsListIter s₁.heap.objs.size l i ∧ h.IsList l vs.toArray) (S := fun nw => (l, PySem.W.listOf vs.toArray nn) ∈ nw) J (fun C D => ht C D _) W (fun i v s Q E st q => letGo_listiter st.1 q) (fun i h st => by obtain ⟨o, e, _⟩ := st.1; exact ⟨o, e⟩)
      (fun i h h' o nw st e e' N' hl' => ⟨by obtain ⟨o', q, r⟩ := st.1; rw [e] at q; cases q; exact ⟨o, e', r⟩, ⟨_, (N' _ hl').1, rfl, nn, rfl⟩⟩) hcell hkind
      ⟨⟨_, Heap.get?_push_size _ rfl, rfl, rfl⟩, hls.push _⟩ (fun b hb => ?_) (F.keeps up) (N.grown up) (Nat.ne_of_lt F.ns.lt) (next_is_new F) (fun p hp => Nat.ne_of_lt (Heap.lt_size (N p hp).1)) hl hJ ?_ ?_
    · show b < (s₁.heap.push _).objs.size
      rw [Heap.size_push]
      rcases List.mem_cons.mp hb with rfl | hb
      · exact Nat.lt_succ_self _
      · rw [List.mem_singleton.mp hb]; exact Nat.lt_succ_of_lt hlt
    · intro i v ys nx oI C oC D m₂ h tk E' hi hP hJ' hS' hz ho hne F₁ N₁ hN₁
      exact turn i v ys nx _ oI C oC D m₂ h tk E' (by simpa using hP) hJ' hS' hz ho hne F₁ N₁ hN₁
    · intro D C h tk m' ys nx F' N' hD hn hC₀ hCL hCD hCx hS' hJ'
      exact hRR D C h tk m' ys nx F' N' hD hn hC₀ hCL hCD hCx (fun h' tk' F'' N'' => done D ys nx h' tk' hJ' hS' hD F'' N'')
  · refine wpAny_pyIter_range hr hsm ?_
    refine c_block (St := fun i h => IsRangeIter h s₁.heap.objs.size (a + (i : Nat) * c) ((n : Int) - (i : Nat)) c) (S := fun _ => True) J (fun C D => ht C D _) (range_w hh a c n) (fun i v s Q E st q => wpAny_pure q) (fun i h st => ⟨_, st⟩)
      (fun i h h' o nw st e e' N' _ => by
        have st' : h.get? s₁.heap.objs.size = some _ := st
        show h'.get? s₁.heap.objs.size = some _
        rw [e', ← e]; exact st') hcell hkind
      (by show IsRangeIter _ _ _ _ _; rw [hn]; simpa using Heap.get?_push_size _ rfl) (fun b hb => ?_) (F.keeps fun _ _ e => Heap.get?_push_of_some _ e) (N.grown fun _ _ e => Heap.get?_push_of_some _ e) (Nat.ne_of_lt F.ns.lt) (next_is_new F) (fun p hp => Nat.ne_of_lt (Heap.lt_size (N p hp).1)) trivial hJ ?_ ?_
    · rw [List.mem_singleton.mp hb]
      show s₁.heap.objs.size < (s₁.heap.push _).objs.size
      rw [Heap.size_push]; exact Nat.lt_succ_self _
    · rintro i v ys nx oI C oC D m₂ h tk E' hi ⟨t, rfl⟩ hJ' hS' hz ho hne F₁ N₁ hN₁
      have := turn i t ys nx _ oI C oC D m₂ h tk E' hi hJ' hz ho hne F₁ N₁ hN₁
      have e : (fun (ys : List Value) (nx : List (Addr × Obj)) => True ∧ J (i + 1) ys nx) = J (i + 1) := by funext ys nx; simp
      rw [e]
      exact this
    · intro D C h tk m' ys nx F' N' hD hn hC₀ hCL hCD hCx hS' hJ'
      exact hRR D C h tk m' ys nx F' N' hD hn hC₀ hCL hCD hCx (fun h' tk' F'' N'' => done D ys nx h' tk' hJ' hD F'' N'')
theorem c_eval {elt tgt iter : PySem.Expr} {ifs : List PySem.Expr} {gens : List Comprehension} {scope : Scope} {cl : List (PySem.Str × Addr)} {pos gp : Pos} {emit : Addr → Addr → Sem Unit} {Q : Value → Shared → Prop} (_F₀ : Fr h₀ L s.heap m)
    (ht : ∀ C D I, compTurn (.ListComp elt (⟨tgt, iter, ifs, 0⟩ :: gens) scope pos) 0 (.ref I) (.ref D) (compEnvC scope cl C env) = cTree (.ListComp elt (⟨tgt, iter, ifs, 0⟩ :: gens) scope pos) 0 (.ref I) (.ref D) (compEnvC scope cl C env) gp tgt ifs (emit C D))
    (hclos : closureFor scope env = pure cl) (hcell : ∀ y ∈ scope.names, y.2 ≠ .cell) (hkind : scope.kind = .function) (hnames : ∀ x ∈ scope.names, x.2 = .local → scope.names.lookup x.1 = some .local)
    (hs : ∀ x, foldedSetIterable iter env x = pure x)
    (h : wpAny (model prog w) A (eval iter env) (fun xv s₁ => Hold (CSrcL prog w A h₀ L m env tgt ifs scope cl emit (fun D _ _ s' => Q (.ref D) s') xv s₁ ∨ ((∃ x px, tgt = .Name x px) ∧ CSrcR prog w A h₀ L m env tgt ifs scope cl emit (fun D _ _ s' => Q (.ref D) s') xv s₁))) E s) :
    wpAny (model prog w) A (eval (.ListComp elt (⟨tgt, iter, ifs, 0⟩ :: gens) scope pos) env) Q E s := by
  rw [eval_ListComp]
  refine wpAny_comprehension_free (use := none) rfl hs hclos hkind hnames (wpAny_mono h (fun xv s₁ h₁ => ?_) fun _ _ e => e)
  refine c_src ht hcell hkind xv s₁ h₁ ?_
  intro D C h tk m' ys nx F' N' hD hn hC₀ hCL hCD hCx done
  refine ⟨m', hn, fun h' hs' => done h' tk (F'.change hs' hCL hC₀) fun p hp => ⟨hs'.extBut _ _ ?_ (N' p hp).1, (N' p hp).2⟩⟩
  rcases List.mem_cons.mp hp with rfl | hp
  · exact Ne.symm hCD
  · exact hCx p hp
theorem c_assign {elt tgt iter : PySem.Expr} {ifs : List PySem.Expr} {gens : List Comprehension} {scope : Scope} {cl : List (PySem.Str × Addr)} {pos gp spos py : Pos} {y : PySem.Str} {emit : Addr → Addr → Sem Unit} {Q : Flow → Shared → Prop} (_F₀ : Fr h₀ L s.heap m)
    (hL : env.locals = L)
    (hsw : swapsWith (.ListComp elt (⟨tgt, iter, ifs, 0⟩ :: gens) scope pos) (some (.Name y py)) spos.line env = pure true)
    (ht : ∀ C D I, compTurn (.ListComp elt (⟨tgt, iter, ifs, 0⟩ :: gens) scope pos) 0 (.ref I) (.ref D) (compEnvC scope cl C env) = cTree (.ListComp elt (⟨tgt, iter, ifs, 0⟩ :: gens) scope pos) 0 (.ref I) (.ref D) (compEnvC scope cl C env) gp tgt ifs (emit C D))
    (hclos : closureFor scope env = pure cl) (hcell : ∀ y ∈ scope.names, y.2 ≠ .cell) (hkind : scope.kind = .function) (hnames : ∀ x ∈ scope.names, x.2 = .local → scope.names.lookup x.1 = some .local)
    (hs : ∀ x, foldedSetIterable iter env x = pure x) (hy : env.kindOf y = some .local) (hp : (env.scope.kind == .class || (env.scope.kind == .module && env.locals != env.globals)) = false)
    (h : wpAny (model prog w) A (eval iter env) (fun xv s₁ => Hold (CSrcL prog w A h₀ L m env tgt ifs scope cl emit (fun D ys nx s' => ∀ h' tk', Fr h₀ L h' (fun z => if z = y then some (.ref D) else m z) → News h₀ L h' ((D, lsO ys) :: nx) → Q .next { s₁ with heap := h', toks := tk' }) xv s₁ ∨
      ((∃ x px, tgt = .Name x px) ∧ CSrcR prog w A h₀ L m env tgt ifs scope cl emit (fun D ys nx s' => ∀ h' tk', Fr h₀ L h' (fun z => if z = y then some (.ref D) else m z) → News h₀ L h' ((D, lsO ys) :: nx) → Q .next { s₁ with heap := h', toks := tk' }) xv s₁))) E s) :
    wpAny (model prog w) A (exec (.Assign [.Name y py] (.ListComp elt (⟨tgt, iter, ifs, 0⟩ :: gens) scope pos) spos) env) Q E s := by
  subst hL
  rw [exec_Assign_Name_used _ _ _ _ hsw]
  refine wpAny_bind (wpAny_standAt (wpAny_bind ?_))
  show wpAny _ A (do let _ ← comprehension (.ListComp elt (⟨tgt, iter, ifs, 0⟩ :: gens) scope pos) scope env _ (newList []) false (eval iter env) (some (assign (.Name y py) env))) _ _ s
  refine wpAny_bind (wpAny_mono (wpAny_comprehension_free (use := some (assign (.Name y py) env)) (Q := fun _ s' => Q .next s') rfl hs hclos hkind hnames
    (wpAny_mono h (fun xv s₁ h₁ => ?_) fun _ _ e => e)) (fun _ s' hq => wpAny_pure (wpAny_pure hq)) fun _ _ e => e)
  refine c_src ht hcell hkind xv s₁ h₁ ?_
  intro D C h tk m' ys nx F' N' hD hn hC₀ hCL hCD hCx done
  show wpAny _ A (assign (.Name y py) env (.ref D)) _ _ _
  refine wpAny_assign_Name (wpAny_storeName_local hy F'.ns (fun h₂ hn₂ hs₂ => ?_) hp)
  have hL₀ : h₀.get? env.locals = none := Heap.get?_none_of_le F'.above
  have F₂ : Fr h₀ env.locals h₂ (fun z => if z = y then some (.ref D) else m z) := ⟨hn₂, fun b o e => hs₂.extBut b o (fun q => by rw [q, hL₀] at e; cases e) (F'.keep b o e), F'.above⟩
  refine ⟨m', hn.sameBut hs₂ hCL, fun h'' hs'' => done h tk F' N' h'' _ (F₂.change hs'' hCL hC₀) (fun p hp => ?_)⟩
  have z : h₂.get? p.1 = some p.2 := hs₂.extBut _ _ (N' p hp).2.1 (N' p hp).1
  refine ⟨hs''.extBut _ _ ?_ z, (N' p hp).2⟩
  rcases List.mem_cons.mp hp with rfl | hp
  · exact Ne.symm hCD
  · exact hCx p hp
noncomputable def EEnd (h₀ : Heap) (L : Addr) (m : PySem.Str → Option Value) (s : Shared) (I : Addr) (oI : Obj) (C D : Addr) (M : (PySem.Str → Option Value) → Prop) (J : List Value → List (Addr × Obj) → Prop) (x : Value) (s' : Shared) : Prop :=
  ∃ h' tk news' nx oC m₂ ys, s' = { s with heap := h', toks := tk } ∧ Fr h₀ L h' m ∧ News h₀ L h' news' ∧ (I, oI) ∈ news' ∧ (C, oC) ∈ news' ∧ (NsObj oC m₂ ∧ M m₂) ∧ (D, lsO ys) ∈ news' ∧ (∀ p ∈ nx, p ∈ news' ∧ p.1 ≠ I ∧ p.1 ≠ C ∧ p.1 ≠ D) ∧ ys.length < sizeLine ∧ J (ys ++ [x]) nx
theorem emit_one {elt : PySem.Expr} {cenv : Env} {s₀ : Shared} {I C D : Addr} {oI : Obj} {M : (PySem.Str → Option Value) → Prop} {J : List Value → List (Addr × Obj) → Prop} (hne : I ≠ C ∧ I ≠ D ∧ C ≠ D)
    (h : wpAny (model prog w) A (eval elt cenv) (EEnd h₀ L m s₀ I oI C D M J) E s) : wpAny (model prog w) A (emit1 elt (.ref D) cenv) (fun _ s₅ => CEnd h₀ L m s₀ I oI C D M J s₅) E s := by
  unfold emit1
  refine wpAny_bind (wpAny_mono h (fun x s₄ h₄ => ?_) fun _ _ e => e)
  obtain ⟨h', tk, news', nx, oC, m₂, ys, rfl, F', N', hI, hC, hN, hD, ho, hz, hJ⟩ := h₄
  refine wpAny_bind (append_at (N' _ hD).1 (fun h₅ hs₅ hD₅ => wpAny_pure ?_) (by rw [List.size_toArray]; exact Nat.le_of_lt hz))
  have hDL : D ≠ L := (N' _ hD).2.1
  have hD₀ : h₀.get? D = none := (N' _ hD).2.2
  have up : ∀ p ∈ news', p.1 ≠ D → h₅.get? p.1 = some p.2 ∧ p.1 ≠ L ∧ h₀.get? p.1 = none := fun p hp hd => ⟨hs₅.extBut _ _ hd (N' p hp).1, (N' p hp).2⟩
  have e5 : lsO (ys ++ [x]) = { cls := .type "list", data := .seq (ys.toArray.push x) (ys.length + 1) } := by
    show ({ cls := .type "list", data := .seq (ys ++ [x]).toArray (ys ++ [x]).length } : Obj) = _
    rw [List.length_append, List.length_singleton, List.push_toArray]
  refine ⟨h₅, tk, (I, oI) :: (C, oC) :: (D, lsO (ys ++ [x])) :: nx, nx, oC, m₂, ys ++ [x], rfl, F'.change hs₅ hDL hD₀, ?_, .head _, .tail _ (.head _), hN, .tail _ (.tail _ (.head _)), fun p hp => ⟨.tail _ (.tail _ (.tail _ hp)), (ho p hp).2⟩, by rw [List.length_append, List.length_singleton]; exact hz, hJ⟩
  intro p hp
  rcases List.mem_cons.mp hp with rfl | hp
  · exact up _ hI hne.2.1
  rcases List.mem_cons.mp hp with rfl | hp
  · exact up _ hC hne.2.2
  rcases List.mem_cons.mp hp with rfl | hp
  · exact ⟨by rw [e5]; exact hD₅, hDL, hD₀⟩
  · exact up _ (ho p hp).1 (ho p hp).2.2.2
theorem casg1 {x : PySem.Str} {px : Pos} {v : Value} {scope : Scope} {cl : List (PySem.Str × Addr)} {I C D : Addr} {oI oC oD : Obj} {m₂ : PySem.Str → Option Value} {nx : List (Addr × Obj)} {Q : Unit → Shared → Prop} (F : Fr h₀ L s.heap m) (N : News h₀ L s.heap ((I, oI) :: (C, oC) :: (D, oD) :: nx)) (hN : NsObj oC m₂)
    (hne : I ≠ C ∧ I ≠ D ∧ C ≠ D) (off : ∀ p ∈ nx, p.1 ≠ I ∧ p.1 ≠ C ∧ p.1 ≠ D) (hx : scope.names.lookup x = some .local) (hkind : scope.kind = .function)
    (h : ∀ oC' mN h' tk', NsObj oC' mN → mN x = some v → (∀ z, z ≠ x → mN z = m₂ z) → Fr h₀ L h' m → News h₀ L h' ((I, oI) :: (C, oC') :: (D, oD) :: nx) → Q () { s with heap := h', toks := tk' }) :
    wpAny (model prog w) A (assign (.Name x px) (compEnvC scope cl C env) v) Q E s := by
  have hC := N (C, oC) (.tail _ (.head _))
  refine wpAny_assign_Name (wpAny_storeName_local (lookup_relabel_local hx) (hN.ns hC.1) (fun h₃ hn₃ hs₃ => ?_) (by simp [compEnvC, relabel, hkind]))
  obtain ⟨oC', heC, hoC⟩ := ns_obj hn₃
  refine h oC' _ h₃ _ hoC (if_pos rfl) (fun z hz => if_neg hz) (F.change hs₃ hC.2.1 hC.2.2) fun p hp => ?_
  have up : ∀ p ∈ (I, oI) :: (C, oC) :: (D, oD) :: nx, p.1 ≠ C → h₃.get? p.1 = some p.2 ∧ p.1 ≠ L ∧ h₀.get? p.1 = none := fun p hp hd => ⟨hs₃.extBut _ _ hd (N p hp).1, (N p hp).2⟩
  rcases List.mem_cons.mp hp with rfl | hp
  · exact up _ (.head _) hne.1
  rcases List.mem_cons.mp hp with rfl | hp
  · exact ⟨heC, hC.2⟩
  rcases List.mem_cons.mp hp with rfl | hp
  · exact up _ (.tail _ (.tail _ (.head _))) (Ne.symm hne.2.2)
  · exact up _ (.tail _ (.tail _ (.tail _ hp))) (off p hp).2.1
theorem casg2 {x y : PySem.Str} {px py tp : Pos} {k : Nat} {v₁ v₂ : Value} {t : Addr} {ot : Obj} {scope : Scope} {cl : List (PySem.Str × Addr)} {I C D : Addr} {oI oC oD : Obj} {m₂ : PySem.Str → Option Value} {nx : List (Addr × Obj)} {Q : Unit → Shared → Prop} (hh : A.handled = none) (F : Fr h₀ L s.heap m) (N : News h₀ L s.heap ((I, oI) :: (C, oC) :: (D, oD) :: nx)) (hN : NsObj oC m₂)
    (hne : I ≠ C ∧ I ≠ D ∧ C ≠ D) (off : ∀ p ∈ nx, p.1 ≠ I ∧ p.1 ≠ C ∧ p.1 ≠ D) (hx : scope.names.lookup x = some .local) (hy : scope.names.lookup y = some .local) (hkind : scope.kind = .function)
    (hm : (t, ot) ∈ nx) (hot : ∃ n, ot = { cls := .type "tuple", data := .seq #[v₁, v₂] n } ∨ ot = PySem.W.listOf #[v₁, v₂] n)
    (hxy : x ≠ y)
    (h : ∀ oC' mN h' tk', NsObj oC' mN → mN x = some v₁ → mN y = some v₂ → (∀ z, z ≠ x → z ≠ y → mN z = m₂ z) → Fr h₀ L h' m → News h₀ L h' ((I, oI) :: (C, oC') :: (D, oD) :: nx) → Q () { s with heap := h', toks := tk' }) :
    wpAny (model prog w) A (assign (.Tuple [.Name x px, .Name y py] k tp) (compEnvC scope cl C env) (.ref t)) Q E s := by
  have main : ∀ h₁, Fr h₀ L h₁ m → News h₀ L h₁ ((I, oI) :: (C, oC) :: (D, oD) :: nx) → wpAny (model prog w) A (assignInOrder ((assignEach [.Name x px, .Name y py] (compEnvC scope cl C env)).map (·.2)) [v₁, v₂]) Q E { s with heap := h₁ } := by
    intro h₁ F₁ N₁
    refine assignInOrder_cons (casg1 F₁ N₁ hN hne off hx hkind fun oC₁ m₁ h₂ tk₁ hN₂ e1 o1 F₂ N₂ => ?_)
    refine assignInOrder_cons (casg1 F₂ N₂ hN₂ hne off hy hkind fun oC₃ m₃ h₃ tk₃ hN₃ e2 o2 F₃ N₃ => ?_)
    exact assignInOrder_nil (h _ _ _ _ hN₃ ((o2 x hxy).trans e1) e2 (fun z h1 h2 => (o2 z h2).trans (o1 z h1)) F₃ N₃)
  have hot' := (N _ (.tail _ (.tail _ (.tail _ hm)))).1
  obtain ⟨n, rfl | rfl⟩ := hot
  · exact assign_Tuple_tuple (items := #[v₁, v₂]) hh ⟨_, hot', rfl, n, rfl⟩ rfl rfl fun h₁ he => main h₁ (F.extBut he (Nat.le_refl _)) (N.extBut he (Nat.le_refl _))
  · exact kun_list (items := #[v₁, v₂]) F N ⟨_, hot', rfl, n, rfl⟩ hh rfl rfl main
theorem srcL {env : Env} {tgt : PySem.Expr} {ifs : List PySem.Expr} {scope : Scope} {cl : List (PySem.Str × Addr)} {emit : Addr → Addr → Sem Unit} {Q : Addr → List Value → List (Addr × Obj) → Shared → Prop} {s₁ : Shared} {l : Addr} {vs : List Value} {nn : Nat} {news : List (Addr × Obj)} (J : Nat → List Value → List (Addr × Obj) → Prop)
    (hh : A.handled = none) (F : Fr h₀ L s₁.heap m) (N : News h₀ L s₁.heap news) (hl : (l, PySem.W.listOf vs.toArray nn) ∈ news) (hJ : J 0 [] news)
    (turn : ∀ i v ys nx I oI C oC D m₂ h tk (E' : Value → Shared → Prop), vs[i]? = some v → (∀ p ∈ news, p ∈ nx) → J i ys nx → ys.length ≤ sizeLine → (∀ p ∈ nx, p.1 ≠ I ∧ p.1 ≠ C ∧ p.1 ≠ D) → (I ≠ C ∧ I ≠ D ∧ C ≠ D) → Fr h₀ L h m → News h₀ L h ((I, oI) :: (C, oC) :: (D, lsO ys) :: nx) → NsObj oC m₂ →
      wpAny (model prog w) A (assign tgt (compEnvC scope cl C env) v) (fun _ s₃ => wpAny (model prog w) A (tests ifs (compEnvC scope cl C env)) (fun ok s₄ =>
        if ok = true then wpAny (model prog w) A (emit C D) (fun _ s₅ => CEnd h₀ L m s₁ I oI C D (fun _ => True) (fun ys nx => (∀ p ∈ news, p ∈ nx) ∧ J (i + 1) ys nx) s₅) E' s₄ else CEnd h₀ L m s₁ I oI C D (fun _ => True) (fun ys nx => (∀ p ∈ news, p ∈ nx) ∧ J (i + 1) ys nx) s₄) E' s₃) E' { s₁ with heap := h, toks := tk })
    (done : ∀ D ys nx h tk, J vs.length ys nx → (∀ p ∈ news, p ∈ nx) → (∀ p ∈ nx, p.1 ≠ D) → Fr h₀ L h m → News h₀ L h ((D, lsO ys) :: nx) → Q D ys nx { s₁ with heap := h, toks := tk }) :
    CSrcL prog w A h₀ L m env tgt ifs scope cl emit Q (.ref l) s₁ := by
  have up : ∀ i s₅ I oI C D, CEnd h₀ L m s₁ I oI C D (fun _ => True) (fun ys nx => (∀ p ∈ news, p ∈ nx) ∧ J (i + 1) ys nx) s₅ → CEnd h₀ L m s₁ I oI C D (fun _ => True) (fun ys nx => (l, PySem.W.listOf vs.toArray nn) ∈ nx ∧ (∀ p ∈ news, p ∈ nx) ∧ J (i + 1) ys nx) s₅ := by
    rintro i s₅ I oI C D ⟨h', tk, news', nx, oC, m₂, ys, e, F', N', h1, h2, h3, h4, h5, h6, h7, h8⟩
    exact ⟨h', tk, news', nx, oC, m₂, ys, e, F', N', h1, h2, h3, h4, h5, h6, h7 _ hl, h7, h8⟩
  refine ⟨l, vs, nn, news, fun i ys nx => (∀ p ∈ news, p ∈ nx) ∧ J i ys nx, rfl, hh, F, N, hl, ⟨fun _ h => h, hJ⟩, ?_, ?_⟩
  · intro i v ys nx I oI C oC D m₂ h tk E' hv hJ' _ hz off hne F₁ N₁ hN₁
    refine wpAny_mono (turn i v ys nx I oI C oC D m₂ h tk E' hv hJ'.1 hJ'.2 hz off hne F₁ N₁ hN₁) (fun _ s₃ h₃ => wpAny_mono h₃ (fun ok s₄ h₄ => ?_) fun _ _ x => x) fun _ _ x => x
    cases ok with
    | false => exact up _ _ _ _ _ _ h₄
    | true => exact wpAny_mono h₄ (fun _ s₅ h₅ => up _ _ _ _ _ _ h₅) fun _ _ x => x
  · intro D ys nx h tk hJ' _ hD F' N'
    exact done D ys nx h tk hJ'.2 hJ'.1 hD F' N'
theorem elt_end {s₀ : Shared} {I C D : Addr} {oI oC : Obj} {M : (PySem.Str → Option Value) → Prop} {J : List Value → List (Addr × Obj) → Prop} {x : Value} {nx : List (Addr × Obj)} {ys : List Value} {m₂ : PySem.Str → Option Value} {h' : Heap} {tk : Nat} (F : Fr h₀ L h' m) (N : News h₀ L h' ((I, oI) :: (C, oC) :: (D, lsO ys) :: nx)) (off : ∀ p ∈ nx, p.1 ≠ I ∧ p.1 ≠ C ∧ p.1 ≠ D) (hC : NsObj oC m₂) (hM : M m₂) (hz : ys.length ≤ 1000) (hJ : J (ys ++ [x]) nx) : EEnd h₀ L m s₀ I oI C D M J x { s₀ with heap := h', toks := tk } :=
  ⟨h', tk, _, nx, oC, m₂, ys, rfl, F, N, .head _, .tail _ (.head _), ⟨hC, hM⟩, .tail _ (.tail _ (.head _)), fun p hp => ⟨.tail _ (.tail _ (.tail _ hp)), off p hp⟩, by rw [sizeLine_eq]; omega, hJ⟩
theorem no_end {s₀ : Shared} {I C D : Addr} {oI oC : Obj} {M : (PySem.Str → Option Value) → Prop} {J : List Value → List (Addr × Obj) → Prop} {nx : List (Addr × Obj)} {ys : List Value} {m₂ : PySem.Str → Option Value} {h' : Heap} {tk : Nat} (F : Fr h₀ L h' m) (N : News h₀ L h' ((I, oI) :: (C, oC) :: (D, lsO ys) :: nx)) (off : ∀ p ∈ nx, p.1 ≠ I ∧ p.1 ≠ C ∧ p.1 ≠ D) (hC : NsObj oC m₂) (hM : M m₂) (hz : ys.length ≤ sizeLine) (hJ : J ys nx) : CEnd h₀ L m s₀ I oI C D M J { s₀ with heap := h', toks := tk } :=
  ⟨h', tk, _, nx, oC, m₂, ys, rfl, F, N, .head _, .tail _ (.head _), ⟨hC, hM⟩, .tail _ (.tail _ (.head _)), fun p hp => ⟨.tail _ (.tail _ (.tail _ hp)), off p hp⟩, hz, hJ⟩
end
end Mine
namespace Mine
section
variable {prog : Program} {w : World} {A : Around} {E : Value → Shared → Prop} {s : Shared}
theorem setItem_whole {l sl D : Addr} {its new : Array Value} {n nD : Nat} {Q : Unit → Shared → Prop} (hl : s.heap.get? l = some (PySem.W.listOf its n)) (hD : s.heap.get? D = some (PySem.W.listOf new nD))
    (hs : s.heap.get? sl = some { cls := .type "slice", data := .fields #[.none, .none, .none] }) (hne : l ≠ D) (hz : its.size ≤ 1000) (hz' : new.size ≤ 1000)
    (h : ∀ h' n', Heap.SameBut l s.heap h' → h'.get? l = some (PySem.W.listOf new n') → Q () { s with heap := h' }) :
    wpAny (model prog w) A (setItem (.ref l) (.ref sl) (.ref D)) Q E s := by
  have hsl : sizeLine = 16777216 := by rw [sizeLine_eq]
  have hTl : s.TypeIs (.ref l) "list" := ⟨_, hl, rfl⟩
  have hTs : s.TypeIs (.ref sl) "slice" := ⟨_, hs, rfl⟩
  have hTD : s.TypeIs (.ref D) "list" := ⟨_, hD, rfl⟩
  unfold setItem
  try with_reducible refine wpAny_holding ?_
  first | refine wpAny_bind (wpAny_pure ?_) | skip
  refine wpAny_bind (wpAny_sequenceKey hTl (by decide) ?_)
  refine wpAny_bind (wpAny_callSpecial?_slot (name := PySem.Str.ofString "__setitem__") hTl PySem.slot_list_setitem
    (wpAny_call_entry PySem.slot_list_setitem hTl PySem.entry_list_setitem ?_ (PySem.args_list_setitem _ _ _)))
  show wpAny _ _ (Builtin.List.listSubscript? (.ref sl) >>= _) _ _ s
  refine wpAny_bind ?_
  unfold Builtin.List.listSubscript?
  refine wpAny_bind (wpAny_specialOf hTs slice_no_index ?_)
  simp only [Option.isNone_none, if_true]
  refine wpAny_pure ?_
  show wpAny _ _ (typeOf (.ref sl) >>= _) _ _ s
  refine wpAny_bind (wpAny_typeOf hTs ?_)
  rw [if_neg (by decide)]
  rw [listSliceParts_eq]
  refine wpAny_bind (wpAny_bind (wpAny_field hs rfl (x := .none) rfl (wpAny_bind (wpAny_listPart .none ?_))))
  rw [if_neg (by decide)]
  refine wpAny_bind (wpAny_field hs rfl (x := .none) rfl (wpAny_bind (wpAny_listPart .none ?_)))
  refine wpAny_bind (wpAny_field hs rfl (x := .none) rfl (wpAny_bind (wpAny_listPart .none (wpAny_pure ?_))))
  have e1 : Builtin.List.listSameRef (.ref l) (.ref D) = false := by
    show (l == D) = false
    exact beq_false_of_ne hne
  rw [if_neg (by rw [e1]; exact Bool.false_ne_true)]
  refine wpAny_bind ?_
  unfold Builtin.List.listAllItems
  refine wpAny_bind (wpAny_typeOf hTD ?_)
  rw [if_pos (by decide)]
  unfold Builtin.List.listItems
  refine wpAny_bind (wpAny_seqItems hD rfl ?_)
  refine wpAny_pure ?_
  refine wpAny_bind ?_
  refine wpAny_bind (wpAny_seqItems hl rfl (wpAny_pure ?_))
  refine wpAny_bind (wpAny_of_eq (sliceIndices_raw none none none its.size (by simp)) ?_)
  show wpAny _ _ (if ((1 : Int) == 1) = true then _ else _) _ _ s
  rw [if_pos (by decide)]
  refine wpAny_bind (wpAny_rule ?_)
  have e2 : Builtin.List.listTooLong (its.size + new.size) = false := by
    unfold Builtin.List.listTooLong
    simp
    omega
  rw [if_neg (by rw [e2]; exact Bool.false_ne_true)]
  have e3 : (its.extract 0 (Int.toNat 0) ++ new ++ its.extract (Int.toNat (max (0 : Int) its.size)) its.size) = new := by
    have : max (0 : Int) (its.size : Int) = its.size := by omega
    rw [this]
    simp
  refine wpAny_bind (m := updateSeq l _) (wpAny_updateSeq hl rfl ?_ (by omega) ?_)
  · refine wpAny_bind (wpAny_letGo (wpAny_pure ⟨.none, rfl, wpAny_pure ?_⟩))
    have e4 : ∃ n', (Obj.mapSeq (fun xs : Array Value => xs.extract 0 (sliceBounds none none none its.size).1.toNat ++ new ++ xs.extract (max (sliceBounds none none none its.size).1 (sliceBounds none none none its.size).2.1).toNat xs.size) (PySem.W.listOf its n)) = PySem.W.listOf new n' := by
      show ∃ n', ({ cls := .type "list", data := .seq (its.extract 0 (Int.toNat 0) ++ new ++ its.extract (Int.toNat (max (0 : Int) its.size)) its.size) _ } : Obj) = _
      rw [e3]
      exact ⟨_, rfl⟩
    obtain ⟨n', e5⟩ := e4
    refine h _ n' (Heap.SameBut.update ..) ?_
    rw [Heap.get?_update_self _ hl (by rw [e5]; rfl), e5]
  · show (its.extract 0 (Int.toNat 0) ++ new ++ its.extract (Int.toNat (max (0 : Int) its.size)) its.size).size ≤ _
    rw [e3]
    omega
section
variable {h₀ : Heap} {L : Addr} {m : PySem.Str → Option Value} {news : List (Addr × Obj)}
theorem setItem_wholeN {l sl D : Addr} {its new : Array Value} {n nD : Nat} {Q : Unit → Shared → Prop} (F : Fr h₀ L s.heap m) (N : News h₀ L s.heap news) (hl : (l, PySem.W.listOf its n) ∈ news) (hD : (D, PySem.W.listOf new nD) ∈ news)
    (hs : (sl, ({ cls := .type "slice", data := .fields #[.none, .none, .none] } : Obj)) ∈ news) (hne : l ≠ D) (hz : its.size ≤ 1000) (hz' : new.size ≤ 1000)
    (h : ∀ h' n', Fr h₀ L h' m → (∀ nx, (∀ p ∈ nx, p ∈ news ∧ p.1 ≠ l) → News h₀ L h' ((l, PySem.W.listOf new n') :: nx)) → Q () { s with heap := h' }) :
    wpAny (model prog w) A (setItem (.ref l) (.ref sl) (.ref D)) Q E s := by
  have zl := N _ hl
  refine setItem_whole zl.1 (N _ hD).1 (N _ hs).1 hne hz hz' fun h' n' hs' hg => h h' n' (F.change hs' zl.2.1 zl.2.2) fun nx hx p hp => ?_
  rcases List.mem_cons.mp hp with rfl | hp
  · exact ⟨hg, zl.2⟩
  · obtain ⟨h1, h2⟩ := hx p hp
    exact ⟨hs'.extBut _ _ h2 (N p h1).1, (N p h1).2⟩
end
end
end Mine
namespace Mine
structure HT (news : List (Addr × Obj)) (t d l : Addr) (rows : List (PySem.Str × PySem.Str)) : Prop where
  ti : (t, instObj 242 d) ∈ news
  di : ∃ hs tk n, (d, dictOf [⟨hs, .str (PySem.Str.ofString "_headers") tk, .ref l⟩] n) ∈ news
  li : ∃ vs ep, (l, PySem.W.listOf (List.toArray vs) ep) ∈ news ∧ A2 (RowAt news) vs rows
theorem HT.mono {news news' : List (Addr × Obj)} {t d l : Addr} {rows : List (PySem.Str × PySem.Str)} (h : HT news t d l rows) (hs : ∀ p ∈ news, p ∈ news') : HT news' t d l rows :=
  ⟨hs _ h.ti, let ⟨a, b, c, e⟩ := h.di; ⟨a, b, c, hs _ e⟩, let ⟨vs, ep, e, r⟩ := h.li; ⟨vs, ep, hs _ e, r.mono fun _ _ x => x.mono hs⟩⟩
noncomputable def Ups (l : Addr) (news news' : List (Addr × Obj)) : Prop := ∀ p ∈ news, p.1 ≠ l → p ∈ news'
noncomputable def less (l : Addr) (news : List (Addr × Obj)) : List (Addr × Obj) := news.filter fun p => p.1 != l
theorem mem_less {l : Addr} {news : List (Addr × Obj)} {p : Addr × Obj} : p ∈ less l news ↔ p ∈ news ∧ p.1 ≠ l := by
  unfold less
  rw [List.mem_filter]
  simp
theorem ne_cls {h₀ h : Heap} {L a b : Addr} {oa ob : Obj} {news : List (Addr × Obj)} (N : News h₀ L h news) (ha : (a, oa) ∈ news) (hb : (b, ob) ∈ news) (hc : oa.cls ≠ ob.cls) : a ≠ b := by
  rintro rfl
  have h1 := (N _ ha).1
  have h2 := (N _ hb).1
  rw [h1] at h2
  exact hc (congrArg Obj.cls (Option.some.inj h2))
theorem RowAt.less {h₀ h : Heap} {L l : Addr} {ol : Obj} {news : List (Addr × Obj)} (N : News h₀ L h news) (hl : (l, ol) ∈ news) (hc : ol.cls = .type "list") {v : Value} {r : PySem.Str × PySem.Str} (x : RowAt news v r) : RowAt (less l news) v r := by
  obtain ⟨a, n, tk, tx, e, hm⟩ := x
  exact ⟨a, n, tk, tx, e, mem_less.mpr ⟨hm, ne_cls N hm hl (by rw [hc]; show Value.type "tuple" ≠ Value.type "list"; decide)⟩⟩
theorem HT.put {h₀ h : Heap} {L t d l : Addr} {n' : Nat} {news nx : List (Addr × Obj)} {rows rows' : List (PySem.Str × PySem.Str)} {ys : List Value} (N : News h₀ L h nx) (hT : HT news t d l rows) (hsub : ∀ p ∈ news, p ∈ nx) (hr : A2 (RowAt nx) ys rows') :
    HT ((l, PySem.W.listOf (List.toArray ys) n') :: less l nx) t d l rows' ∧ Ups l news ((l, PySem.W.listOf (List.toArray ys) n') :: less l nx) := by
  obtain ⟨ht, ⟨hs, tk, n, hd⟩, vs, ep, hl, _⟩ := hT
  refine ⟨⟨.tail _ (mem_less.mpr ⟨hsub _ ht, ne_cls N (hsub _ ht) (hsub _ hl) ?_⟩), ⟨hs, tk, n, .tail _ (mem_less.mpr ⟨hsub _ hd, ne_cls N (hsub _ hd) (hsub _ hl) ?_⟩)⟩, ys, n', .head _, hr.mono fun _ _ x => (x.less N (hsub _ hl) rfl).mono fun _ hp => .tail _ hp⟩, fun p hp hne => .tail _ (mem_less.mpr ⟨hsub _ hp, hne⟩)⟩
  · show Value.ref 242 ≠ Value.type "list"
    intro e; cases e
  · show Value.type "dict" ≠ Value.type "list"
    decide
theorem allNe {l : List (Addr × Obj)} {a b : Addr} (h : ∀ p ∈ l, p.1 < a) (hab : @LE.le Nat _ a b) : ∀ p ∈ l, p.1 ≠ b := fun p hp => Nat.ne_of_lt (Nat.lt_of_lt_of_le (h p hp) hab)
end Mine
namespace Mine
theorem ne_ct {st : List PySem.Str} {z x : PySem.Str} (h : st.contains z = false) (hm : st.contains x = true) : z ≠ x := by
  rintro rfl
  rw [hm] at h
  cases h
theorem tests0 {prog : Program} {w : World} {A : Around} {E : Value → Shared → Prop} {s : Shared} {cenv : Env} {Q : Bool → Shared → Prop} (h : Q true s) : wpAny (model prog w) A (tests [] cenv) Q E s := wpAny_tests_nil h
theorem tests1 {prog : Program} {w : World} {A : Around} {E : Value → Shared → Prop} {s : Shared} {cenv : Env} {c : PySem.Expr} {Q : Bool → Shared → Prop} (h : wpAny (model prog w) A (isTrue c cenv (eval c cenv)) Q E s) : wpAny (model prog w) A (tests [c] cenv) Q E s := wpAny_tests_one h
theorem take_one {α : Type} {l : List α} {i : Nat} {a : α} (h : l[i]? = some a) : l.take (i + 1) = l.take i ++ [a] := by
  rw [List.take_add_one, h]; rfl
section
variable {prog : Program} {w : World} {A : Around} {E : Value → Shared → Prop} {s : Shared} {h₀ : Heap} {L : Addr} {m : PySem.Str → Option Value}
theorem appendN {led : List (Addr × Obj)} {l : Addr} {vs : List Value} {ep : Nat} {x : Value} {Q : Value → Shared → Prop} (F : Fr h₀ L s.heap m) (N : News h₀ L s.heap led) (hl : (l, PySem.W.listOf (List.toArray vs) ep) ∈ led) (hz : vs.length ≤ 1000)
    (h : ∀ h', Fr h₀ L h' m → (∀ nx, (∀ p ∈ nx, p ∈ led ∧ p.1 ≠ l) → News h₀ L h' ((l, PySem.W.listOf (List.toArray (vs ++ [x])) (ep + 1)) :: nx)) → Q .none { s with heap := h' }) :
    wpAny (model prog w) A (call (.builtin "list.append") [.ref l, x]) Q E s := by
  have zl := N _ hl
  refine append_at zl.1 (fun h' hs hg => h h' (F.change hs zl.2.1 zl.2.2) fun nx hx p hp => ?_) (by rw [List.size_toArray, sizeLine_eq]; omega)
  rcases List.mem_cons.mp hp with rfl | hp
  · refine ⟨?_, zl.2⟩
    rw [hg]
    show some _ = some ({ cls := .type "list", data := .seq (List.toArray (vs ++ [x])) (ep + 1) } : Obj)
    rw [List.push_toArray]
  · obtain ⟨h1, h2⟩ := hx p hp
    exact ⟨hs.extBut _ _ h2 (N p h1).1, (N p h1).2⟩
theorem lenN {led : List (Addr × Obj)} {l : Addr} {vs : List Value} {ep : Nat} {Q : Value → Shared → Prop} (N : News h₀ L s.heap led) (hl : (l, PySem.W.listOf (List.toArray vs) ep) ∈ led) (hz : vs.length ≤ 1000)
    (h : Q (.int (vs.length : Int) (s.toks + 1)) { s with toks := s.toks + 1 + 1 }) : wpAny (model prog w) A (call (.builtin "len") [.ref l]) Q E s :=
  kun_lenL (items := List.toArray vs) ⟨_, (N _ hl).1, rfl, ep, rfl⟩ (by simp) (by omega) h
end
section
variable {M : Model} {A : Around} {E : Value → Shared → Prop} {s : Shared} {K : Frag} {x C L f : Addr} {h₀ : Heap} {m : PySem.Str → Option Value} {ox : Obj} {od : Option Obj} {i v : Value}
theorem own_delItem {Q : Unit → Shared → Prop} (F : Fr h₀ L s.heap m) (X₀ : K.In h₀) (I : InstAt s.heap x ox C od) (hq : noSeq K C = true) (hs : findIn K (.ref C) (PySem.Str.ofString "__delitem__") = some (some (.ref f))) (hf : isFn K (.ref f) = true)
    (h : wpAny M A (call (.ref f) [.ref x, i]) (fun _ s' => Q () s') E s) : wpAny M A (delItem (.ref x) i) Q E s := by
  have X := X₀.keeps F.keep
  unfold delItem sequenceKey
  refine wpAny_holding (wpAny_bind (wpAny_bind (I.type.here ?_)))
  refine wpAny_bind ((anyM_none X hq).here ?_)
  rw [if_pos (show (!false) = true from rfl)]
  exact wpAny_pure (wpAny_bind (special_fn X I hs (beq_iff_eq.mp hf) (wpAny_mono h (fun _ _ z => wpAny_pure z) fun _ _ z => z)))
end
section
variable {prog : Program} {w : World} {A : Around} {E : Value → Shared → Prop} {s : Shared} {h₀ : Heap} {L : Addr} {m : PySem.Str → Option Value}
theorem sliceAllN {led : List (Addr × Obj)} {l : Addr} {vs : List Value} {ep : Nat} {value slice : PySem.Expr} {Q : Value → Shared → Prop} (F : Fr h₀ L s.heap m) (N : News h₀ L s.heap led) (hl : (l, PySem.W.listOf (List.toArray vs) ep) ∈ led) (hz : vs.length ≤ 1000)
    (h : ∀ D h', Fr h₀ L h' m → News h₀ L h' ((D, PySem.W.listOf (List.toArray vs) 0) :: led) → (∀ p ∈ led, p.1 < D) → Q (.ref D) { s with heap := h' })
    (hs : subscripted slice false (.ref l) (.ref s.heap.objs.size) = operate [.ref s.heap.objs.size, .ref l] (getItem (.ref l) (.ref s.heap.objs.size))) (ht : ∀ r, letTemporaryGo value (.ref l) r = pure ()) :
    wpAny (model prog w) A (subscriptTail value slice (.ref l) (.ref s.heap.objs.size)) Q E { s with heap := s.heap.push { cls := .type "slice", data := .fields #[.none, .none, .none] } } :=
  kmk_slice_lit (its := List.toArray vs) (zs := vs) F N ⟨_, (N _ hl).1, rfl, ep, rfl⟩ .none .none (by rw [slicePick_all]) h hs ht (by rw [List.size_toArray, sizeLine_eq]; omega)
end
section
variable {prog : Program} {w : World} {A : Around} {E : Value → Shared → Prop} {s : Shared} {h₀ : Heap} {L : Addr} {m : PySem.Str → Option Value}
end
section
variable {prog : Program} {w : World} {A : Around} {E : Value → Shared → Prop} {s : Shared} {h₀ : Heap} {L : Addr} {m : PySem.Str → Option Value}
theorem itemAny {value slice : PySem.Expr} {l : Addr} {items : Array Value} {k : Int} {u : Tok} {x : Value} {Q : Value → Shared → Prop} (hl : s.heap.IsList l items) (h0 : 0 ≤ k) (hfit : k < 2 ^ 63) (hx : items[k.toNat]? = some x) (h : Q x s)
    (hs : subscripted slice false (.ref l) (.int k u) = operate [.ref l, .int k u] (getItem (.ref l) (.int k u)) := by with_unfolding_all rfl) :
    wpAny (model prog w) A (subscriptTail value slice (.ref l) (.int k u)) Q E s :=
  tail_any hl.typeIs slot_list_getitem.lookup (wpAny_getItem_list hl h0 hfit hx h) hs
theorem itemI {value slice : PySem.Expr} {l : Addr} {vs : List Value} {ns : List Int} {k : Int} {u : Tok} {Q : Value → Shared → Prop} (hl : s.heap.IsList l (List.toArray vs)) (hi : IntsAre vs ns) (h0 : 0 ≤ k) (h1 : k < ns.length) (hfit : k < 2 ^ 63) (h : ∀ t, Q (.int (ns.getD k.toNat 0) t) s)
    (hs : subscripted slice false (.ref l) (.int k u) = operate [.ref l, .int k u] (getItem (.ref l) (.int k u)) := by with_unfolding_all rfl) :
    wpAny (model prog w) A (subscriptTail value slice (.ref l) (.int k u)) Q E s := by
  obtain ⟨t, hx⟩ := hi.get k.toNat _ (ints_getD h0 h1)
  exact itemAny hl h0 hfit (by simpa using hx) (h t) hs
end
section
variable {prog : Program} {w : World} {A : Around} {E : Value → Shared → Prop} {s : Shared} {h₀ : Heap} {L : Addr} {m : PySem.Str → Option Value}
theorem setN {led : List (Addr × Obj)} {l : Addr} {vs : List Value} {ep : Nat} {k : Nat} {t : Tok} {v : Value} {Q : Unit → Shared → Prop} (F : Fr h₀ L s.heap m) (N : News h₀ L s.heap led) (hl : (l, PySem.W.listOf (List.toArray vs) ep) ∈ led) (hk : k < vs.length) (hz : vs.length ≤ 1000)
    (h : ∀ h' n', Fr h₀ L h' m → (∀ nx, (∀ p ∈ nx, p ∈ led ∧ p.1 ≠ l) → News h₀ L h' ((l, PySem.W.listOf (List.toArray (vs.set k v)) n') :: nx)) → Q () { s with heap := h' }) :
    wpAny (model prog w) A (setItem (.ref l) (.int (k : Int) t) v) Q E s := by
  have zl := N _ hl
  have q := PySem.IsL.update (n := ep) (items := List.toArray vs) zl.1 (·.setIfInBounds k v)
  have e1 : (List.toArray vs).setIfInBounds k v = List.toArray (vs.set k v) := by
    apply Array.toList_inj.mp
    simp
  dsimp only at q
  rw [e1] at q
  refine ki_setAt (items := List.toArray vs) zl.1 (by omega) (by omega) (by simp; omega) ?_
  have NN : ∀ nx : List (Addr × Obj), (∀ p ∈ nx, p ∈ led ∧ p.1 ≠ l) → News h₀ L (s.heap.update l (Obj.mapSeq fun x => x.setIfInBounds k v)) ((l, PySem.W.listOf (List.toArray (vs.set k v)) (if ((List.toArray (vs.set k v)).size == (List.toArray vs).size) = true then ep else ep + 1)) :: nx) := by
    intro nx hx p hp
    rcases List.mem_cons.mp hp with rfl | hp
    · exact ⟨q, zl.2⟩
    · obtain ⟨h1, h2⟩ := hx p hp
      exact ⟨(Heap.SameBut.update ..).extBut _ _ h2 (N p h1).1, (N p h1).2⟩
  exact h _ _ (F.change (Heap.SameBut.update ..) zl.2.1 zl.2.2) NN
end
end Mine
namespace Mine
section
variable {prog : Program} {w : World} {A : Around} {E : Value → Shared → Prop} {s : Shared} {env : Env} {h₀ : Heap} {target : PySem.Expr} {body : List Stmt} {Q : Flow → Shared → Prop}
theorem r_iter {r : Addr} {a b c : Int} {t u v : Tok} {n : Nat} {m₀ : PySem.Str → Option Value} {news : List (Addr × Obj)} (J : Nat → (PySem.Str → Option Value) → List (Addr × Obj) → Prop)
    (hh : A.handled = none) (hr : IsRange s.heap r a b c t u v) (hsm : Builtin.Range.small a b c = true) (hn : Builtin.Range.rangeSize a b c = ((n : Nat) : Int)) (F : Fr h₀ env.locals s.heap m₀) (N : News h₀ env.locals s.heap news) (hj : J 0 m₀ news)
    (turn : ∀ i tk₀ m₁ nx I it h tk, i < n → J i m₁ nx → it.cls = .type "range_iterator" → (∀ p ∈ nx, p.1 ≠ I) → Fr h₀ env.locals h m₁ → News h₀ env.locals h ((I, it) :: nx) →
      wpAny (model prog w) A (assign target env (.int (a + (i : Int) * c) tk₀)) (fun _ s₃ => wpAny (model prog w) A (execs body env)
        (MPost h₀ env.locals (I, it) (fun m' nx' => J (i + 1) m' nx') s Q) E s₃) E { s with heap := h, toks := tk })
    (done : ∀ m₁ nx h tk, J n m₁ nx → Fr h₀ env.locals h m₁ → News h₀ env.locals h nx → Q .next { s with heap := h, toks := tk })
    (hgo : ∀ i (v : Value) (s : Shared) (Q : Unit → Shared → Prop) (E : Value → Shared → Prop), Q () s → wpAny (model prog w) A (letOwnedTupleGo target i v) Q E s) :
    wpAny (model prog w) A (pyIter (.ref r)) (fun it s₂ => TurnsAt prog w A h₀ env target body Q E it s₂) E s := by
  refine wpAny_pyIter_range hr hsm ?_
  have W := range_w (prog := prog) (w := w) (I := s.heap.objs.size) hh a c n
  have T := KTurns.ofWalks (target := target) W (fun i v s Q E st q => hgo _ v s Q E q)
  refine ⟨_, _, _, n, _, _, _, m₀, news, J, rfl, T, ?_, ?_, ?_, ?_, F.push _,
    (fun p hp => ⟨Heap.get?_push_of_some _ (N p hp).1, (N p hp).2⟩), hj, ?_, ?_⟩
  · intro hm
    exact absurd F.ns.lt ((List.mem_singleton.mp hm) ▸ Nat.lt_irrefl _)
  · intro b hb
    rw [List.mem_singleton.mp hb]
    exact next_is_new F
  · intro p hp hI
    exact absurd (Heap.lt_size (N p hp).1) ((List.mem_singleton.mp hI) ▸ Nat.lt_irrefl _)
  · show IsRangeIter _ _ _ _ _
    rw [hn]
    simpa using Heap.get?_push_size _ rfl
  · rintro i v m₁ news₁ h tk own hin hP hJ hoff hown hget hfp hst F₁ N₁
    obtain ⟨tk₀, rfl⟩ := hP
    have hI0 : h₀.get? s.heap.objs.size = none := next_is_new F
    obtain ⟨oI, hst', hcI⟩ : ∃ oI, h.get? s.heap.objs.size = some oI ∧ oI.cls = .type "range_iterator" := ⟨_, hst, rfl⟩
    have hIown := hfp _ (List.mem_cons.mpr (.inl rfl)) hI0 _ hst'
    have hnI : ∀ p ∈ news₁, p.1 ≠ s.heap.objs.size := fun p hp e => hoff p hp (List.mem_singleton.mpr e)
    have N₂ : News h₀ env.locals h ((s.heap.objs.size, oI) :: news₁) := fun p hp => by
      rcases List.mem_cons.mp hp with rfl | hp
      · exact N₁ _ (List.mem_append.mpr (.inl hIown))
      · exact N₁ _ (List.mem_append.mpr (.inr hp))
    refine wpAny_mono (turn i tk₀ m₁ news₁ _ oI h tk hin hJ hcI hnI F₁ N₂) (fun _ s₃ p => wpAny_mono p (fun f s₂ q => ?_) fun _ _ x => x) fun _ _ x => x
    have fin : MEnd h₀ env.locals (s.heap.objs.size, oI) (fun m' nx' => J (i + 1) m' nx') s s₂ →
        LoopStepU h₀ env.locals [s.heap.objs.size] own (fun m nx => J (i + 1) m nx) { s with heap := h, toks := tk } .next s₂ := by
      rintro ⟨h', tk', m', news', nx, e, F', N', hpi, hn, hm⟩
      have hI' := (N' _ hpi).1
      refine ⟨rfl, h', tk', m', nx, e, F', fun p hp => ?_, fun p hp hq => ?_, hm⟩
      · rcases List.mem_append.mp hp with hp | hp
        · have h2 : h.get? p.1 = some p.2 := hget p hp
          have h1 := List.mem_singleton.mp (hown p hp)
          rw [h1, hst'] at h2
          have h3 : p = (s.heap.objs.size, oI) := Prod.ext h1 (Option.some.inj h2).symm
          rw [h3]
          exact N' _ hpi
        · exact N' p (hn p hp).1
      · have h1 := List.mem_singleton.mp hq
        obtain ⟨h2, h3⟩ := hn p hp
        have h4 := (N' p h2).1
        rw [h1, hI'] at h4
        rcases h3 with h3 | h3
        · exact h3 h1
        · exact h3 (by rw [← Option.some.inj h4])
    cases f with
    | ret v => exact q
    | brk => exact q
    | next => exact .next (fin q)
    | cont => exact .cont (fin q)
  · rintro h' tk m' news' F' N' _ hJ
    exact done m' news' h' tk hJ F' N'
noncomputable def RJ {σ : Type} (ps : σ → List (PySem.Str × Value)) (st : List PySem.Str) (m₀ : PySem.Str → Option Value) (P : σ → List (Addr × Obj) → Prop) (m' : PySem.Str → Option Value) (nx : List (Addr × Obj)) : Prop :=
  ∃ c, FI (ps c) st m₀ m' ∧ P c nx
theorem r_loop {σ : Type} {r : Addr} {a b c : Int} {t u v : Tok} {n : Nat} {m₀ : PySem.Str → Option Value} {news : List (Addr × Obj)} (ps : σ → List (PySem.Str × Value)) (st : List PySem.Str) (P : Nat → σ → List (Addr × Obj) → Prop) (c₀ : σ)
    (hh : A.handled = none) (hr : IsRange s.heap r a b c t u v) (hsm : Builtin.Range.small a b c = true) (hn : Builtin.Range.rangeSize a b c = ((n : Nat) : Int)) (F : Fr h₀ env.locals s.heap m₀) (N : News h₀ env.locals s.heap news) (hk : ∀ p ∈ ps c₀, m₀ p.1 = some p.2) (hj : P 0 c₀ news)
    (turn : ∀ i tk₀ d (w₁ : PySem.Str → Option Value) nx I it h tk, i < n → P i d nx → it.cls = .type "range_iterator" → (∀ p ∈ nx, p.1 ≠ I) →
      Fr h₀ env.locals h (kstB (fun z => if st.contains z then w₁ z else m₀ z) (ps d)) → News h₀ env.locals h ((I, it) :: nx) →
      wpAny (model prog w) A (assign target env (.int (a + (i : Int) * c) tk₀)) (fun _ s₃ => wpAny (model prog w) A (execs body env)
        (MPost h₀ env.locals (I, it) (RJ ps st m₀ (P (i + 1))) s Q) E s₃) E { s with heap := h, toks := tk })
    (done : ∀ d (w₁ : PySem.Str → Option Value) nx h tk, P n d nx → Fr h₀ env.locals h (kstB (fun z => if st.contains z then w₁ z else m₀ z) (ps d)) → News h₀ env.locals h nx → Q .next { s with heap := h, toks := tk })
    (hgo : ∀ i (v : Value) (s : Shared) (Q : Unit → Shared → Prop) (E : Value → Shared → Prop), Q () s → wpAny (model prog w) A (letOwnedTupleGo target i v) Q E s) :
    wpAny (model prog w) A (pyIter (.ref r)) (fun it s₂ => TurnsAt prog w A h₀ env target body Q E it s₂) E s := by
  refine r_iter (fun i m nx => ∃ d, FI (ps d) st m₀ m ∧ P i d nx) hh hr hsm hn F N ⟨c₀, ⟨hk, fun _ _ _ => rfl⟩, hj⟩ ?_ ?_ hgo
  · rintro i tk₀ m₁ nx I it h tk hi ⟨d, hf, hp⟩ hc hI F₁ N₁
    exact turn i tk₀ d m₁ nx I it h tk hi hp hc hI (ksw_fr hf.1 hf.2 F₁) N₁
  · rintro m₁ nx h tk ⟨d, hf, hp⟩ F₁ N₁
    exact done d m₁ nx h tk hp (ksw_fr hf.1 hf.2 F₁) N₁
theorem r_end {σ : Type} {pi : Addr × Obj} {ps : σ → List (PySem.Str × Value)} {st : List PySem.Str} {m₀ m' : PySem.Str → Option Value} {P : σ → List (Addr × Obj) → Prop} {L : Addr} {h' : Heap} {tk : Nat} {news' : List (Addr × Obj)} (d : σ) (nx : List (Addr × Obj))
    (F : Fr h₀ L h' m') (N : News h₀ L h' news') (hpi : pi ∈ news') (hn : ∀ p ∈ nx, p ∈ news' ∧ (p.1 ≠ pi.1 ∨ p.2.cls ≠ pi.2.cls)) (hk : ∀ p ∈ ps d, m' p.1 = some p.2)
    (hr : ∀ z, (∀ p ∈ ps d, z ≠ p.1) → st.contains z = false → m' z = m₀ z) (hP : P d nx) : MEnd h₀ L pi (RJ ps st m₀ P) s { s with heap := h', toks := tk } :=
  ⟨h', tk, m', news', nx, rfl, F, N, hpi, hn, d, ⟨hk, hr⟩, hP⟩
noncomputable def WEnd {σ : Type} (h₀ : Heap) (L : Addr) (ps : σ → List (PySem.Str × Value)) (st : List PySem.Str) (m₀ : PySem.Str → Option Value) (P : Nat → σ → List (Addr × Obj) → Prop) (n : Nat) (s : Shared) (f : Flow) (s' : Shared) : Prop :=
  f = .next ∧ ∃ h' tk m' nx n' d, s' = { s with heap := h', toks := tk } ∧ Fr h₀ L h' m' ∧ News h₀ L h' nx ∧ n' < n ∧ FI (ps d) st m₀ m' ∧ P n' d nx
theorem w_loop {σ : Type} {test : PySem.Expr} {pos : Pos} {m₀ : PySem.Str → Option Value} {news : List (Addr × Obj)} (ps : σ → List (PySem.Str × Value)) (st : List PySem.Str) (P : Nat → σ → List (Addr × Obj) → Prop) (c₀ : σ) (n₀ : Nat)
    (F : Fr h₀ env.locals s.heap m₀) (N : News h₀ env.locals s.heap news) (hk : ∀ p ∈ ps c₀, m₀ p.1 = some p.2) (hj : P n₀ c₀ news)
    (turn : ∀ n d (w₁ : PySem.Str → Option Value) nx h tk, P n d nx → Fr h₀ env.locals h (kstB (fun z => if st.contains z then w₁ z else m₀ z) (ps d)) → News h₀ env.locals h nx →
      wpAny (model prog w) A (isTrue test env (eval test env)) (fun b s₂ => if b = true then wpAny (model prog w) A (execs body env) (WEnd h₀ env.locals ps st m₀ P n s) E s₂ else Q .next s₂) E { s with heap := h, toks := tk })
    (hE : PassesOwn (model prog w) A env E) :
    wpAny (model prog w) A (exec (.While test body [] pos) env) Q E s := by
  refine While_inv (fun n m nx => ∃ d, FI (ps d) st m₀ m ∧ P n d nx) F N ⟨c₀, ⟨hk, fun _ _ _ => rfl⟩, hj⟩ ?_ hE
  rintro n m₁ nx h tk F₁ N₁ ⟨d, hf, hp⟩
  refine wpAny_mono (turn n d m₁ nx h tk hp (ksw_fr hf.1 hf.2 F₁) N₁) (fun b s₂ h₂ => ?_) fun _ _ x => x
  cases b with
  | false => exact h₂
  | true =>
    rw [if_pos rfl] at h₂ ⊢
    refine wpAny_mono h₂ (fun f s₃ h₃ => ?_) fun _ _ x => x
    obtain ⟨rfl, h', tk', m', nx', n', d', rfl, F', N', hn, hf', hp'⟩ := h₃
    exact ⟨rfl, h', tk', m', nx', n', rfl, F', N', hn, d', hf', hp'⟩
theorem w_end {σ : Type} {ps : σ → List (PySem.Str × Value)} {st : List PySem.Str} {m₀ m' : PySem.Str → Option Value} {P : Nat → σ → List (Addr × Obj) → Prop} {L : Addr} {h' : Heap} {tk : Nat} {n : Nat} (n' : Nat) (d : σ) (nx : List (Addr × Obj))
    (F : Fr h₀ L h' m') (N : News h₀ L h' nx) (hn : n' < n) (hk : ∀ p ∈ ps d, m' p.1 = some p.2)
    (hr : ∀ z, (∀ p ∈ ps d, z ≠ p.1) → st.contains z = false → m' z = m₀ z) (hP : P n' d nx) : WEnd h₀ L ps st m₀ P n s .next { s with heap := h', toks := tk } :=
  ⟨rfl, h', tk, m', nx, n', d, rfl, F, N, hn, ⟨hk, hr⟩, hP⟩
noncomputable def WOut {σ : Type} (h₀ : Heap) (L : Addr) (ps : σ → List (PySem.Str × Value)) (st : List PySem.Str) (m₀ : PySem.Str → Option Value) (R : σ → List (Addr × Obj) → Prop) (s : Shared) (s' : Shared) : Prop :=
  ∃ h' tk m' nx d, s' = { s with heap := h', toks := tk } ∧ Fr h₀ L h' m' ∧ News h₀ L h' nx ∧ FI (ps d) st m₀ m' ∧ R d nx
theorem w_loopR {σ : Type} {test : PySem.Expr} {pos : Pos} {m₀ : PySem.Str → Option Value} {news : List (Addr × Obj)} (ps : σ → List (PySem.Str × Value)) (st : List PySem.Str) (P : Nat → σ → List (Addr × Obj) → Prop) (R : σ → List (Addr × Obj) → Prop) (c₀ : σ) (n₀ : Nat)
    (F : Fr h₀ env.locals s.heap m₀) (N : News h₀ env.locals s.heap news) (hk : ∀ p ∈ ps c₀, m₀ p.1 = some p.2) (hj : P n₀ c₀ news)
    (turn : ∀ n d (w₁ : PySem.Str → Option Value) nx h tk, P n d nx → Fr h₀ env.locals h (kstB (fun z => if st.contains z then w₁ z else m₀ z) (ps d)) → News h₀ env.locals h nx →
      wpAny (model prog w) A (isTrue test env (eval test env)) (fun b s₂ => if b = true then wpAny (model prog w) A (execs body env) (WEnd h₀ env.locals ps st m₀ P n s) E s₂ else WOut h₀ env.locals ps st m₀ R s s₂) E { s with heap := h, toks := tk })
    (done : ∀ d (w₁ : PySem.Str → Option Value) nx h tk, R d nx → Fr h₀ env.locals h (kstB (fun z => if st.contains z then w₁ z else m₀ z) (ps d)) → News h₀ env.locals h nx → Q .next { s with heap := h, toks := tk })
    (hE : PassesOwn (model prog w) A env E) :
    wpAny (model prog w) A (exec (.While test body [] pos) env) Q E s := by
  refine wpAny_mono (w_loop (Q := fun f s' => f = .next ∧ WOut h₀ env.locals ps st m₀ R s s') ps st P c₀ n₀ F N hk hj (fun n d w₁ nx h tk hp F' N' => wpAny_mono (turn n d w₁ nx h tk hp F' N') (fun b s₂ h₂ => ?_) fun _ _ e => e) hE) (fun f s' h' => ?_) fun _ _ e => e
  · cases b with
    | true => exact h₂
    | false => exact ⟨rfl, h₂⟩
  · obtain ⟨rfl, h', tk, m', nx, d, rfl, F', N', hf, hr⟩ := h'
    exact done d m' nx h' tk hr (ksw_fr hf.1 hf.2 F') N'
theorem w_out {σ : Type} {ps : σ → List (PySem.Str × Value)} {st : List PySem.Str} {m₀ m' : PySem.Str → Option Value} {R : σ → List (Addr × Obj) → Prop} {L : Addr} {h' : Heap} {tk : Nat} (d : σ) (nx : List (Addr × Obj))
    (F : Fr h₀ L h' m') (N : News h₀ L h' nx) (hk : ∀ p ∈ ps d, m' p.1 = some p.2)
    (hr : ∀ z, (∀ p ∈ ps d, z ≠ p.1) → st.contains z = false → m' z = m₀ z) (hP : R d nx) : WOut h₀ L ps st m₀ R s { s with heap := h', toks := tk } :=
  ⟨h', tk, m', nx, d, rfl, F, N, ⟨hk, hr⟩, hP⟩
noncomputable def SEnd {σ : Type} (h₀ : Heap) (L : Addr) (ps : σ → List (PySem.Str × Value)) (st : List PySem.Str) (m₀ : PySem.Str → Option Value) (R : σ → List (Addr × Obj) → Prop) (s : Shared) (f : Flow) (s' : Shared) : Prop :=
  f = .next ∧ WOut h₀ L ps st m₀ R s s'
theorem seq_merge {σ : Type} {stmt : Stmt} {m₀ : PySem.Str → Option Value} (ps : σ → List (PySem.Str × Value)) (st : List PySem.Str) (R : σ → List (Addr × Obj) → Prop) (_F : Fr h₀ env.locals s.heap m₀)
    (h : wpAny (model prog w) A (exec stmt env) (SEnd h₀ env.locals ps st m₀ R s) E s)
    (done : ∀ d (w₁ : PySem.Str → Option Value) nx h tk, R d nx → Fr h₀ env.locals h (kstB (fun z => if st.contains z then w₁ z else m₀ z) (ps d)) → News h₀ env.locals h nx → Q .next { s with heap := h, toks := tk }) :
    wpAny (model prog w) A (exec stmt env) Q E s := by
  refine wpAny_mono h (fun f s' h' => ?_) fun _ _ e => e
  obtain ⟨rfl, h', tk, m', nx, d, rfl, F', N', hf, hr⟩ := h'
  exact done d m' nx h' tk hr (ksw_fr hf.1 hf.2 F') N'
theorem s_out {σ : Type} {ps : σ → List (PySem.Str × Value)} {st : List PySem.Str} {m₀ m' : PySem.Str → Option Value} {R : σ → List (Addr × Obj) → Prop} {L : Addr} {h' : Heap} {tk : Nat} (d : σ) (nx : List (Addr × Obj))
    (F : Fr h₀ L h' m') (N : News h₀ L h' nx) (hk : ∀ p ∈ ps d, m' p.1 = some p.2)
    (hr : ∀ z, (∀ p ∈ ps d, z ≠ p.1) → st.contains z = false → m' z = m₀ z) (hP : R d nx) : SEnd h₀ L ps st m₀ R s .next { s with heap := h', toks := tk } :=
  ⟨rfl, h', tk, m', nx, d, rfl, F, N, ⟨hk, hr⟩, hP⟩
theorem rend_list {σ : Type} {ps : σ → List (PySem.Str × Value)} {st : List PySem.Str} {m₀ m' : PySem.Str → Option Value} {P : σ → List (Addr × Obj) → Prop} {L D I8 : Addr} {o it8 : Obj} {rest : List (Addr × Obj)} {h' : Heap} {tk : Nat} (d : σ)
    (F : Fr h₀ L h' m') (N : News h₀ L h' ((D, o) :: (I8, it8) :: rest)) (hne : D ≠ I8) (hrest : ∀ p ∈ rest, p.1 ≠ I8) (hk : ∀ p ∈ ps d, m' p.1 = some p.2)
    (hr : ∀ z, (∀ p ∈ ps d, z ≠ p.1) → st.contains z = false → m' z = m₀ z) (hP : P d ((D, o) :: rest)) : MEnd h₀ L (I8, it8) (RJ ps st m₀ P) s { s with heap := h', toks := tk } :=
  r_end d ((D, o) :: rest) F N (.tail _ (.head _)) (fun p hp => by
    rcases List.mem_cons.mp hp with rfl | hp
    · exact ⟨.head _, .inl hne⟩
    · exact ⟨.tail _ (.tail _ hp), .inl (hrest p hp)⟩) hk hr hP
end
theorem m_gen {α : Type} {M : Model} {A : Around} {c : Sem α} {d : α → Sem Flow} {E E' : Value → Shared → Prop} {s₁ s : Shared} {h₀ : Heap} {L : Addr} {pi : Addr × Obj} {J : (PySem.Str → Option Value) → List (Addr × Obj) → Prop} {Q : Flow → Shared → Prop}
    (H : ∀ PP : Flow → Shared → Prop, (∀ s', MEnd h₀ L pi J s s' → PP .next s') → (∀ v s', Q (.ret v) s' → PP (.ret v) s') → wpAny M A c (fun x s₃ => wpAny M A (d x) PP E s₃) E' s₁) :
    wpAny M A c (fun x s₃ => wpAny M A (d x) (MPost h₀ L pi J s Q) E s₃) E' s₁ := H _ (fun _ h => h) (fun _ _ h => h)
theorem w_gen {σ : Type} {M : Model} {A : Around} {c : Sem Bool} {d : Sem Flow} {E E' : Value → Shared → Prop} {s₁ s : Shared} {h₀ : Heap} {L : Addr} {ps : σ → List (PySem.Str × Value)} {st : List PySem.Str} {m₀ : PySem.Str → Option Value} {P : Nat → σ → List (Addr × Obj) → Prop} {R : σ → List (Addr × Obj) → Prop} {n : Nat}
    (H : ∀ (P1 : Flow → Shared → Prop) (P2 : Shared → Prop), (∀ f s', WEnd h₀ L ps st m₀ P n s f s' → P1 f s') → (∀ s', WOut h₀ L ps st m₀ R s s' → P2 s') → wpAny M A c (fun b s₂ => if b = true then wpAny M A d P1 E s₂ else P2 s₂) E' s₁) :
    wpAny M A c (fun b s₂ => if b = true then wpAny M A d (WEnd h₀ L ps st m₀ P n s) E s₂ else WOut h₀ L ps st m₀ R s s₂) E' s₁ := H _ _ (fun _ _ h => h) (fun _ h => h)
theorem s_gen {σ : Type} {M : Model} {A : Around} {c : Sem Flow} {E : Value → Shared → Prop} {s₁ s : Shared} {h₀ : Heap} {L : Addr} {ps : σ → List (PySem.Str × Value)} {st : List PySem.Str} {m₀ : PySem.Str → Option Value} {R : σ → List (Addr × Obj) → Prop}
    (H : ∀ PP : Flow → Shared → Prop, (∀ f s', SEnd h₀ L ps st m₀ R s f s' → PP f s') → wpAny M A c PP E s₁) :
    wpAny M A c (SEnd h₀ L ps st m₀ R s) E s₁ := H _ (fun _ _ h => h)
noncomputable def KA (m : PySem.Str → Option Value) : List (PySem.Str × Value) → Prop
  | [] => True
  | p :: r => m p.1 = some p.2 ∧ KA m r
theorem ka_eq {m : PySem.Str → Option Value} : ∀ {ps : List (PySem.Str × Value)}, KA m ps → kstB m ps = m
  | [], _ => rfl
  | p :: r, h => by
    funext z
    show (if z = p.1 then some p.2 else kstB m r z) = m z
    rw [ka_eq h.2]
    split
    · rename_i e; rw [e, h.1]
    · rfl
theorem Fr.pick {h₀ h : Heap} {L : Addr} {m : PySem.Str → Option Value} (F : Fr h₀ L h m) (ps : List (PySem.Str × Value)) (hk : KA m ps) : ∃ u, Fr h₀ L h (kstB u ps) :=
  ⟨m, by rw [ka_eq hk]; exact F⟩
end Mine
open PySem PySem.W PyProof.Rows PyProof
namespace Mine
theorem sl_from {x : PySem.Str} {k : Nat} (h : k ≤ x.length) : Txt.slice x (some (k : Int)) none = ⟨(x.cps.toList.drop k).toArray⟩ := by
  rw [slice_from_eq (x := x) (i := (k : Int)) (b := (x.length : Int)) (by omega) (by omega) rfl, Int.toNat_natCast]
  have h2 : x.cps.toList.length = x.length := by simp [PySem.Str.length]
  rw [List.take_of_length_le (by rw [List.length_drop, h2]; omega)]
theorem sl_neg {x : PySem.Str} {q : Nat} (h : 1 ≤ q) (h2 : q ≤ x.length) : Txt.slice x none (some (-(q : Int))) = Txt.slice x none (some ((x.length - q : Nat) : Int)) := by
  unfold Txt.slice
  have e : PySem.Builtin.Str.strSliceIndices none (some (-(q : Int))) 1 x.length = PySem.Builtin.Str.strSliceIndices none (some ((x.length - q : Nat) : Int)) 1 x.length := by
    unfold PySem.Builtin.Str.strSliceIndices
    have h3 : (1 : Int) > 0 := by decide
    have h4 : (-(q : Int)) < 0 := by omega
    have h5 : ¬ (((x.length - q : Nat) : Int) < 0) := by omega
    simp only [h3, h4, h5, if_true, if_false]
    congr 1
    omega
  rw [e]
theorem sl_to {x : PySem.Str} {q : Nat} (h : 1 ≤ q) (h2 : q ≤ x.length) : Txt.slice x none (some (-(q : Int))) = ⟨(x.cps.toList.take (x.length - q)).toArray⟩ := by
  rw [sl_neg h h2]
  have := slice_closes_toL (x := x) (j := ((x.length - q : Nat) : Int)) (by omega) (by omega)
  rw [eq_of_beq this]
  simp
theorem sl_to_len {x : PySem.Str} {q : Nat} (h : 1 ≤ q) (h2 : q ≤ x.length) : (Txt.slice x none (some (-(q : Int)))).length = x.length - q := by
  rw [sl_to h h2]
  simp [PySem.Str.length]
theorem sl_from_len {x : PySem.Str} {k : Nat} (h : k ≤ x.length) : (Txt.slice x (some (k : Int)) none).length = x.length - k := by
  rw [sl_from h]
  simp [PySem.Str.length]
theorem sl_all {x : PySem.Str} : Txt.slice x none none = x := by
  unfold Txt.slice
  have e : (PySem.Builtin.Str.strSliceIndices none none 1 x.length).length = x.length := by
    unfold PySem.Builtin.Str.strSliceIndices PySem.sliceRange
    simp
    split <;> omega
  simp [e]
section
variable {prog : Program} {w : World} {A : Around} {E : Value → Shared → Prop} {s : Shared} {value slice : PySem.Expr} {x : PySem.Str} {t : Tok} {h₀ : Heap} {L : Addr} {m : PySem.Str → Option Value} {news : List (Addr × Obj)} {Q : Value → Shared → Prop}
theorem slN_sn {k : Nat} {ui : Tok} (hF : Fr h₀ L s.heap m) (hN : News h₀ L s.heap news) (h : ∀ h' t' k', Fr h₀ L h' m → News h₀ L h' news → (Txt.slice x (some (k : Int)) none).length = x.length - k → Q (.str (Txt.slice x (some (k : Int)) none) t') { s with heap := h', toks := k' })
    (hs : subscripted slice false (.str x t) (.ref s.heap.objs.size) = operate [.ref s.heap.objs.size, .str x t] (getItem (.str x t) (.ref s.heap.objs.size)))
    (ht : ∀ r, letTemporaryGo value (.str x t) r = pure ()) (hk : k ≤ x.length) (hsz : x.length ≤ 1000) :
    wpAny (model prog w) A (subscriptTail value slice (.str x t) (.ref s.heap.objs.size)) Q E { s with heap := s.heap.push { cls := .type "slice", data := .fields #[.int (k : Int) ui, .none, .none] } } :=
  slice_strN_sn hF hN (fun h' t' k' a b => h h' t' k' a b (sl_from_len hk)) hs ht (by rw [sizeLine_eq]; omega)
theorem slN_ns {q : Nat} {ui : Tok} (hF : Fr h₀ L s.heap m) (hN : News h₀ L s.heap news) (h : ∀ h' t' k', Fr h₀ L h' m → News h₀ L h' news → (Txt.slice x none (some (-(q : Int)))).length = x.length - q → Q (.str (Txt.slice x none (some (-(q : Int)))) t') { s with heap := h', toks := k' })
    (hs : subscripted slice false (.str x t) (.ref s.heap.objs.size) = operate [.ref s.heap.objs.size, .str x t] (getItem (.str x t) (.ref s.heap.objs.size)))
    (ht : ∀ r, letTemporaryGo value (.str x t) r = pure ()) (h1 : 1 ≤ q) (hk : q ≤ x.length) (hsz : x.length ≤ 1000) :
    wpAny (model prog w) A (subscriptTail value slice (.str x t) (.ref s.heap.objs.size)) Q E { s with heap := s.heap.push { cls := .type "slice", data := .fields #[.none, .int (-(q : Int)) ui, .none] } } :=
  slice_strN_ns hF hN (fun h' t' k' a b => h h' t' k' a b (sl_to_len h1 hk)) hs ht (by rw [sizeLine_eq]; omega)
theorem slN_nn (hF : Fr h₀ L s.heap m) (hN : News h₀ L s.heap news) (h : ∀ h' t' k', Fr h₀ L h' m → News h₀ L h' news → (Txt.slice x none none).length = x.length → Q (.str (Txt.slice x none none) t') { s with heap := h', toks := k' })
    (hs : subscripted slice false (.str x t) (.ref s.heap.objs.size) = operate [.ref s.heap.objs.size, .str x t] (getItem (.str x t) (.ref s.heap.objs.size)))
    (ht : ∀ r, letTemporaryGo value (.str x t) r = pure ()) (hsz : x.length ≤ 1000) :
    wpAny (model prog w) A (subscriptTail value slice (.str x t) (.ref s.heap.objs.size)) Q E { s with heap := s.heap.push { cls := .type "slice", data := .fields #[.none, .none, .none] } } :=
  slice_strN_nn hF hN (fun h' t' k' a b => h h' t' k' a b (by rw [sl_all])) hs ht (by rw [sizeLine_eq]; omega)
end
noncomputable def cutQ (x : PySem.Str) (q : Nat) : PySem.Str := if q = 0 then Txt.slice x none none else Txt.slice x none (some (-(q : Int)))
theorem cutQ_len {x : PySem.Str} {q : Nat} (h : q ≤ x.length) : (cutQ x q).length = x.length - q := by
  unfold cutQ
  split
  · subst q; rw [sl_all]; omega
  · exact sl_to_len (by omega) h
theorem rs2 (n : Nat) : Builtin.Range.rangeSize 2 (2 * ((n : Int) + 1)) 2 = (n : Int) := by
  unfold Builtin.Range.rangeSize
  have h : (2 : Int) > 0 := by decide
  by_cases h0 : n = 0
  · subst h0; decide
  · have h1 : (2 : Int) < 2 * ((n : Int) + 1) := by omega
    simp [h1]
    omega
theorem ints_of : ∀ (vs : List Value) (ns : List Int), vs.length = ns.length → (∀ (j : Nat) (v : Value), vs[j]? = some v → ∃ t, v = .int (ns.getD j 0) t) → IntsAre vs ns
  | [], [], _, _ => .nil
  | [], _ :: _, e, _ => nomatch e
  | _ :: _, [], e, _ => nomatch e
  | v :: r, n :: ns, e, h => by
    obtain ⟨t, ht⟩ := h 0 v rfl
    have hv : v = .int n t := ht
    subst hv
    exact IntsAre.cons _ _ (ints_of r ns (by simpa using e) fun j v hj => h (j + 1) v hj)
theorem ints_set {vs : List Value} {ns : List Int} (h : IntsAre vs ns) (i : Nat) (n : Int) (t : Tok) : IntsAre (vs.set i (.int n t)) (ns.set i n) := by
  induction h generalizing i with
  | nil => exact .nil
  | cons m u _ ih =>
    cases i with
    | zero => exact .cons _ _ (by assumption)
    | succ i => exact .cons _ _ (ih i)
section
variable {prog : Program} {w : World} {A : Around} {E : Value → Shared → Prop} {s : Shared} {h₀ : Heap} {L : Addr} {m : PySem.Str → Option Value} {news : List (Addr × Obj)} {Q : Value → Shared → Prop}
theorem list_rangeN {r : Addr} {a b c : Int} {t u v : Tok} {n : Nat} (hh : A.handled = none) (F : Fr h₀ L s.heap m) (N : News h₀ L s.heap news) (hr : IsRange s.heap r a b c t u v) (hsm : Builtin.Range.small a b c = true) (hn : Builtin.Range.rangeSize a b c = (n : Int)) (hz : n ≤ 1000)
    (h : ∀ D us cc h' tk, Fr h₀ L h' m → News h₀ L h' ((D, PySem.W.listOf (List.toArray us) cc) :: news) → (∀ p ∈ news, p.1 < D) → IntsAre us ((List.range n).map fun (i : Nat) => a + (i : Int) * c) → Q (.ref D) { s with heap := h', toks := tk }) :
    wpAny (model prog w) A (call (.type "list") [.ref r]) Q E s := by
  refine call_list_range hh hr hsm hn (by omega) fun h' tk acc cc hk hD hI => ?_
  have hD' : h'.get? s.heap.objs.size = some (PySem.W.listOf (List.toArray acc.toList) cc) := by
    rw [Array.toArray_toList]
    exact hD
  refine h _ acc.toList cc h' tk (F.keeps hk) (news_pushed F N hk hD' rfl) (fun p hp => Heap.lt_size (N p hp).1) (ints_of _ _ (by simp [hI.1]) fun j v hj => ?_)
  have hj' : acc[j]? = some v := by rw [← hj, Array.getElem?_toList]
  obtain ⟨t, rfl⟩ := hI.2 j v hj'
  have hlt : j < n := by
    have := (Array.getElem?_eq_some_iff.mp hj').1
    rw [hI.1] at this; exact this
  refine ⟨t, congrArg (fun z => Value.int z t) ?_⟩
  rw [List.getD_eq_getElem?_getD, List.getElem?_map, List.getElem?_range hlt]
  rfl
end
theorem sm2 {n : Nat} (h : n ≤ 3) : Builtin.Range.small 2 (2 * ((n : Int) + 1)) 2 = true := by
  have : n = 0 ∨ n = 1 ∨ n = 2 ∨ n = 3 := by omega
  rcases this with rfl | rfl | rfl | rfl <;> decide
end Mine
open PySem PySem.W PyProof.Rows PyProof
namespace Mine
noncomputable def S (w : List Nat) : PySem.Str := ⟨w.toArray⟩
noncomputable def lc (c : Nat) : Bool := c == 97 || c == 65 || c == 98 || c == 66 || c == 99 || c == 67
noncomputable def LW (w : List Nat) : Prop := ∀ c ∈ w, lc c = true
noncomputable def lowW (w : List Nat) : List Nat := w.map lo1
noncomputable def upW (w : List Nat) : List Nat := w.map up1
theorem S_len (w : List Nat) : (S w).length = w.length := by simp [S, PySem.Str.length]
theorem S_inj {a b : List Nat} : S a = S b ↔ a = b := by
  constructor
  · intro h
    have h1 : a.toArray = b.toArray := congrArg PySem.Str.cps h
    simpa using h1
  · rintro rfl; rfl
theorem S_beq (a b : List Nat) : (S a == S b) = (a == b) := by
  by_cases h : a = b
  · subst h; simp
  · rw [beq_eq_false_iff_ne.mpr h, beq_eq_false_iff_ne.mpr fun e => h (S_inj.mp e)]
theorem lc_cases {c : Nat} (h : lc c = true) : c = 97 ∨ c = 65 ∨ c = 98 ∨ c = 66 ∨ c = 99 ∨ c = 67 := by
  simpa [lc, or_assoc] using h
theorem LW.ascii {w : List Nat} (h : LW w) : ∀ c ∈ (S w).cps.toList, c < 128 := by
  intro c hc
  have hc' : c ∈ w := by simpa [S] using hc
  rcases lc_cases (h c hc') with h | h | h | h | h | h <;> omega
theorem LW.low {w : List Nat} (h : LW w) : Txt.lower (S w) = S (lowW w) := by
  rw [lower_ascii h.ascii]; simp [S, lowW]
theorem LW.up {w : List Nat} (h : LW w) : Txt.upper (S w) = S (upW w) := by
  rw [upper_ascii h.ascii]; simp [S, upW]
theorem LW.lowW {w : List Nat} (h : LW w) : LW (lowW w) := by
  intro c hc
  obtain ⟨d, hd, rfl⟩ := List.mem_map.mp hc
  rcases lc_cases (h d hd) with h | h | h | h | h | h <;> subst h <;> rfl
theorem LW.upW {w : List Nat} (h : LW w) : LW (upW w) := by
  intro c hc
  obtain ⟨d, hd, rfl⟩ := List.mem_map.mp hc
  rcases lc_cases (h d hd) with h | h | h | h | h | h <;> subst h <;> rfl
theorem LW.clean {w : List Nat} (h : LW w) : Clean (S w) := by
  intro c hc
  have hc' : c ∈ w := by simpa [S] using hc
  rcases lc_cases (h c hc') with h | h | h | h | h | h <;> omega
theorem lowW_len (w : List Nat) : (lowW w).length = w.length := by simp [lowW]
theorem upW_len (w : List Nat) : (upW w).length = w.length := by simp [upW]
theorem lo_lo {c : Nat} (h : lc c = true) : lo1 (lo1 c) = lo1 c := by
  rcases lc_cases h with h | h | h | h | h | h <;> subst h <;> rfl
theorem lo_up {c : Nat} (h : lc c = true) : lo1 (up1 c) = lo1 c := by
  rcases lc_cases h with h | h | h | h | h | h <;> subst h <;> rfl
theorem up_lo {c : Nat} (h : lc c = true) : up1 (lo1 c) = up1 c := by
  rcases lc_cases h with h | h | h | h | h | h <;> subst h <;> rfl
theorem LW.low_low {w : List Nat} (h : LW w) : Mine.lowW (Mine.lowW w) = Mine.lowW w := by
  unfold Mine.lowW
  rw [List.map_map]
  exact List.map_congr_left fun c hc => lo_lo (h c hc)
theorem LW.low_up {w : List Nat} (h : LW w) : Mine.lowW (Mine.upW w) = Mine.lowW w := by
  unfold Mine.lowW Mine.upW
  rw [List.map_map]
  exact List.map_congr_left fun c hc => lo_up (h c hc)
theorem LW.up_low {w : List Nat} (h : LW w) : Mine.upW (Mine.lowW w) = Mine.upW w := by
  unfold Mine.lowW Mine.upW
  rw [List.map_map]
  exact List.map_congr_left fun c hc => up_lo (h c hc)
noncomputable def numS (n : Int) : PySem.Str := PySem.Str.ofString (toString n)
theorem num_back_all : ∀ n : Nat, n < 1401 → PySem.intText? (numS ((n : Int) - 700)) = some ((n : Int) - 700) ∧ Clean (numS ((n : Int) - 700)) ∧ (numS ((n : Int) - 700)).length ≤ 4 := by unfold Clean; decide +kernel
theorem num_back {n : Int} (h0 : -700 ≤ n) (h1 : n ≤ 700) : PySem.intText? (numS n) = some n ∧ Clean (numS n) ∧ (numS n).length ≤ 4 := by
  have := num_back_all (n + 700).toNat (by omega)
  rw [show (((n + 700).toNat : Nat) : Int) - 700 = n by omega] at this
  exact this
theorem sjoin_S : ∀ ws : List (List Nat), PySem.Str.join (PySem.Str.ofString "") (ws.map S) = S ws.flatten
  | [] => rfl
  | [x] => by simp [PySem.Str.join]
  | x :: y :: r => by
    have ih := sjoin_S (y :: r)
    show S x ++ PySem.Str.ofString "" ++ PySem.Str.join (PySem.Str.ofString "") ((y :: r).map S) = _
    rw [ih]
    apply congrArg PySem.Str.mk (a₁ := (S x ++ PySem.Str.ofString "" ++ S (y :: r).flatten).cps) (a₂ := (x :: y :: r).flatten.toArray)
    rw [PySem.Str.cps_append, PySem.Str.cps_append]
    have z : (PySem.Str.ofString "").cps = #[] := by decide
    rw [z]
    simp [S]
theorem join_S (ws : List (List Nat)) : Txt.join (PySem.Str.ofString "") (ws.map S) = S ws.flatten := by
  show Builtin.Str.glued (PySem.Str.ofString "") _ = _
  rw [StrLaws.glued_eq_join]
  exact sjoin_S ws
theorem S_app (a b : List Nat) : S a ++ S b = S (a ++ b) := by
  apply congrArg PySem.Str.mk (a₁ := (S a ++ S b).cps) (a₂ := (a ++ b).toArray)
  rw [PySem.Str.cps_append]
  simp [S]
theorem S_item {x : List Nat} {i : Nat} (h : i < x.length) : Txt.item (S x) (i : Int) = S [x.getD i 0] := by
  rw [item_meets ⟨by omega, by rw [S_len]; omega⟩, Int.toNat_natCast]
  simp [S]
theorem txt_app {a x : List Nat} {i : Nat} (h : i < x.length) : S a ++ Txt.item (S x) (i : Int) = S (a ++ [x.getD i 0]) := by
  rw [S_item h, S_app]
end Mine
namespace Mine
noncomputable def EnEnd (h₀ : Heap) (L : Addr) (p1 p2 : Addr × Obj) (J : (PySem.Str → Option Value) → List (Addr × Obj) → Prop) (s s' : Shared) : Prop :=
  ∃ h' tk m' news' nx, s' = { s with heap := h', toks := tk } ∧ Fr h₀ L h' m' ∧ News h₀ L h' news' ∧ p1 ∈ news' ∧ p2 ∈ news' ∧ (∀ p ∈ nx, p ∈ news' ∧ (p.1 ≠ p1.1 ∧ p.1 ≠ p2.1)) ∧ J m' nx
noncomputable def EnPost (h₀ : Heap) (L : Addr) (p1 p2 : Addr × Obj) (J : (PySem.Str → Option Value) → List (Addr × Obj) → Prop) (s : Shared) (Q : Flow → Shared → Prop) (f : Flow) (s' : Shared) : Prop :=
  match f with
  | .ret v => Q (.ret v) s'
  | .brk => Q .next s'
  | _ => EnEnd h₀ L p1 p2 J s s'
section
variable {prog : Program} {w : World} {A : Around} {E : Value → Shared → Prop} {s : Shared} {env : Env} {h₀ : Heap} {body : List Stmt} {Q : Flow → Shared → Prop}
theorem en_iter {elts : List PySem.Expr} {k : Nat} {pos : Pos} {l : Addr} {vs : List Value} {nn : Nat} {m₀ : PySem.Str → Option Value} {news : List (Addr × Obj)} (J : Nat → (PySem.Str → Option Value) → List (Addr × Obj) → Prop)
    (hh : A.handled = none) (hl : (l, PySem.W.listOf vs.toArray nn) ∈ news) (F : Fr h₀ env.locals s.heap m₀) (N : News h₀ env.locals s.heap news) (hj : J 0 m₀ news)
    (turn : ∀ i v m₁ nx T t E1 oe I oi h tk, vs[i]? = some v → oe.cls = .type "enumerate" → oi.cls = .type "list_iterator" → J i m₁ nx → (l, PySem.W.listOf vs.toArray nn) ∈ nx → (∀ p ∈ nx, p.1 ≠ E1 ∧ p.1 ≠ I) → IsTup h T #[.int (i : Int) t, v] → Fr h₀ env.locals h m₁ → News h₀ env.locals h ((E1, oe) :: (I, oi) :: nx) →
      wpAny (model prog w) A (assign (.Tuple elts k pos) env (.ref T)) (fun _ s₃ => wpAny (model prog w) A (execs body env)
        (EnPost h₀ env.locals (E1, oe) (I, oi) (fun m' nx' => (l, PySem.W.listOf vs.toArray nn) ∈ nx' ∧ J (i + 1) m' nx') s Q) E s₃) E { s with heap := h, toks := tk })
    (done : ∀ m₁ nx h tk, J vs.length m₁ nx → (l, PySem.W.listOf vs.toArray nn) ∈ nx → Fr h₀ env.locals h m₁ → News h₀ env.locals h nx → Q .next { s with heap := h, toks := tk }) :
    wpAny (model prog w) A (call (.type "enumerate") [.ref l]) (fun xv s₁ => wpAny (model prog w) A (pyIter xv) (fun it s₂ => TurnsAt prog w A h₀ env (.Tuple elts k pos) body Q E it s₂) E s₁) E s := by
  have hax := N _ hl
  have hol : s.heap.get? l = some (PySem.W.listOf vs.toArray nn) := hax.1
  have hls : s.heap.IsList l vs.toArray := ⟨_, hol, rfl, nn, rfl⟩
  have hlt : l < s.heap.objs.size := Heap.lt_size hol
  have hLs : env.locals < s.heap.objs.size := F.ns.lt
  refine call_enumerate_list hls fun h' hE hI hsz hk => ?_
  refine wpAny_pyIter_enum hE ?_
  have hlen : vs.toArray.size = vs.length := by simp
  have W := WalksT.enumerate (prog := prog) (w := w) hh (s.heap.objs.size + 1) s.heap.objs.size l (Nat.succ_ne_self _) (ktu_ne 1 hlt) (Nat.ne_of_lt hlt) vs.toArray
  rw [hlen] at W
  have T := KTurns.ofWalksU (elts := elts) (k := k) (pos := pos) W.toU
  have hI0 : h₀.get? s.heap.objs.size = none := ktu_new F (Nat.le_refl _)
  have hE0 : h₀.get? (s.heap.objs.size + 1) = none := ktu_new F (Nat.le_add_right _ _)
  refine ⟨_, _, _, vs.length, _, _, _, m₀, news, (fun i m nx => (l, PySem.W.listOf vs.toArray nn) ∈ nx ∧ J i m nx), rfl, T, ?_, ?_, ?_, ⟨⟨.none, hE⟩, hI, hls.at fun o e => hk l o e⟩, F.keeps hk, N.grown hk, ⟨hl, hj⟩, ?_, ?_⟩
  · intro hI'
    have hb' : env.locals = s.heap.objs.size + 1 ∨ env.locals = s.heap.objs.size ∨ env.locals = l := by simpa using hI'
    rcases hb' with e | e | e
    · exact ktu_ne 1 hLs e
    · exact Nat.ne_of_lt hLs e
    · exact hax.2.1 e.symm
  · intro b hb
    have hb' : b = s.heap.objs.size + 1 ∨ b = s.heap.objs.size := by simpa using hb
    rcases hb' with rfl | rfl
    · exact hE0
    · exact hI0
  · intro p hp hI'
    have hb' : p.1 = s.heap.objs.size + 1 ∨ p.1 = s.heap.objs.size := by simpa using hI'
    have hlp := Heap.lt_size (N p hp).1
    rcases hb' with e | e
    · exact ktu_ne 1 hlp e
    · exact Nat.ne_of_lt hlp e
  · rintro i v m₁ news₁ h tk own hin ⟨Tp, vals, rfl, ⟨t, x, hx, rfl⟩, hT⟩ ⟨hl₁, hJ⟩ hoff hown hget hfp hst F₁ N₁
    have hx' : vs[i]? = some x := by simpa using hx
    obtain ⟨⟨old, heE⟩, ⟨oi, hoi, hic, _⟩, _⟩ := id hst
    have he' : ∃ oe : Obj, h.get? (s.heap.objs.size + 1) = some oe ∧ oe.cls = .type "enumerate" := ⟨_, heE, rfl⟩
    obtain ⟨oe, hoe, hec⟩ := he'
    have hEown : (s.heap.objs.size + 1, oe) ∈ own := hfp _ (by simp) hE0 _ hoe
    have hIown : (s.heap.objs.size, oi) ∈ own := hfp _ (by simp) hI0 _ hoi
    have hoff' : ∀ p ∈ news₁, p.1 ≠ s.heap.objs.size + 1 ∧ p.1 ≠ s.heap.objs.size := fun p hp => ⟨fun e => hoff p hp (by simp [e]), fun e => hoff p hp (by simp [e])⟩
    have N₂ : News h₀ env.locals h ((s.heap.objs.size + 1, oe) :: (s.heap.objs.size, oi) :: news₁) := fun p hp => by
      rcases List.mem_cons.mp hp with rfl | hp
      · exact N₁ _ (List.mem_append.mpr (.inl hEown))
      rcases List.mem_cons.mp hp with rfl | hp
      · exact N₁ _ (List.mem_append.mpr (.inl hIown))
      · exact N₁ _ (List.mem_append.mpr (.inr hp))
    have hlo : h.get? l = some (PySem.W.listOf vs.toArray nn) := (N₁ _ (List.mem_append.mpr (.inr hl₁))).1
    refine wpAny_mono (turn i x m₁ news₁ Tp t _ oe _ oi h tk hx' hec hic hJ hl₁ hoff' hT F₁ N₂) (fun _ s₃ p => wpAny_mono p (fun f s₂ q => ?_) fun _ _ x => x) fun _ _ x => x
    have fin : EnEnd h₀ env.locals (s.heap.objs.size + 1, oe) (s.heap.objs.size, oi) (fun m' nx' => (l, PySem.W.listOf vs.toArray nn) ∈ nx' ∧ J (i + 1) m' nx') s s₂ →
        LoopStepU h₀ env.locals [s.heap.objs.size + 1, s.heap.objs.size] own (fun m nx => (l, PySem.W.listOf vs.toArray nn) ∈ nx ∧ J (i + 1) m nx) { s with heap := h, toks := tk } .next s₂ := by
      rintro ⟨h', tk', m', news', nx, e, F', N', hp1, hp2, hn, hm⟩
      refine ⟨rfl, h', tk', m', nx, e, F', fun p hp => ?_, fun p hp hq => ?_, hm⟩
      · rcases List.mem_append.mp hp with hp | hp
        · have h2 : h.get? p.1 = some p.2 := hget p hp
          have h1 : p.1 = s.heap.objs.size + 1 ∨ p.1 = s.heap.objs.size ∨ p.1 = l := by simpa using hown p hp
          rcases h1 with h1 | h1 | h1
          · rw [h1, hoe] at h2
            have h3 : p = (s.heap.objs.size + 1, oe) := Prod.ext h1 (Option.some.inj h2).symm
            rw [h3]; exact N' _ hp1
          · rw [h1, hoi] at h2
            have h3 : p = (s.heap.objs.size, oi) := Prod.ext h1 (Option.some.inj h2).symm
            rw [h3]; exact N' _ hp2
          · rw [h1, hlo] at h2
            have h3 : p = (l, PySem.W.listOf vs.toArray nn) := Prod.ext h1 (Option.some.inj h2).symm
            rw [h3]; exact N' _ (hn _ hm.1).1
        · exact N' p (hn p hp).1
      · have h1 : p.1 = s.heap.objs.size + 1 ∨ p.1 = s.heap.objs.size := by simpa using hq
        rcases h1 with h1 | h1
        · exact (hn p hp).2.1 h1
        · exact (hn p hp).2.2 h1
    cases f with
    | ret v => exact q
    | brk => exact q
    | next => exact .next (fin q)
    | cont => exact .cont (fin q)
  · rintro h' tk m' news' F' N' _ ⟨hl', hJ⟩
    exact done m' news' h' tk hJ hl' F' N'
end
section
variable {prog : Program} {w : World} {A : Around} {E : Value → Shared → Prop} {s : Shared} {env : Env} {h₀ : Heap} {body : List Stmt} {Q : Flow → Shared → Prop}
noncomputable def EJ (lp : Addr × Obj) (st : List PySem.Str) (m₀ : PySem.Str → Option Value) (P : List (Addr × Obj) → Prop) (m' : PySem.Str → Option Value) (nx : List (Addr × Obj)) : Prop :=
  lp ∈ nx ∧ (∀ z, st.contains z = false → m' z = m₀ z) ∧ P nx
theorem en_loop {elts : List PySem.Expr} {k : Nat} {pos : Pos} {l : Addr} {vs : List Value} {nn : Nat} {m₀ : PySem.Str → Option Value} {news : List (Addr × Obj)} (st : List PySem.Str) (P : Nat → List (Addr × Obj) → Prop)
    (hh : A.handled = none) (hl : (l, PySem.W.listOf vs.toArray nn) ∈ news) (F : Fr h₀ env.locals s.heap m₀) (N : News h₀ env.locals s.heap news) (hj : P 0 news)
    (turn : ∀ i v (u : PySem.Str → Option Value) nx T t E1 oe I oi h tk, vs[i]? = some v → oe.cls = .type "enumerate" → oi.cls = .type "list_iterator" → P i nx → (l, PySem.W.listOf vs.toArray nn) ∈ nx → (∀ p ∈ nx, p.1 ≠ E1 ∧ p.1 ≠ I) → IsTup h T #[.int (i : Int) t, v] → Fr h₀ env.locals h (fun z => if st.contains z then u z else m₀ z) → News h₀ env.locals h ((E1, oe) :: (I, oi) :: nx) →
      wpAny (model prog w) A (assign (.Tuple elts k pos) env (.ref T)) (fun _ s₃ => wpAny (model prog w) A (execs body env)
        (EnPost h₀ env.locals (E1, oe) (I, oi) (EJ (l, PySem.W.listOf vs.toArray nn) st m₀ (P (i + 1))) s Q) E s₃) E { s with heap := h, toks := tk })
    (done : ∀ (u : PySem.Str → Option Value) nx h tk, P vs.length nx → (l, PySem.W.listOf vs.toArray nn) ∈ nx → Fr h₀ env.locals h (fun z => if st.contains z then u z else m₀ z) → News h₀ env.locals h nx → Q .next { s with heap := h, toks := tk }) :
    wpAny (model prog w) A (call (.type "enumerate") [.ref l]) (fun xv s₁ => wpAny (model prog w) A (pyIter xv) (fun it s₂ => TurnsAt prog w A h₀ env (.Tuple elts k pos) body Q E it s₂) E s₁) E s := by
  have up : ∀ {h : Heap} {m : PySem.Str → Option Value}, Fr h₀ env.locals h m → (∀ z, st.contains z = false → m z = m₀ z) → Fr h₀ env.locals h (fun z => if st.contains z then m z else m₀ z) := by
    intro h m F e
    have q : m = (fun z => if st.contains z then m z else m₀ z) := by
      funext z
      by_cases hz : st.contains z = true
      · rw [if_pos hz]
      · rw [if_neg hz]; exact e z (by simpa using hz)
    exact q ▸ F
  refine en_iter (fun i m nx => (∀ z, st.contains z = false → m z = m₀ z) ∧ P i nx) hh hl F N ⟨fun _ _ => rfl, hj⟩ ?_ ?_
  · rintro i v m₁ nx T t E1 oe I oi h tk hv hec hic ⟨hf, hp⟩ hl' off hT F₁ N₁
    exact turn i v m₁ nx T t E1 oe I oi h tk hv hec hic hp hl' off hT (up F₁ hf) N₁
  · rintro m₁ nx h tk ⟨hf, hp⟩ hl' F₁ N₁
    exact done m₁ nx h tk hp hl' (up F₁ hf) N₁
theorem en_end {lp p1 p2 : Addr × Obj} {st : List PySem.Str} {m₀ m' : PySem.Str → Option Value} {P : List (Addr × Obj) → Prop} {L : Addr} {h' : Heap} {tk : Nat} {news' : List (Addr × Obj)} (nx : List (Addr × Obj))
    (F : Fr h₀ L h' m') (N : News h₀ L h' news') (h1 : p1 ∈ news') (h2 : p2 ∈ news') (hn : ∀ p ∈ nx, p ∈ news' ∧ (p.1 ≠ p1.1 ∧ p.1 ≠ p2.1)) (hl : lp ∈ nx)
    (hr : ∀ z, st.contains z = false → m' z = m₀ z) (hP : P nx) : EnEnd h₀ L p1 p2 (EJ lp st m₀ P) s { s with heap := h', toks := tk } :=
  ⟨h', tk, m', news', nx, rfl, F, N, h1, h2, hn, hl, hr, hP⟩
end
theorem en_gen {α : Type} {M : Model} {A : Around} {c : Sem α} {d : α → Sem Flow} {E E' : Value → Shared → Prop} {s₁ s : Shared} {h₀ : Heap} {L : Addr} {p1 p2 : Addr × Obj} {J : (PySem.Str → Option Value) → List (Addr × Obj) → Prop} {Q : Flow → Shared → Prop}
    (H : ∀ PP : Flow → Shared → Prop, (∀ s', EnEnd h₀ L p1 p2 J s s' → PP .next s') → wpAny M A c (fun x s₃ => wpAny M A (d x) PP E s₃) E' s₁) :
    wpAny M A c (fun x s₃ => wpAny M A (d x) (EnPost h₀ L p1 p2 J s Q) E s₃) E' s₁ := H _ (fun _ h => h)
end Mine
namespace Mine
open PyProof.Rows.LCg (NsObj)
theorem Fr.eqm {h₀ h : Heap} {L : Addr} {m : PySem.Str → Option Value} (F : Fr h₀ L h m) (m' : PySem.Str → Option Value) (e : m = m') : Fr h₀ L h m' := e ▸ F
section
variable {prog : Program} {w : World} {A : Around} {h₀ : Heap} {L : Addr} {m : PySem.Str → Option Value}
theorem srcR {env : Env} {x : PySem.Str} {px : Pos} {ifs : List PySem.Expr} {scope : Scope} {cl : List (PySem.Str × Addr)} {emit : Addr → Addr → Sem Unit} {Q : Addr → List Value → List (Addr × Obj) → Shared → Prop} {s₁ : Shared} {r : Addr} {a b c : Int} {t u v : Tok} {n : Nat} {news : List (Addr × Obj)} (J : Nat → List Value → Prop)
    (hh : A.handled = none) (F : Fr h₀ L s₁.heap m) (N : News h₀ L s₁.heap news) (hr : IsRange s₁.heap r a b c t u v) (hsm : Builtin.Range.small a b c = true) (hn : Builtin.Range.rangeSize a b c = ((n : Nat) : Int)) (hJ : J 0 [])
    (turn : ∀ i tk₀ ys I oI C oC D m₂ h tk (E' : Value → Shared → Prop), i < n → J i ys → ys.length ≤ sizeLine → (∀ p ∈ news, p.1 ≠ I ∧ p.1 ≠ C ∧ p.1 ≠ D) → (I ≠ C ∧ I ≠ D ∧ C ≠ D) → Fr h₀ L h m → News h₀ L h ((I, oI) :: (C, oC) :: (D, lsO ys) :: news) → NsObj oC m₂ →
      wpAny (model prog w) A (assign (.Name x px) (compEnvC scope cl C env) (.int (a + (i : Int) * c) tk₀)) (fun _ s₃ => wpAny (model prog w) A (tests ifs (compEnvC scope cl C env)) (fun ok s₄ =>
        if ok = true then wpAny (model prog w) A (emit C D) (fun _ s₅ => CEnd h₀ L m s₁ I oI C D (fun _ => True) (fun ys nx => nx = news ∧ J (i + 1) ys) s₅) E' s₄ else CEnd h₀ L m s₁ I oI C D (fun _ => True) (fun ys nx => nx = news ∧ J (i + 1) ys) s₄) E' s₃) E' { s₁ with heap := h, toks := tk })
    (done : ∀ D ys h tk, J n ys → (∀ p ∈ news, p.1 ≠ D) → Fr h₀ L h m → News h₀ L h ((D, lsO ys) :: news) → Q D ys news { s₁ with heap := h, toks := tk }) :
    CSrcL prog w A h₀ L m env (.Name x px) ifs scope cl emit Q (.ref r) s₁ ∨ ((∃ y py, PySem.Expr.Name x px = .Name y py) ∧ CSrcR prog w A h₀ L m env (.Name x px) ifs scope cl emit Q (.ref r) s₁) := by
  refine .inr ⟨⟨_, _, rfl⟩, r, a, b, c, t, u, v, n, news, fun i ys nx => nx = news ∧ J i ys, rfl, hh, F, N, hr, hsm, hn, ⟨rfl, hJ⟩, ?_, ?_⟩
  · rintro i tk₀ ys nx I oI C oC D m₂ h tk E' hi ⟨rfl, hJ'⟩ hz off hne F₁ N₁ hN₁
    exact turn i tk₀ ys I oI C oC D m₂ h tk E' hi hJ' hz off hne F₁ N₁ hN₁
  · rintro D ys nx h tk ⟨rfl, hJ'⟩ hD F' N'
    exact done D ys h tk hJ' hD F' N'
end
section
variable {prog : Program} {w : World} {A : Around} {E : Value → Shared → Prop} {s : Shared} {h₀ : Heap} {L : Addr} {m : PySem.Str → Option Value}
theorem joinN {led : List (Addr × Obj)} {l : Addr} {vs : List Value} {ep : Nat} {sep : PySem.Str} {t : Tok} {ys : List PySem.Str} {Q : Value → Shared → Prop} (N : News h₀ L s.heap led) (hl : (l, PySem.W.listOf (List.toArray vs) ep) ∈ led) (hi : StrsAre vs ys) (hsep : sep.length ≤ 64) (hok : (ys.map (·.length)).sum + ys.length * 64 ≤ 16777216)
    (h : ∀ t' k, Q (.str (Txt.join sep ys) t') { s with toks := k }) : wpAny (model prog w) A (call (.builtin "str.join") [.str sep t, .ref l]) Q E s :=
  join_listC (items := List.toArray vs) ⟨_, (N _ hl).1, rfl, ep, rfl⟩ (by simpa using hi) hsep hok h
theorem extendN {led : List (Addr × Obj)} {l b : Addr} {vs xs : List Value} {ep eb : Nat} {Q : Value → Shared → Prop} (F : Fr h₀ L s.heap m) (N : News h₀ L s.heap led) (hl : (l, PySem.W.listOf (List.toArray vs) ep) ∈ led) (hb : (b, PySem.W.listOf (List.toArray xs) eb) ∈ led) (hz : vs.length + xs.length ≤ 1000)
    (h : ∀ h' n', Fr h₀ L h' m → (∀ nx, (∀ p ∈ nx, p ∈ led ∧ p.1 ≠ l) → News h₀ L h' ((l, PySem.W.listOf (List.toArray (vs ++ xs)) n') :: nx)) → Q .none { s with heap := h' }) :
    wpAny (model prog w) A (call (.builtin "list.extend") [.ref l, .ref b]) Q E s := by
  have zl := N _ hl
  have zb := N _ hb
  have hsl : sizeLine = 16777216 := by rw [sizeLine_eq]
  have q := PySem.IsL.update (n := ep) (items := List.toArray vs) zl.1 (· ++ List.toArray xs)
  have e1 : List.toArray vs ++ List.toArray xs = List.toArray (vs ++ xs) := by simp
  dsimp only at q
  rw [e1] at q
  have hT : s.TypeIs (.ref l) "list" := ⟨_, zl.1, rfl⟩
  have e2 : Builtin.List.listTooLong ((List.toArray vs).size + (List.toArray xs).size) = false := by
    unfold Builtin.List.listTooLong
    simp
    omega
  refine call_meets PySem.F.slot_list_extend hT PySem.F.entry_list_extend (PySem.F.args_list_extend_2 _ _) (PySem.AutoSeq1.list_extend_list_list_0 l (List.toArray vs) ep b (List.toArray xs) eb (by rw [e2, Bool.and_false]; exact Bool.false_ne_true) (by simp; omega) (by simp; omega)) ⟨zl.1, zb.1, ?_⟩
  have NN : ∀ nx : List (Addr × Obj), (∀ p ∈ nx, p ∈ led ∧ p.1 ≠ l) → News h₀ L (s.heap.update l (Obj.mapSeq fun x => x ++ List.toArray xs)) ((l, PySem.W.listOf (List.toArray (vs ++ xs)) (if ((List.toArray (vs ++ xs)).size == (List.toArray vs).size) = true then ep else ep + 1)) :: nx) := by
    intro nx hx p hp
    rcases List.mem_cons.mp hp with rfl | hp
    · exact ⟨q, zl.2⟩
    · obtain ⟨h1, h2⟩ := hx p hp
      exact ⟨(Heap.SameBut.update ..).extBut _ _ h2 (N p h1).1, (N p h1).2⟩
  exact h _ _ (F.change (Heap.SameBut.update ..) zl.2.1 zl.2.2) NN
end
theorem strs_app {as bs : List Value} {xs ys : List PySem.Str} (h : StrsAre as xs) (h' : StrsAre bs ys) : StrsAre (as ++ bs) (xs ++ ys) := by
  induction h with
  | nil => exact h'
  | cons y t _ ih => exact .cons y t ih
theorem strs_len {as : List Value} {xs : List PySem.Str} (h : StrsAre as xs) : as.length = xs.length := by
  induction h with
  | nil => rfl
  | cons y t _ ih => simp [ih]
theorem strs_get {as : List Value} {xs : List PySem.Str} (h : StrsAre as xs) : ∀ (i : Nat) (x : PySem.Str), xs[i]? = some x → ∃ t, as[i]? = some (.str x t) := by
  induction h with
  | nil => intro i x e; cases e
  | cons y t _ ih =>
    intro i x e
    cases i with
    | zero => cases e; exact ⟨t, rfl⟩
    | succ i => exact ih i x e
noncomputable def lessL (as : List Addr) (news : List (Addr × Obj)) : List (Addr × Obj) := news.filter fun p => !(as.contains p.1)
theorem mem_lessL {as : List Addr} {news : List (Addr × Obj)} {p : Addr × Obj} : p ∈ lessL as news ↔ p ∈ news ∧ p.1 ∉ as := by
  unfold lessL
  rw [List.mem_filter]
  simp
theorem HT.lessL {h₀ h : Heap} {L t d l : Addr} {news : List (Addr × Obj)} {rows : List (PySem.Str × PySem.Str)} {as : List Addr} (N : News h₀ L h news) (hT : HT news t d l rows)
    (ha : ∀ a ∈ as, a ≠ l ∧ ∃ o, (a, o) ∈ news ∧ ((o.cls ≠ .type "tuple" ∧ o.cls ≠ .type "dict" ∧ o.cls ≠ .ref 242) ∨ ∃ x, o.data = Data.cell x)) : HT (lessL as news) t d l rows := by
  have off : ∀ p ∈ news, p.1 ≠ l → (p.2.cls = .type "tuple" ∨ p.2.cls = .type "dict" ∨ p.2.cls = .ref 242) → (∀ x, p.2.data ≠ Data.cell x) → p ∈ Mine.lessL as news := by
    intro p hp _ hc hcell
    refine mem_lessL.mpr ⟨hp, fun hm => ?_⟩
    obtain ⟨_, o, ho, h123⟩ := ha _ hm
    have e1 := (N _ hp).1
    have e2 := (N _ ho).1
    rw [e1] at e2
    have e3 := congrArg Obj.cls (Option.some.inj e2)
    have e4 := congrArg Obj.data (Option.some.inj e2)
    dsimp only at e3 e4
    rcases h123 with ⟨h1, h2, h3⟩ | ⟨x, hx⟩
    rotate_left
    · exact hcell x (e4.trans hx)
    rcases hc with hc | hc | hc
    · exact h1 (e3.symm.trans hc)
    · exact h2 (e3.symm.trans hc)
    · exact h3 (e3.symm.trans hc)
  obtain ⟨ht, ⟨hs, tk, n, hd⟩, vs, ep, hl, hr⟩ := hT
  have hlm : (l, PySem.W.listOf (List.toArray vs) ep) ∈ Mine.lessL as news := mem_lessL.mpr ⟨hl, fun hm => (ha _ hm).1 rfl⟩
  refine ⟨off _ ht (ne_cls N ht hl ?_) (.inr (.inr rfl)) (fun x e => by cases e), ⟨hs, tk, n, off _ hd (ne_cls N hd hl ?_) (.inr (.inl rfl)) (fun x e => by cases e)⟩, vs, ep, hlm, hr.mono ?_⟩
  · show Value.ref 242 ≠ Value.type "list"
    intro e; cases e
  · show Value.type "dict" ≠ Value.type "list"
    decide
  · rintro v r ⟨a, n, tk, tx, e, hm⟩
    exact ⟨a, n, tk, tx, e, off _ hm (ne_cls N hm hl (by show Value.type "tuple" ≠ Value.type "list"; decide)) (.inl rfl) (fun x e => by cases e)⟩
theorem Fr.tokI {h₀ h : Heap} {L : Addr} {x : PySem.Str} {n : Int} {t : Tok} {rest : PySem.Str → Option Value} (F : Fr h₀ L h (fun y => if y = x then some (Value.int n t) else rest y)) : ∃ t', Fr h₀ L h (fun y => if y = x then some (Value.int n t') else rest y) := ⟨t, F⟩
theorem tokGen {α : Type} {M : Model} {A : Around} {c : Sem α} {Q : α → Shared → Prop} {E : Value → Shared → Prop} {hp : Heap} {g : Array GenState} {dr : Drawn} {k : Nat} {o : OsState} (H : ∀ k, wpAny M A c Q E ⟨hp, g, dr, k, o⟩) : wpAny M A c Q E ⟨hp, g, dr, k, o⟩ := H k
theorem regroup {h₀ h : Heap} {L l : Addr} {own rest n' : List (Addr × Obj)} (N : News h₀ L h n') (hown : ∀ p ∈ own, p ∈ n') (hU : ∀ p ∈ rest, p.1 ≠ l → p ∈ n') (hoff : ∀ p ∈ rest, p.1 ∉ own.map (·.1)) :
    News h₀ L h (own ++ lessL (own.map (·.1)) n') ∧ (∀ p ∈ rest, p.1 ≠ l → p ∈ lessL (own.map (·.1)) n') ∧ ∀ p ∈ lessL (own.map (·.1)) n', p.1 ∉ own.map (·.1) := by
  refine ⟨fun p hp => ?_, fun p hp hl => mem_lessL.mpr ⟨hU p hp hl, hoff p hp⟩, fun p hp => (mem_lessL.mp hp).2⟩
  rcases List.mem_append.mp hp with hp | hp
  · exact N p (hown p hp)
  · exact N p (mem_lessL.mp hp).1
theorem putOwn {h₀ h : Heap} {L l : Addr} {o o' : Obj} {A1 A2 rest : List (Addr × Obj)} (hnd : ((A1 ++ (l, o) :: A2).map (·.1)).Nodup) (off : ∀ p ∈ rest, p.1 ∉ (A1 ++ (l, o) :: A2).map (·.1))
    (N : ∀ nx : List (Addr × Obj), (∀ p ∈ nx, p ∈ A1 ++ (l, o) :: A2 ++ rest ∧ p.1 ≠ l) → News h₀ L h ((l, o') :: nx)) : News h₀ L h (A1 ++ (l, o') :: A2 ++ rest) := by
  rw [List.map_append, List.map_cons, List.nodup_append] at hnd
  obtain ⟨_, h2, h3⟩ := hnd
  rw [List.nodup_cons] at h2
  have N1 := N (A1 ++ A2 ++ rest) (fun p hp => by
    rcases List.mem_append.mp hp with hp | hp
    · rcases List.mem_append.mp hp with hp | hp
      · exact ⟨List.mem_append.mpr (.inl (List.mem_append.mpr (.inl hp))), h3 _ (List.mem_map_of_mem (f := (·.1)) hp) _ (.head _)⟩
      · exact ⟨List.mem_append.mpr (.inl (List.mem_append.mpr (.inr (.tail _ hp)))), fun e => h2.1 (e ▸ List.mem_map_of_mem (f := (·.1)) hp)⟩
    · exact ⟨List.mem_append.mpr (.inr hp), fun e => off p hp (by rw [List.map_append, List.map_cons]; exact List.mem_append.mpr (.inr (e ▸ .head _)))⟩)
  intro p hp
  rcases List.mem_append.mp hp with hp | hp
  · rcases List.mem_append.mp hp with hp | hp
    · exact N1 p (.tail _ (List.mem_append.mpr (.inl (List.mem_append.mpr (.inl hp)))))
    · rcases List.mem_cons.mp hp with rfl | hp
      · exact N1 _ (.head _)
      · exact N1 p (.tail _ (List.mem_append.mpr (.inl (List.mem_append.mpr (.inr hp)))))
  · exact N1 p (.tail _ (List.mem_append.mpr (.inr hp)))
inductive Mk : Nat → Prop
  | mk (n : Nat) : Mk n
section
variable {prog : Program} {w : World} {A : Around} {E : Value → Shared → Prop} {s : Shared} {value slice : PySem.Expr} {l : Addr} {v₀ v₁ : Value} {u : Tok} {Q : Value → Shared → Prop}
theorem item0 (hl : s.heap.IsList l #[v₀, v₁]) (h : Q v₀ s)
    (hs : subscripted slice false (.ref l) (.int 0 u) = operate [.ref l, .int 0 u] (getItem (.ref l) (.int 0 u)) := by with_unfolding_all rfl) :
    wpAny (model prog w) A (subscriptTail value slice (.ref l) (.int 0 u)) Q E s := itemAny hl (by decide) (by decide) rfl h hs
theorem item1 (hl : s.heap.IsList l #[v₀, v₁]) (h : Q v₁ s)
    (hs : subscripted slice false (.ref l) (.int 1 u) = operate [.ref l, .int 1 u] (getItem (.ref l) (.int 1 u)) := by with_unfolding_all rfl) :
    wpAny (model prog w) A (subscriptTail value slice (.ref l) (.int 1 u)) Q E s := itemAny hl (by decide) (by decide) rfl h hs
end
theorem allLt_mem {d : Addr} {l : List (Addr × Obj)} (h : AllLt d l) : ∀ p ∈ l, @LT.lt Nat _ p.1 d := by
  induction l with
  | nil => intro p hp; cases hp
  | cons q r ih =>
    intro p hp
    cases hp with
    | head => exact h.1
    | tail _ hp => exact ih h.2 p hp
section
variable {prog : Program} {w : World} {A : Around} {h₀ : Heap} {L : Addr} {m : PySem.Str → Option Value}
theorem srcL0 {env : Env} {tgt : PySem.Expr} {ifs : List PySem.Expr} {scope : Scope} {cl : List (PySem.Str × Addr)} {emit : Addr → Addr → Sem Unit} {Q : Addr → List Value → List (Addr × Obj) → Shared → Prop} {s₁ : Shared} {l : Addr} {vs : List Value} {nn : Nat} {news : List (Addr × Obj)} (J : Nat → List Value → Prop)
    (hh : A.handled = none) (F : Fr h₀ L s₁.heap m) (N : News h₀ L s₁.heap news) (hl : (l, PySem.W.listOf vs.toArray nn) ∈ news) (hJ : J 0 [])
    (turn : ∀ i v ys I oI C oC D m₂ h tk (E' : Value → Shared → Prop), vs[i]? = some v → J i ys → ys.length ≤ sizeLine → (∀ p ∈ news, p.1 ≠ I ∧ p.1 ≠ C ∧ p.1 ≠ D) → (I ≠ C ∧ I ≠ D ∧ C ≠ D) → Fr h₀ L h m → News h₀ L h ((I, oI) :: (C, oC) :: (D, lsO ys) :: news) → NsObj oC m₂ →
      wpAny (model prog w) A (assign tgt (compEnvC scope cl C env) v) (fun _ s₃ => wpAny (model prog w) A (tests ifs (compEnvC scope cl C env)) (fun ok s₄ =>
        if ok = true then wpAny (model prog w) A (emit C D) (fun _ s₅ => CEnd h₀ L m s₁ I oI C D (fun _ => True) (fun ys nx => nx = news ∧ J (i + 1) ys) s₅) E' s₄ else CEnd h₀ L m s₁ I oI C D (fun _ => True) (fun ys nx => nx = news ∧ J (i + 1) ys) s₄) E' s₃) E' { s₁ with heap := h, toks := tk })
    (done : ∀ D ys h tk, J vs.length ys → (∀ p ∈ news, p.1 ≠ D) → Fr h₀ L h m → News h₀ L h ((D, lsO ys) :: news) → Q D ys news { s₁ with heap := h, toks := tk }) :
    CSrcL prog w A h₀ L m env tgt ifs scope cl emit Q (.ref l) s₁ := by
  have up : ∀ i s₅ I oI C D, CEnd h₀ L m s₁ I oI C D (fun _ => True) (fun ys nx => nx = news ∧ J (i + 1) ys) s₅ → CEnd h₀ L m s₁ I oI C D (fun _ => True) (fun ys nx => (∀ p ∈ news, p ∈ nx) ∧ nx = news ∧ J (i + 1) ys) s₅ := by
    rintro i s₅ I oI C D ⟨h', tk, news', nx, oC, m₂, ys, e, F', N', h1, h2, h3, h4, h5, h6, h7, h8⟩
    exact ⟨h', tk, news', nx, oC, m₂, ys, e, F', N', h1, h2, h3, h4, h5, h6, fun p hp => h7 ▸ hp, h7, h8⟩
  refine srcL (fun i ys nx => nx = news ∧ J i ys) hh F N hl ⟨rfl, hJ⟩ ?_ ?_
  · rintro i v ys nx I oI C oC D m₂ h tk E' hv _ ⟨rfl, hJ'⟩ hz off hne F₁ N₁ hN₁
    refine wpAny_mono (turn i v ys I oI C oC D m₂ h tk E' hv hJ' hz off hne F₁ N₁ hN₁) (fun _ s₃ h₃ => wpAny_mono h₃ (fun ok s₄ h₄ => ?_) fun _ _ x => x) fun _ _ x => x
    cases ok with
    | false => exact up _ _ _ _ _ _ h₄
    | true => exact wpAny_mono h₄ (fun _ s₅ h₅ => up _ _ _ _ _ _ h₅) fun _ _ x => x
  · rintro D ys nx h tk ⟨rfl, hJ'⟩ _ hD F' N'
    exact done D ys h tk hJ' hD F' N'
end
section
variable {h₀ : Heap} {L : Addr} {m : PySem.Str → Option Value}
theorem elt_new {s₀ : Shared} {I C D : Addr} {oI oC : Obj} {M : (PySem.Str → Option Value) → Prop} {J : List Value → List (Addr × Obj) → Prop} {x : Value} {q : Addr × Obj} {nx : List (Addr × Obj)} {ys : List Value} {m₂ : PySem.Str → Option Value} {h' : Heap} {tk : Nat} (F : Fr h₀ L h' m) (N : News h₀ L h' (q :: (I, oI) :: (C, oC) :: (D, lsO ys) :: nx)) (hq : q.1 ≠ I ∧ q.1 ≠ C ∧ q.1 ≠ D) (off : ∀ p ∈ nx, p.1 ≠ I ∧ p.1 ≠ C ∧ p.1 ≠ D) (hC : NsObj oC m₂) (hM : M m₂) (hz : ys.length ≤ 1000) (hJ : J (ys ++ [x]) (q :: nx)) : EEnd h₀ L m s₀ I oI C D M J x { s₀ with heap := h', toks := tk } :=
  ⟨h', tk, _, q :: nx, oC, m₂, ys, rfl, F, N, .tail _ (.head _), .tail _ (.tail _ (.head _)), ⟨hC, hM⟩, .tail _ (.tail _ (.tail _ (.head _))), fun p hp => by
    rcases List.mem_cons.mp hp with rfl | hp
    · exact ⟨.head _, hq⟩
    · exact ⟨.tail _ (.tail _ (.tail _ (.tail _ hp))), off p hp⟩, by rw [sizeLine_eq]; omega, hJ⟩
end
noncomputable def DRow (news : List (Addr × Obj)) (v : Value) (r : List Nat × Int) : Prop := ∃ a n tk tx, v = Value.ref a ∧ (a, PySem.W.listOf #[Value.str (⟨r.1.toArray⟩ : PySem.Str) tk, Value.int r.2 tx] n) ∈ news
theorem DRow.mono {news news' : List (Addr × Obj)} {v : Value} {r : List Nat × Int} (h : DRow news v r) (hs : ∀ p ∈ news, p ∈ news') : DRow news' v r :=
  let ⟨a, n, tk, tx, e, hm⟩ := h
  ⟨a, n, tk, tx, e, hs _ hm⟩
theorem ne_obj {h₀ h : Heap} {L a b : Addr} {oa ob : Obj} {news : List (Addr × Obj)} (N : News h₀ L h news) (ha : (a, oa) ∈ news) (hb : (b, ob) ∈ news) (hc : oa.cls ≠ ob.cls ∨ oa.data ≠ ob.data) : a ≠ b := by
  rintro rfl
  have h1 := (N _ ha).1
  have h2 := (N _ hb).1
  rw [h1] at h2
  rcases hc with hc | hc
  · exact hc (congrArg Obj.cls (Option.some.inj h2))
  · exact hc (congrArg Obj.data (Option.some.inj h2))
theorem DRow.lessL {h₀ h : Heap} {L : Addr} {news : List (Addr × Obj)} {as : List Addr} (N : News h₀ L h news) (ha : ∀ a ∈ as, ∃ o, (a, o) ∈ news ∧ (o.cls ≠ .type "list" ∨ ∃ x, o.data = Data.cell x)) {v : Value} {r : List Nat × Int} (hr : DRow news v r) : DRow (Mine.lessL as news) v r := by
  obtain ⟨a, n, tk, tx, e, hm⟩ := hr
  refine ⟨a, n, tk, tx, e, mem_lessL.mpr ⟨hm, fun hq => ?_⟩⟩
  obtain ⟨o, ho, h1⟩ := ha _ hq
  refine ne_obj N hm ho ?_ rfl
  rcases h1 with h1 | ⟨x, h1⟩
  · exact .inl (Ne.symm h1)
  · refine .inr ?_
    rw [h1]
    intro e
    cases e
section
variable {prog : Program} {w : World} {A : Around} {E : Value → Shared → Prop} {s : Shared} {value slice : PySem.Expr} {l : Addr} {v₀ v₁ v₂ : Value} {u : Tok} {Q : Value → Shared → Prop}
theorem tri0 (hl : s.heap.IsList l #[v₀, v₁, v₂]) (h : Q v₀ s)
    (hs : subscripted slice false (.ref l) (.int 0 u) = operate [.ref l, .int 0 u] (getItem (.ref l) (.int 0 u)) := by with_unfolding_all rfl) :
    wpAny (model prog w) A (subscriptTail value slice (.ref l) (.int 0 u)) Q E s := itemAny hl (by decide) (by decide) rfl h hs
theorem tri1 (hl : s.heap.IsList l #[v₀, v₁, v₂]) (h : Q v₁ s)
    (hs : subscripted slice false (.ref l) (.int 1 u) = operate [.ref l, .int 1 u] (getItem (.ref l) (.int 1 u)) := by with_unfolding_all rfl) :
    wpAny (model prog w) A (subscriptTail value slice (.ref l) (.int 1 u)) Q E s := itemAny hl (by decide) (by decide) rfl h hs
theorem tri2 (hl : s.heap.IsList l #[v₀, v₁, v₂]) (h : Q v₂ s)
    (hs : subscripted slice false (.ref l) (.int 2 u) = operate [.ref l, .int 2 u] (getItem (.ref l) (.int 2 u)) := by with_unfolding_all rfl) :
    wpAny (model prog w) A (subscriptTail value slice (.ref l) (.int 2 u)) Q E s := itemAny hl (by decide) (by decide) rfl h hs
end
theorem Hold.m (n : Nat) {P : Prop} (_ : Mk n) (h : Hold P) : P := h
theorem Hold.callH {M : Model} {A : Around} {f : Addr} {pos : List Value} {kw : List (PySem.Str × Value)} {Q E : Value → Shared → Prop} {s : Shared} (_ : (Nat.beq f 242) = false) (h : Hold (wpAny M A (call (.ref f) pos kw) Q E s)) : wpAny M A (call (.ref f) pos kw) Q E s := h
theorem Hold.getM {M : Model} {A : Around} {x : Addr} {y : Sem Bool} {Q : Value × List Value → Shared → Prop} {E : Value → Shared → Prop} {s : Shared} (h : Hold (wpAny M A (getMethod (.ref x) (PySem.Str.ofString "search") y) Q E s)) : wpAny M A (getMethod (.ref x) (PySem.Str.ofString "search") y) Q E s := h
theorem Hold.swap {M : Model} {A : Around} {env : Env} {c : PySem.Expr} {e1 : List PySem.Expr} {k : Nat} {p1 p2 p3 : Pos} {ts : List PySem.Expr} {v : PySem.Expr} {r e : List Stmt} {Q : Flow → Shared → Prop} {E : Value → Shared → Prop} {s : Shared} (_ : Mk 14) (h : Hold (wpAny M A (exec (.If c (.Assign (.Tuple e1 k p1 :: ts) v p2 :: r) e p3) env) Q E s)) : wpAny M A (exec (.If c (.Assign (.Tuple e1 k p1 :: ts) v p2 :: r) e p3) env) Q E s := h
end Mine
namespace Mine
open PyProof.Rows.LCg (NsObj)
section
variable {prog : Program} {w : World} {A : Around} {E : Value → Shared → Prop} {s : Shared} {env : Env} {h₀ : Heap} {L : Addr} {m : PySem.Str → Option Value}
theorem cs1 {elt : PySem.Expr} {g1 : Comprehension} {tgt2 iter2 : PySem.Expr} {ifs2 : List PySem.Expr} {scope : Scope} {pos : Pos} {it acc : Value} {cenv : Env} {R : Result → Shared → Prop}
    (h0 : codeAny (model prog w) A (.compLoop (.ListComp elt [g1, ⟨tgt2, iter2, ifs2, 0⟩] scope pos) 1 it acc cenv) R s)
    (h : wpAny (model prog w) A (pyIter it) (fun it' s' => codeAny (model prog w) A (.compLoop (.ListComp elt [g1, ⟨tgt2, iter2, ifs2, 0⟩] scope pos) 1 it' acc cenv) R s')
      (notedBy (model prog w) A cenv fun x s' => R (.error x) s') s) :
    codeAny (model prog w) A (.compStart (.ListComp elt [g1, ⟨tgt2, iter2, ifs2, 0⟩] scope pos) 1 it acc cenv) R s := by
  refine codeAny_of_tree ?_
  show wpAny _ _ ((compStart (.ListComp elt [g1, ⟨tgt2, iter2, ifs2, 0⟩] scope pos) 1 it acc cenv).onRaise (fun x => do noteFrame x cenv; standAt theWindowsPlace)) _ _ s
  refine wpAny_notedAt ?_
  unfold compStart
  show wpAny _ _ (ask >>= _) _ _ s
  refine wpAny_bind (wpAny_askSetting (wpAny_ite ?_))
  split
  · first
      | exact wpAny_bind (wpAny_pure (wpAny_pure (And.intro rfl h0)))
      | exact wpAny_pure (And.intro rfl h0)
  · first
      | exact wpAny_bind (wpAny_rule (wpAny_bind (wpAny_standAt (wpAny_bind (wpAny_mono h (fun it' s' h' => wpAny_pure (And.intro rfl h')) fun _ _ x => x)))))
      | (refine wpAny_bind (wpAny_rule ?_); show wpAny _ _ (standAt iter2.pos >>= _) _ _ s; exact wpAny_bind (wpAny_standAt (wpAny_bind (wpAny_mono h (fun it' s' h' => wpAny_pure (And.intro rfl h')) fun _ _ x => x))))
theorem emit_two {elt tgt iter tgt2 iter2 : PySem.Expr} {ifs ifs2 : List PySem.Expr} {scope : Scope} {pos : Pos} {s₀ : Shared} {I C D : Addr} {oI oC : Obj} {M M' : (PySem.Str → Option Value) → Prop} {J : List Value → List (Addr × Obj) → Prop} {l : Addr} {vs : List Value} {nn : Nat} {news : List (Addr × Obj)} {cl : List (PySem.Str × Addr)} {h : Heap} {tk : Nat} {ys : List Value} {m₂ : PySem.Str → Option Value}
    (K : Nat → List Value → Prop) (hMM : ∀ mm, M mm → M' mm) (hh : A.handled = none) (hne : I ≠ C ∧ I ≠ D ∧ C ≠ D) (off : ∀ p ∈ news, p.1 ≠ I ∧ p.1 ≠ C ∧ p.1 ≠ D)
    (F : Fr h₀ L h m) (N : News h₀ L h ((I, oI) :: (C, oC) :: (D, lsO ys) :: news)) (hC : NsObj oC m₂) (hM : M m₂) (hl : (l, PySem.W.listOf vs.toArray nn) ∈ news) (hz : ys.length ≤ sizeLine) (hK : K 0 ys)
    (hev : ∀ (Q : Value → Shared → Prop) (E : Value → Shared → Prop), Q (.ref l) { s₀ with heap := h, toks := tk } → wpAny (model prog w) A (eval iter2 (compEnvC scope cl C env)) Q E { s₀ with heap := h, toks := tk })
    (hfs : ∀ x, foldedSetIterable iter2 (compEnvC scope cl C env) x = pure x)
    (turn : ∀ i v ys I2 oI2 oC m₂ h tk (E' : Value → Shared → Prop), vs[i]? = some v → K i ys → ys.length ≤ sizeLine → (∀ p ∈ (I, oI) :: news, p.1 ≠ I2 ∧ p.1 ≠ C ∧ p.1 ≠ D) → (I2 ≠ C ∧ I2 ≠ D ∧ C ≠ D) → Fr h₀ L h m → News h₀ L h ((I2, oI2) :: (C, oC) :: (D, lsO ys) :: (I, oI) :: news) → (NsObj oC m₂ ∧ M m₂) →
      wpAny (model prog w) A (assign tgt2 (compEnvC scope cl C env) v) (fun _ s₂ => wpAny (model prog w) A (tests ifs2 (compEnvC scope cl C env)) (fun ok s₃ =>
        if ok = true then wpAny (model prog w) A (emit1 elt (.ref D) (compEnvC scope cl C env)) (fun _ s₅ => CEnd h₀ L m s₀ I2 oI2 C D M (fun ys nx => nx = (I, oI) :: news ∧ K (i + 1) ys) s₅) E' s₃ else CEnd h₀ L m s₀ I2 oI2 C D M (fun ys nx => nx = (I, oI) :: news ∧ K (i + 1) ys) s₃) E' s₂) E' { s₀ with heap := h, toks := tk })
    (done : ∀ ys, K vs.length ys → J ys news) :
    wpAny (model prog w) A (emit2 (.ListComp elt [⟨tgt, iter, ifs, 0⟩, ⟨tgt2, iter2, ifs2, 0⟩] scope pos) iter2 (.ref D) (compEnvC scope cl C env)) (fun _ s₅ => CEnd h₀ L m s₀ I oI C D M' J s₅) E { s₀ with heap := h, toks := tk } := by
  have hmk : A.mark none = A := rfl
  unfold emit2
  refine wpAny_bind (hev _ _ ?_)
  refine wpAny_bind (wpAny_standAt ?_)
  rw [hfs]
  refine wpAny_bind (wpAny_pure ?_)
  have hol : h.get? l = some (PySem.W.listOf vs.toArray nn) := (N _ (.tail _ (.tail _ (.tail _ hl)))).1
  have hls : h.IsList l vs.toArray := ⟨_, hol, rfl, nn, rfl⟩
  have hlt : l < h.objs.size := Heap.lt_size hol
  refine wpAny_bind (wpAny_holding (wpAny_pyIter_list hls ?_))
  have up : ∀ b o, h.get? b = some o → (h.push { cls := .type "list_iterator", data := .fields #[.ref l, .int 0 0] }).get? b = some o := fun b o e => Heap.get?_push_of_some _ e
  have W := Walks.list (prog := prog) (w := w) hh h.objs.size l (Nat.ne_of_lt hlt) vs.toArray
  have hlen : vs.toArray.size = vs.length := by simp
  rw [hlen] at W
  have hst : (h.push { cls := .type "list_iterator", data := .fields #[.ref l, .int 0 0] }).IsListIter h.objs.size l 0 ∧ (h.push { cls := .type "list_iterator", data := .fields #[.ref l, .int 0 0] }).IsList l vs.toArray := ⟨⟨_, Heap.get?_push_size _ rfl, rfl, rfl⟩, hls.push _⟩
  have F2 : Fr h₀ L (h.push { cls := .type "list_iterator", data := .fields #[.ref l, .int 0 0] }) m := F.keeps up
  have N2 : News h₀ L (h.push { cls := .type "list_iterator", data := .fields #[.ref l, .int 0 0] }) ((C, oC) :: (D, lsO ys) :: (I, oI) :: news) := fun p hp => by
    have q : p ∈ (I, oI) :: (C, oC) :: (D, lsO ys) :: news := by
      rcases List.mem_cons.mp hp with rfl | hp
      · exact .tail _ (.head _)
      rcases List.mem_cons.mp hp with rfl | hp
      · exact .tail _ (.tail _ (.head _))
      rcases List.mem_cons.mp hp with rfl | hp
      · exact .head _
      · exact .tail _ (.tail _ (.tail _ hp))
    exact ⟨up _ _ (N p q).1, (N p q).2⟩
  have lt : ∀ p ∈ (I, oI) :: (C, oC) :: (D, lsO ys) :: news, p.1 < h.objs.size := fun p hp => Heap.lt_size (N p hp).1
  have hI2 : h₀.get? h.objs.size = none := next_is_new F
  have hoff2 : ∀ p ∈ (I, oI) :: news, p.1 ≠ h.objs.size ∧ p.1 ≠ C ∧ p.1 ≠ D := fun p hp => by
    rcases List.mem_cons.mp hp with rfl | hp
    · exact ⟨Nat.ne_of_lt (lt _ (.head _)), hne.1, hne.2.1⟩
    · exact ⟨Nat.ne_of_lt (lt _ (.tail _ (.tail _ (.tail _ hp)))), (off p hp).2⟩
  have hne2 : h.objs.size ≠ C ∧ h.objs.size ≠ D ∧ C ≠ D := ⟨Ne.symm (Nat.ne_of_lt (lt _ (.tail _ (.head _)))), Ne.symm (Nat.ne_of_lt (lt _ (.tail _ (.tail _ (.head _))))), hne.2.2⟩
  refine wpAny_bind (wpAny_runOwn ?_)
  rw [hmk]
  have loop : ∀ R : Result → Shared → Prop, (∀ s₅, CEnd h₀ L m s₀ I oI C D M' J s₅ → R (.ok .next) s₅) →
      codeAny (model prog w) A (.compLoop (.ListComp elt [⟨tgt, iter, ifs, 0⟩, ⟨tgt2, iter2, ifs2, 0⟩] scope pos) 1 (.ref h.objs.size) (.ref D) (compEnvC scope cl C env)) R { s₀ with heap := h.push { cls := .type "list_iterator", data := .fields #[.ref l, .int 0 0] }, toks := tk } := by
    intro R hR
    refine c_loop (I := h.objs.size) (C := C) (D := D) (news := (I, oI) :: news) (oC := oC) (m₂ := m₂) (ys := ys) (St := fun i h' => h'.IsListIter h.objs.size l i ∧ h'.IsList l vs.toArray) (S := fun nw => (l, PySem.W.listOf vs.toArray nn) ∈ nw) M (fun i ys nx => nx = (I, oI) :: news ∧ K i ys)
      (turn_two1 _ _ _ _ _ _ _ _ _ _ _ _) W (fun i v s Q E st q => letGo_listiter st.1 q) (fun i h st => by obtain ⟨o, e, _⟩ := st.1; exact ⟨o, e⟩)
      (fun i h h' o nw st e e' N' hl' => ⟨by obtain ⟨o', q, r⟩ := st.1; rw [e] at q; cases q; exact ⟨o, e', r⟩, ⟨_, (N' _ hl').1, rfl, nn, rfl⟩⟩) hst F2 N2 ⟨hC, hM⟩ (Nat.ne_of_lt F.ns.lt) hI2 hne2 hoff2 (.tail _ hl) hz ⟨rfl, hK⟩ ?_ ?_
    · rintro i v ys nx oI2 oC2 m₃ h3 tk3 E' hi hP ⟨rfl, hK'⟩ hS' hz' ho F₃ N₃ hN₃
      refine wpAny_mono (turn i v ys _ oI2 oC2 m₃ h3 tk3 E' (by simpa using hP) hK' hz' ho hne2 F₃ N₃ hN₃) (fun _ s₃ h₃ => wpAny_mono h₃ (fun ok s₄ h₄ => ?_) fun _ _ x => x) fun _ _ x => x
      have upc : ∀ s₅, CEnd h₀ L m s₀ h.objs.size oI2 C D M (fun ys nx => nx = (I, oI) :: news ∧ K (i + 1) ys) s₅ → CEnd h₀ L m { s₀ with heap := h.push { cls := .type "list_iterator", data := .fields #[.ref l, .int 0 0] }, toks := tk } h.objs.size oI2 C D M (fun ys nx => (l, PySem.W.listOf vs.toArray nn) ∈ nx ∧ nx = (I, oI) :: news ∧ K (i + 1) ys) s₅ := by
        rintro s₅ ⟨h', tk, news', nx, oC, m₂, ys, e, F', N', h1, h2, h3, h4, h5, h6, h7, h8⟩
        exact ⟨h', tk, news', nx, oC, m₂, ys, e, F', N', h1, h2, h3, h4, h5, h6, h7 ▸ .tail _ hl, h7, h8⟩
      cases ok with
      | false => exact upc _ h₄
      | true => exact wpAny_mono h₄ (fun _ s₅ h₅ => upc _ h₅) fun _ _ x => x
    · rintro ys nx oC2 m₃ h3 tk3 ⟨rfl, hK'⟩ hS' hz' ho F₃ N₃ hN₃
      refine hR _ ⟨h3, tk3, (C, oC2) :: (D, lsO ys) :: (I, oI) :: news, news, oC2, m₃, ys, rfl, F₃, N₃, .tail _ (.tail _ (.head _)), .head _, ⟨hN₃.1, hMM _ hN₃.2⟩, .tail _ (.head _), fun p hp => ⟨.tail _ (.tail _ (.tail _ hp)), off p hp⟩, hz', done ys hK'⟩
  refine cs1 (loop _ fun s₅ h₅ => wpAny_pure h₅) (W.self 0 _ _ _ hst (loop _ fun s₅ h₅ => wpAny_pure h₅))
noncomputable def TwoJ (pi : Addr × Obj) (news : List (Addr × Obj)) (K : List Value → List (Addr × Obj) → Prop) (ys : List Value) (nx : List (Addr × Obj)) : Prop :=
  ∃ nx' : List (Addr × Obj), pi ∈ nx ∧ (∀ p ∈ nx', p ∈ nx ∧ p.1 ≠ pi.1) ∧ (∀ p ∈ news, p ∈ nx') ∧ K ys nx'
theorem emit_twoG {elt tgt iter tgt2 iter2 : PySem.Expr} {ifs ifs2 : List PySem.Expr} {scope : Scope} {pos : Pos} {s₀ : Shared} {I C D : Addr} {oI oC : Obj} {M M' : (PySem.Str → Option Value) → Prop} {J : List Value → List (Addr × Obj) → Prop} {l : Addr} {vs : List Value} {nn : Nat} {news : List (Addr × Obj)} {cl : List (PySem.Str × Addr)} {h : Heap} {tk : Nat} {ys : List Value} {m₂ : PySem.Str → Option Value}
    (K : Nat → List Value → List (Addr × Obj) → Prop) (hMM : ∀ mm, M mm → M' mm) (hh : A.handled = none) (hne : I ≠ C ∧ I ≠ D ∧ C ≠ D) (off : ∀ p ∈ news, p.1 ≠ I ∧ p.1 ≠ C ∧ p.1 ≠ D)
    (F : Fr h₀ L h m) (N : News h₀ L h ((I, oI) :: (C, oC) :: (D, lsO ys) :: news)) (hC : NsObj oC m₂) (hM : M m₂) (hl : (l, PySem.W.listOf vs.toArray nn) ∈ news) (hz : ys.length ≤ sizeLine) (hK : K 0 ys news)
    (hev : ∀ (Q : Value → Shared → Prop) (E : Value → Shared → Prop), Q (.ref l) { s₀ with heap := h, toks := tk } → wpAny (model prog w) A (eval iter2 (compEnvC scope cl C env)) Q E { s₀ with heap := h, toks := tk })
    (hfs : ∀ x, foldedSetIterable iter2 (compEnvC scope cl C env) x = pure x)
    (turn : ∀ i v ys nx I2 oI2 oC m₂ h tk (E' : Value → Shared → Prop), vs[i]? = some v → K i ys nx → (∀ p ∈ news, p ∈ nx) → ys.length ≤ sizeLine → (∀ p ∈ (I, oI) :: nx, p.1 ≠ I2 ∧ p.1 ≠ C ∧ p.1 ≠ D) → (∀ p ∈ nx, p.1 ≠ I) → (I2 ≠ C ∧ I2 ≠ D ∧ C ≠ D) → Fr h₀ L h m → News h₀ L h ((I2, oI2) :: (C, oC) :: (D, lsO ys) :: (I, oI) :: nx) → (NsObj oC m₂ ∧ M m₂) →
      wpAny (model prog w) A (assign tgt2 (compEnvC scope cl C env) v) (fun _ s₂ => wpAny (model prog w) A (tests ifs2 (compEnvC scope cl C env)) (fun ok s₃ =>
        if ok = true then wpAny (model prog w) A (emit1 elt (.ref D) (compEnvC scope cl C env)) (fun _ s₅ => CEnd h₀ L m s₀ I2 oI2 C D M (TwoJ (I, oI) news (K (i + 1))) s₅) E' s₃ else CEnd h₀ L m s₀ I2 oI2 C D M (TwoJ (I, oI) news (K (i + 1))) s₃) E' s₂) E' { s₀ with heap := h, toks := tk })
    (done : ∀ ys nx, K vs.length ys nx → (∀ p ∈ news, p ∈ nx) → J ys nx) :
    wpAny (model prog w) A (emit2 (.ListComp elt [⟨tgt, iter, ifs, 0⟩, ⟨tgt2, iter2, ifs2, 0⟩] scope pos) iter2 (.ref D) (compEnvC scope cl C env)) (fun _ s₅ => CEnd h₀ L m s₀ I oI C D M' J s₅) E { s₀ with heap := h, toks := tk } := by
  have hmk : A.mark none = A := rfl
  unfold emit2
  refine wpAny_bind (hev _ _ ?_)
  refine wpAny_bind (wpAny_standAt ?_)
  rw [hfs]
  refine wpAny_bind (wpAny_pure ?_)
  have hol : h.get? l = some (PySem.W.listOf vs.toArray nn) := (N _ (.tail _ (.tail _ (.tail _ hl)))).1
  have hls : h.IsList l vs.toArray := ⟨_, hol, rfl, nn, rfl⟩
  have hlt : l < h.objs.size := Heap.lt_size hol
  refine wpAny_bind (wpAny_holding (wpAny_pyIter_list hls ?_))
  have up : ∀ b o, h.get? b = some o → (h.push { cls := .type "list_iterator", data := .fields #[.ref l, .int 0 0] }).get? b = some o := fun b o e => Heap.get?_push_of_some _ e
  have W := Walks.list (prog := prog) (w := w) hh h.objs.size l (Nat.ne_of_lt hlt) vs.toArray
  have hlen : vs.toArray.size = vs.length := by simp
  rw [hlen] at W
  have hst : (h.push { cls := .type "list_iterator", data := .fields #[.ref l, .int 0 0] }).IsListIter h.objs.size l 0 ∧ (h.push { cls := .type "list_iterator", data := .fields #[.ref l, .int 0 0] }).IsList l vs.toArray := ⟨⟨_, Heap.get?_push_size _ rfl, rfl, rfl⟩, hls.push _⟩
  have F2 : Fr h₀ L (h.push { cls := .type "list_iterator", data := .fields #[.ref l, .int 0 0] }) m := F.keeps up
  have N2 : News h₀ L (h.push { cls := .type "list_iterator", data := .fields #[.ref l, .int 0 0] }) ((C, oC) :: (D, lsO ys) :: (I, oI) :: news) := fun p hp => by
    have q : p ∈ (I, oI) :: (C, oC) :: (D, lsO ys) :: news := by
      rcases List.mem_cons.mp hp with rfl | hp
      · exact .tail _ (.head _)
      rcases List.mem_cons.mp hp with rfl | hp
      · exact .tail _ (.tail _ (.head _))
      rcases List.mem_cons.mp hp with rfl | hp
      · exact .head _
      · exact .tail _ (.tail _ (.tail _ hp))
    exact ⟨up _ _ (N p q).1, (N p q).2⟩
  have lt : ∀ p ∈ (I, oI) :: (C, oC) :: (D, lsO ys) :: news, p.1 < h.objs.size := fun p hp => Heap.lt_size (N p hp).1
  have hI2 : h₀.get? h.objs.size = none := next_is_new F
  have hoff2 : ∀ p ∈ (I, oI) :: news, p.1 ≠ h.objs.size ∧ p.1 ≠ C ∧ p.1 ≠ D := fun p hp => by
    rcases List.mem_cons.mp hp with rfl | hp
    · exact ⟨Nat.ne_of_lt (lt _ (.head _)), hne.1, hne.2.1⟩
    · exact ⟨Nat.ne_of_lt (lt _ (.tail _ (.tail _ (.tail _ hp)))), (off p hp).2⟩
  have hne2 : h.objs.size ≠ C ∧ h.objs.size ≠ D ∧ C ≠ D := ⟨Ne.symm (Nat.ne_of_lt (lt _ (.tail _ (.head _)))), Ne.symm (Nat.ne_of_lt (lt _ (.tail _ (.tail _ (.head _))))), hne.2.2⟩
  refine wpAny_bind (wpAny_runOwn ?_)
  rw [hmk]
  have loop : ∀ R : Result → Shared → Prop, (∀ s₅, CEnd h₀ L m s₀ I oI C D M' J s₅ → R (.ok .next) s₅) →
      codeAny (model prog w) A (.compLoop (.ListComp elt [⟨tgt, iter, ifs, 0⟩, ⟨tgt2, iter2, ifs2, 0⟩] scope pos) 1 (.ref h.objs.size) (.ref D) (compEnvC scope cl C env)) R { s₀ with heap := h.push { cls := .type "list_iterator", data := .fields #[.ref l, .int 0 0] }, toks := tk } := by
    intro R hR
    refine c_loop (I := h.objs.size) (C := C) (D := D) (news := (I, oI) :: news) (oC := oC) (m₂ := m₂) (ys := ys) (St := fun i h' => h'.IsListIter h.objs.size l i ∧ h'.IsList l vs.toArray) (S := fun nw => (l, PySem.W.listOf vs.toArray nn) ∈ nw) M (fun i ys nx => TwoJ (I, oI) news (K i) ys nx)
      (turn_two1 _ _ _ _ _ _ _ _ _ _ _ _) W (fun i v s Q E st q => letGo_listiter st.1 q) (fun i h st => by obtain ⟨o, e, _⟩ := st.1; exact ⟨o, e⟩)
      (fun i h h' o nw st e e' N' hl' => ⟨by obtain ⟨o', q, r⟩ := st.1; rw [e] at q; cases q; exact ⟨o, e', r⟩, ⟨_, (N' _ hl').1, rfl, nn, rfl⟩⟩) hst F2 N2 ⟨hC, hM⟩ (Nat.ne_of_lt F.ns.lt) hI2 hne2 hoff2 (.tail _ hl) hz ⟨news, .head _, fun p hp => ⟨.tail _ hp, (off p hp).1⟩, fun _ hp => hp, hK⟩ ?_ ?_
    · rintro i v ys nx oI2 oC2 m₃ h3 tk3 E' hi hP ⟨nx', hpi, hsub, hnw, hK'⟩ hS' hz' ho F₃ N₃ hN₃
      have N₄ : News h₀ L h3 ((h.objs.size, oI2) :: (C, oC2) :: (D, lsO ys) :: (I, oI) :: nx') := fun p hp => N₃ p (by
        rcases List.mem_cons.mp hp with rfl | hp
        · exact .head _
        rcases List.mem_cons.mp hp with rfl | hp
        · exact .tail _ (.head _)
        rcases List.mem_cons.mp hp with rfl | hp
        · exact .tail _ (.tail _ (.head _))
        rcases List.mem_cons.mp hp with rfl | hp
        · exact .tail _ (.tail _ (.tail _ hpi))
        · exact .tail _ (.tail _ (.tail _ (hsub p hp).1)))
      have ho' : ∀ p ∈ (I, oI) :: nx', p.1 ≠ h.objs.size ∧ p.1 ≠ C ∧ p.1 ≠ D := fun p hp => by
        rcases List.mem_cons.mp hp with rfl | hp
        · exact ho _ hpi
        · exact ho _ (hsub p hp).1
      refine wpAny_mono (turn i v ys nx' _ oI2 oC2 m₃ h3 tk3 E' (by simpa using hP) hK' hnw hz' ho' (fun p hp => (hsub p hp).2) hne2 F₃ N₄ hN₃) (fun _ s₃ h₃ => wpAny_mono h₃ (fun ok s₄ h₄ => ?_) fun _ _ x => x) fun _ _ x => x
      have upc : ∀ s₅, CEnd h₀ L m s₀ h.objs.size oI2 C D M (TwoJ (I, oI) news (K (i + 1))) s₅ → CEnd h₀ L m { s₀ with heap := h.push { cls := .type "list_iterator", data := .fields #[.ref l, .int 0 0] }, toks := tk } h.objs.size oI2 C D M (fun ys nx => (l, PySem.W.listOf vs.toArray nn) ∈ nx ∧ TwoJ (I, oI) news (K (i + 1)) ys nx) s₅ := by
        rintro s₅ ⟨h', tk, news', nx, oC, m₂, ys, e, F', N', h1, h2, h3, h4, h5, h6, h7⟩
        refine ⟨h', tk, news', nx, oC, m₂, ys, e, F', N', h1, h2, h3, h4, h5, h6, ?_, h7⟩
        obtain ⟨nx₂, _, q2, q3, _⟩ := h7
        exact (q2 _ (q3 _ hl)).1
      cases ok with
      | false => exact upc _ h₄
      | true => exact wpAny_mono h₄ (fun _ s₅ h₅ => upc _ h₅) fun _ _ x => x
    · rintro ys nx oC2 m₃ h3 tk3 ⟨nx', hpi, hsub, hnw, hK'⟩ hS' hz' ho F₃ N₃ hN₃
      refine hR _ ⟨h3, tk3, (C, oC2) :: (D, lsO ys) :: nx, nx', oC2, m₃, ys, rfl, F₃, N₃, .tail _ (.tail _ hpi), .head _, ⟨hN₃.1, hMM _ hN₃.2⟩, .tail _ (.head _), fun p hp => ⟨.tail _ (.tail _ (hsub p hp).1), (hsub p hp).2, (ho p (hsub p hp).1).2⟩, hz', done ys nx' hK' hnw⟩
  refine cs1 (loop _ fun s₅ h₅ => wpAny_pure h₅) (W.self 0 _ _ _ hst (loop _ fun s₅ h₅ => wpAny_pure h₅))
end
end Mine
namespace Mine
set_option maxHeartbeats 8000000
local macro_rules | `(tactic| k_room) => `(tactic| ktr_room)
local macro_rules | `(tactic| ktr_member) => `(tactic| assumption)
local macro_rules | `(tactic| walk_at "pyIter ref") => `(tactic| refine Hold.out ?_)
local macro_rules | `(tactic| walk_at "MPost") => `(tactic| (dsimp only [MPost]))
local macro_rules | `(tactic| k_all) => `(tactic| exact allNe (by assumption) (by omega))
local macro_rules | `(tactic| walk_at "delItem ref str") => `(tactic| refine Hold.out ?_)
local macro_rules | `(tactic| walk_at "binaryOp Mult int int") => `(tactic| (refine mul_int ?_ (by assumption)))
local macro_rules | `(tactic| walk_at "call builtin:list.append") => `(tactic| refine Hold.out ?_)
local macro_rules | `(tactic| walk_at "call builtin:re.Pattern.search") => `(tactic| refine Hold.out ?_)
local macro_rules | `(tactic| walk_at "call ref") => `(tactic| refine Hold.callH (by decide) ?_)
section
local macro_rules | `(tactic| walk_at "getMethod ref") => `(tactic| with_reducible refine Hold.getM ?_)
theorem c_conv (W w) (t : Addr) (x : PySem.Str) (tx : Tok) (nm : Bool) (news : Led) (hx : x.length ≤ 1000) (hc : Clean x) :
    Ctr W w 141 ⟨[.ref t, .str x tx], [(PySem.Str.ofString "name", .bool nm)]⟩ news 3 20 (fun v news' => news = news' ∧ v = .str x tx) := by
  unfold Ctr
  intro dp ut gd cn nms ig ic mo a ccd cl outer A₀ base h₀ L m s R B F X N T hd hu hret
  k_dflt k_enter
  k_steps
  all_goals unfold Hold
  all_goals k_dflt (refine' rx_getMethod ?k1 ?k2 ?k3 ?_; (case k1 => k_asm); (case k2 => k_asm); (case k3 => k_is); k_whole)
  all_goals k_steps
  all_goals unfold Hold
  all_goals k_dflt (first
    | (refine' rx_call1 ?k1 ?k2 ?k3 ?k4 ?k5 ?k6 ?k7 ?_; (case k1 => k_asm); (case k2 => k_asm); (case k3 => k_is); (case k4 => k_is); (case k5 => decide +kernel); (case k6 => omega); (case k7 => assumption); k_whole)
    | (refine' rx_call2 ?k1 ?k2 ?k3 ?k4 ?k5 ?k6 ?k7 ?_; (case k1 => k_asm); (case k2 => k_asm); (case k3 => k_is); (case k4 => k_is); (case k5 => decide +kernel); (case k6 => omega); (case k7 => assumption); k_whole))
  all_goals k_steps
  all_goals exact hret _ _ _ _ (by k_asm) (by k_asm) ⟨rfl, rfl⟩
end
section
noncomputable def GetV (rows : List (PySem.Str × PySem.Str)) (x : PySem.Str) (v : Value) : Prop := match rows.find? (fun r => Txt.lower r.1 == Txt.lower x) with
  | some r => ∃ t, v = .str r.2 t
  | none => v = .none
theorem find_at {α : Type} {l : List α} {p : α → Bool} {i : Nat} {a : α} (hi : l[i]? = some a) (hp : p a = true) (hn : ∀ j b, j < i → l[j]? = some b → ¬ p b = true) : l.find? p = some a := by
  induction l generalizing i with
  | nil => cases hi
  | cons c r ih =>
    cases i with
    | zero => cases hi; simp [hp]
    | succ i =>
      have h0 := hn 0 c (Nat.succ_pos _) rfl
      rw [List.find?_cons_of_neg h0]
      exact ih hi fun j b hj hb => hn (j + 1) b (Nat.succ_lt_succ hj) hb
theorem find_none_at {α : Type} {l : List α} {p : α → Bool} (hn : ∀ (j : Nat) (b : α), l[j]? = some b → ¬ p b = true) : l.find? p = none := by
  rw [List.find?_eq_none]
  intro x hx
  obtain ⟨j, hj⟩ := List.getElem?_of_mem hx
  exact hn j x hj
theorem c_get (W w) (t d l : Addr) (x : PySem.Str) (tx : Tok) (news : Led) (hx : x.length ≤ 100) (hc : Clean (Txt.lower x)) (hs tk n vs ep) (ht : (t, instObj 242 d) ∈ news) (hd : (d, dictOf [⟨hs, .str (PySem.Str.ofString "_headers") tk, .ref l⟩] n) ∈ news) (hl : (l, PySem.W.listOf (List.toArray vs) ep) ∈ news)
   (rows : List (PySem.Str × PySem.Str)) (hr : A2 (RowAt news) vs rows) (hk : ∀ r ∈ rows, r.1.length ≤ 100) :
    Ctr W w 189 ⟨[.ref t, .str x tx], []⟩ news 5 40 (fun v news' => news = news' ∧ GetV rows x v) := by
  unfold Ctr
  intro dp ut gd cn nms ig ic mo a ccd cl outer A₀ base h₀ L m s R B F X N T hd hu hret
  k_dflt k_enter
  (rename Fr _ _ _ _ => lF'); replace lF' := Fr.nm lF' [(PySem.Str.ofString "default", Value.none), (PySem.Str.ofString "name", .str x tx), (PySem.Str.ofString "self", .ref t)] (by kernel_rfl)
  k_steps
  unfold Hold
  k_dflt (refine Ctr.call ⟨by k_asm, by k_asm, by k_asm, by k_asm, by k_asm, by ktr_room, by ktr_units⟩ (c_conv _ _ _ _ _ _ _ (by omega) (by assumption)) ?_)
  intro v' n' h' tk' F' N' P'
  obtain ⟨e1, e2⟩ := P'
  subst e1 e2
  (try k_sweep)
  k_steps
  (rename Fr _ _ _ _ => lF')
  refine For_turns lF' ?_ (fun _ => rfl) (by first | passes_own | with_unfolding_all passes_own)
  k_steps
  unfold Hold
  (rename Fr _ _ _ _ => lF'); (rename News _ _ _ _ => lN')
  refine m_loop (σ := Unit) (fun _ => []) [PySem.Str.ofString "k", PySem.Str.ofString "v"] (fun i _ nx => nx = news ∧ (∀ j r, j < i → rows[j]? = some r → ¬ (Txt.lower r.1 == Txt.lower x) = true)) () rfl hl lF' lN' (fun _ hp => (nomatch hp)) ⟨rfl, fun j r hj => absurd hj (Nat.not_lt_zero _)⟩ ?_ ?_
  · rintro i v _ u nx I it h tk hv ⟨rfl, hno⟩ hit hlx hnI F₁ N₁
    obtain ⟨r, hri, b, nb, tk1, tx1, rfl, hm⟩ := hr.get hv
    have hrl := hk r (List.mem_of_getElem? hri)
    k_steps
    · (rename News _ _ _ _ => lN')
      refine hret _ _ _ _ (by k_asm) (cb_drop lN' fun p hp => .tail _ hp) ⟨rfl, ?_⟩
      have hf : rows.find? (fun r => Txt.lower r.1 == Txt.lower x) = some r := find_at hri (by (show (Txt.lower r.1 == Txt.lower x) = true); assumption) (fun j r' hj hr' => hno j r' hj hr')
      unfold GetV
      rw [hf]
      exact ⟨_, rfl⟩
    · exact m_end () nx (by k_asm) (by k_asm) (.head _) (fun p hp => ⟨.tail _ hp, .inl (hnI p hp)⟩) hlx (fun _ hp => (nomatch hp)) (by first | (intro z h2 h3; (try simp only [List.forall_mem_cons, List.not_mem_nil, false_implies, implies_true, and_true] at h2); (repeat (refine (if_neg (by first | exact ne_ct h3 (by decide) | exact h2 | exact h2.1 | exact h2.2 | exact h2.2.1 | exact h2.2.2 | exact h2.2.2.1 | exact h2.2.2.2 | (rw [h3]; exact Bool.false_ne_true))).trans ?_)); (first | rfl | ((try simp only [kstB, h2, h3, Bool.false_eq_true, if_false, List.contains_nil]); done) | ((try simp only [kstB, h2, h3, Bool.false_eq_true, if_false, List.contains_nil]); rfl))) | ksw_same) ⟨rfl, fun j r' hj hr' => by
        rcases Nat.lt_succ_iff_lt_or_eq.mp hj with h1 | h1
        · exact hno j r' h1 hr'
        · subst h1
          rw [hri] at hr'
          cases hr'
          exact Bool.eq_false_iff.mp (by assumption)⟩
  · rintro _ u nx h tk ⟨rfl, hno⟩ hlx F₁ N₁
    k_steps
    refine hret _ _ _ _ (by k_asm) (by k_asm) ⟨rfl, ?_⟩
    have hf : rows.find? (fun r => Txt.lower r.1 == Txt.lower x) = none := find_none_at (fun j r' hr' => hno j r' (by rw [hr.length]; exact (List.getElem?_eq_some_iff.mp hr').1) hr')
    unfold GetV
    rw [hf]
theorem GetV.or {rows : List (PySem.Str × PySem.Str)} {x : PySem.Str} {v : Value} (h : GetV rows x v) : (∃ r t, rows.find? (fun r => Txt.lower r.1 == Txt.lower x) = some r ∧ v = .str r.2 t) ∨ (rows.find? (fun r => Txt.lower r.1 == Txt.lower x) = none ∧ v = .none) := by
  unfold GetV at h
  split at h
  · rename_i r e; obtain ⟨t, h⟩ := h; exact .inl ⟨r, t, e, h⟩
  · rename_i e; exact .inr ⟨e, h⟩
theorem c_getH (W w) (t d l : Addr) (x : PySem.Str) (tx : Tok) (news : Led) (hx : x.length ≤ 100) (hc : Clean (Txt.lower x)) (rows : List (PySem.Str × PySem.Str)) (hT : HT news t d l rows) (hk : ∀ r ∈ rows, r.1.length ≤ 100) :
    Ctr W w 189 ⟨[.ref t, .str x tx], []⟩ news 5 40 (fun v news' => news = news' ∧ GetV rows x v) := by
  obtain ⟨ht, ⟨hs, tk, n, hd⟩, vs, ep, hl, hr⟩ := hT
  exact c_get W w t d l x tx news hx hc hs tk n vs ep ht hd hl rows hr hk
local macro_rules | `(tactic| walk_at "eval ListComp Name cons") => `(tactic| refine Hold.out ?_)
theorem c_del (W w) (t d l : Addr) (x : PySem.Str) (tx : Tok) (news : Led) (hx : x.length ≤ 100) (hc : Clean (Txt.lower x)) (rows : List (PySem.Str × PySem.Str)) (hT : HT news t d l rows) (hk : ∀ r ∈ rows, r.1.length ≤ 100) (hlen : rows.length ≤ 500) :
    Ctr W w 160 ⟨[.ref t, .str x tx], []⟩ news 5 40 (fun v news' => v = .none ∧ HT news' t d l (rows.filter fun r => Txt.lower r.1 != Txt.lower x) ∧ Ups l news news') := by
  obtain ⟨ht, ⟨hs, tk, n, hd⟩, vs, ep, hl, hr⟩ := id hT
  unfold Ctr
  intro dp ut gd cn nms ig ic mo a ccd cl outer A₀ base h₀ L m s R B F X N T hdp hup hret
  k_dflt k_enter
  k_steps
  unfold Hold
  k_dflt (refine Ctr.call ⟨by k_asm, by k_asm, by k_asm, by k_asm, by k_asm, by ktr_room, by ktr_units⟩ (c_conv _ _ _ _ _ _ _ (by omega) (by assumption)) ?_)
  intro v' n' h' tk' F' N' P'
  obtain ⟨e1, e2⟩ := P'
  subst e1 e2
  (try k_sweep)
  k_steps
  unfold Hold
  (rename Fr _ _ _ _ => lF'); k_dflt (refine' c_eval (emit := fun C D => emit1 _ (.ref D) (compEnvC _ _ C _)) lF' (fun C D I => turn_one _ _ _ _ _ _ _ _ _) ?hclos ?hcell ?hkind ?hnames ?hs ?_; (case hclos => with_unfolding_all rfl); (case hcell => decide); (case hkind => rfl); (case hnames => decide); (case hs => intro _; rfl))
  k_steps
  (rename Fr _ _ _ _ => lF'); (rename News _ _ _ _ => lN')
  refine Or.inl (srcL (fun i ys nx => A2 (RowAt news) ys ((rows.take i).filter fun r => Txt.lower r.1 != Txt.lower x)) rfl lF' lN' (.tail _ hl) .nil ?_ ?_)
  · intro i v ys nx I oI C oC D m₂ h tk E' hv hsub hJ hz off hne F₁ N₁ hN₁
    have hcN := hsub _ (.head _)
    obtain ⟨r, hri, b, nb, tk1, tx1, rfl, hm⟩ := hr.get hv
    have hmx := hsub _ (.tail _ hm)
    have hrl := hk r (List.mem_of_getElem? hri)
    refine casg1 F₁ N₁ hN₁ hne off (by rfl) rfl fun oC' mN h' tk' hN₂ hkv hoth F₂ N₂ => ?_
    dsimp only
    refine tests1 ?_
    k_steps
    · refine emit_one hne ?_
      k_steps
      have hq : (Txt.lower r.1 != Txt.lower x) = true := by assumption
      exact elt_end (by k_asm) (by k_asm) off hN₂ trivial (by have := hJ.length; have := List.length_filter_le (fun r => Txt.lower r.1 != Txt.lower x) (rows.take i); rw [List.length_take] at this; omega) ⟨hsub, by
        rw [take_one hri, List.filter_append]
        refine hJ.append ?_
        simp only [List.filter_cons, hq, List.filter_nil, if_true]
        exact .cons ⟨b, nb, tk1, tx1, rfl, hm⟩ .nil⟩
    · have hq : (Txt.lower r.1 != Txt.lower x) = false := by assumption
      exact no_end (by k_asm) (by k_asm) off hN₂ trivial hz ⟨hsub, by
        rw [take_one hri, List.filter_append]
        rw [List.filter_cons_of_neg (by rw [hq]; exact Bool.false_ne_true), List.filter_nil, List.append_nil]
        exact hJ⟩
  · intro D ys nx h tk9 hJ hsub hD F₁ N₁
    rw [hr.length, List.take_length] at hJ
    dsimp only
    have hlm := hsub _ (.tail _ hl)
    have htm := hsub _ (.tail _ ht)
    have hdm := hsub _ (.tail _ hd)
    k_steps
    refine setItem_wholeN (F₁.push _) (News.push F₁ N₁ _) (.tail _ (.tail _ hlm)) (.tail _ (.head _)) (.head _) (hD _ hlm) (by have := hr.length; simp; omega) (by have := hJ.length; have := List.length_filter_le (fun r => Txt.lower r.1 != Txt.lower x) rows; simp; omega) fun h' n' F₂ N₂ => ?_
    have N₄ := N₂ (less l nx) (fun p hp => ⟨.tail _ (.tail _ (mem_less.mp hp).1), (mem_less.mp hp).2⟩)
    dsimp only
    k_steps
    refine hret _ _ _ _ (by k_asm) (by k_asm) ⟨rfl, ?_⟩
    exact HT.put (fun p hp => N₁ _ (.tail _ hp)) hT (fun p hp => hsub _ (.tail _ hp)) (hJ.mono fun _ _ x => x.mono fun p hp => hsub _ (.tail _ hp))
end
section
local macro_rules | `(tactic| walk_at "eval ListComp Name cons") => `(tactic| refine Hold.out ?_)
theorem c_keys (W w) (t d l : Addr) (news : Led) (rows : List (PySem.Str × PySem.Str)) (hT : HT news t d l rows) (hlen : rows.length ≤ 500) :
    Ctr W w 194 ⟨[.ref t], []⟩ news 3 20 (fun v news' => ∃ D ys nx, v = .ref D ∧ news' = (D, lsO ys) :: nx ∧ (∀ p ∈ news, p ∈ nx) ∧ A2 (fun v r => ∃ tk, v = Value.str r.1 tk) ys rows) := by
  obtain ⟨ht, ⟨hs, tk, n, hd⟩, vs, ep, hl, hr⟩ := hT
  unfold Ctr
  intro dp ut gd cn nms ig ic mo a ccd cl outer A₀ base h₀ L m s R B F X N T hdp hup hret
  k_dflt k_enter
  k_steps
  unfold Hold
  (rename Fr _ _ _ _ => lF'); k_dflt (refine' c_eval (emit := fun C D => emit1 _ (.ref D) (compEnvC _ _ C _)) lF' (fun C D I => turn_one _ _ _ _ _ _ _ _ _) ?hclos ?hcell ?hkind ?hnames ?hs ?_; (case hclos => with_unfolding_all rfl); (case hcell => decide); (case hkind => rfl); (case hnames => decide); (case hs => intro _; rfl))
  k_steps
  (rename Fr _ _ _ _ => lF'); (rename News _ _ _ _ => lN')
  refine Or.inl (srcL (fun i ys nx => A2 (fun v r => ∃ tk, v = Value.str r.1 tk) ys (rows.take i)) rfl lF' lN' hl .nil ?_ ?_)
  · intro i v ys nx I oI C oC D m₂ h tk E' hv hsub hJ hz off hne F₁ N₁ hN₁
    obtain ⟨r, hri, b, nb, tk1, tx1, rfl, hm⟩ := hr.get hv
    have hmx := hsub _ hm
    refine casg2 rfl F₁ N₁ hN₁ hne off (by rfl) (by rfl) rfl hmx ⟨_, .inl rfl⟩ (by decide) fun oC' mN h' tk' hN₂ e1 e2 hoth F₂ N₂ => ?_
    dsimp only
    refine tests0 ?_
    rw [if_pos rfl]
    refine emit_one hne ?_
    k_steps
    exact elt_end (by k_asm) (by k_asm) off hN₂ trivial (by have := hJ.length; rw [List.length_take] at this; omega) ⟨hsub, by
      rw [take_one hri]
      exact hJ.append (.cons ⟨_, rfl⟩ .nil)⟩
  · intro D ys nx h tk9 hJ hsub hD F₁ N₁
    rw [hr.length, List.take_length] at hJ
    dsimp only
    k_steps
    exact hret _ _ _ _ (by k_asm) (by k_asm) ⟨_, _, _, rfl, rfl, hsub, hJ⟩
end
section
theorem c_len (W w) (t d l : Addr) (news : Led) (rows : List (PySem.Str × PySem.Str)) (hT : HT news t d l rows) (hz : rows.length ≤ 500) :
    Ctr W w 148 ⟨[.ref t], []⟩ news 3 20 (fun v news' => news = news' ∧ ∃ tk, v = .int rows.length tk) := by
  obtain ⟨ht, ⟨hs, tk, n, hd⟩, vs, ep, hl, hr⟩ := hT
  have hrl := hr.length
  rw [← hrl] at hz ⊢
  unfold Ctr
  intro dp ut gd cn nms ig ic mo a ccd cl outer A₀ base h₀ L m s R B F X N T hdp hup hret
  k_dflt k_enter
  k_steps
  (rename News _ _ _ _ => lN')
  refine lenN lN' (by repeat (first | assumption | refine List.Mem.tail _ ?_)) (by omega) ?_
  k_steps
  exact hret _ _ _ _ (by k_asm) (by k_asm) ⟨rfl, _, rfl⟩
end
section
local macro_rules | `(tactic| walk_at "subscriptTail Name Slice ref ref") => `(tactic| refine Hold.out ?_)
theorem c_items (W w) (t d l : Addr) (news : Led) (rows : List (PySem.Str × PySem.Str)) (hT : HT news t d l rows) (hz : rows.length ≤ 500) :
    Ctr W w 206 ⟨[.ref t], []⟩ news 6 60 (fun v news' => ∃ D ys nn nx, v = .ref D ∧ news' = (D, PySem.W.listOf (List.toArray ys) nn) :: nx ∧ (∀ p ∈ news, p ∈ nx) ∧ A2 (RowAt news) ys rows ∧ ∀ p ∈ news, @LT.lt Nat _ p.1 D) := by
  obtain ⟨ht, ⟨_, _, _, hd⟩, vs, ep, hl, hr⟩ := id hT
  have hvl := hr.length
  unfold Ctr
  intro dp ut gd cn nms ig ic mo a ccd cl outer A₀ base h₀ L m s R B F X N T hdp hup hret
  k_dflt k_enter
  k_steps
  unfold Hold
  (rename Fr _ _ _ _ => lF'); (rename News _ _ _ _ => lN')
  k_dflt (refine' sliceAllN ?F ?N ?l ?z ?_ ?s ?t; (case F => exact lF'); (case N => exact lN'); (case l => exact hl); (case z => omega); (case s => with_unfolding_all rfl); (case t => intro _; with_unfolding_all rfl); k_whole)
  intro D h' F₂ N₂ hD
  k_steps
  exact hret _ _ _ _ (by k_asm) (by k_asm) ⟨_, _, _, _, rfl, rfl, fun _ h => h, hr, hD⟩
end
section
theorem c_add (W w) (x y : Int) (tx ty : Tok) (news : Led) :
    Ctr W w 66 ⟨[.int x tx, .int y ty], []⟩ news 3 20 (fun v news' => news = news' ∧ ∃ t, v = .int (x + y) t) := by
  unfold Ctr
  intro dp ut gd cn nms ig ic mo a ccd cl outer A₀ base h₀ L m s R B F X N T hdp hup hret
  k_dflt k_enter
  k_steps
  exact hret _ _ _ _ (by k_asm) (by k_asm) ⟨rfl, _, rfl⟩
theorem c_mul (W w) (x y : Int) (tx ty : Tok) (hm : IntMulOk x y) (news : Led) :
    Ctr W w 73 ⟨[.int x tx, .int y ty], []⟩ news 3 20 (fun v news' => news = news' ∧ ∃ t, v = .int (x * y) t) := by
  unfold Ctr
  intro dp ut gd cn nms ig ic mo a ccd cl outer A₀ base h₀ L m s R B F X N T hdp hup hret
  k_dflt k_enter
  k_steps
  exact hret _ _ _ _ (by k_asm) (by k_asm) ⟨rfl, _, rfl⟩
theorem c_sub (W w) (x y : Int) (tx ty : Tok) (news : Led) :
    Ctr W w 80 ⟨[.int x tx, .int y ty], []⟩ news 3 20 (fun v news' => news = news' ∧ ∃ t, v = .int (x - y) t) := by
  unfold Ctr
  intro dp ut gd cn nms ig ic mo a ccd cl outer A₀ base h₀ L m s R B F X N T hdp hup hret
  k_dflt k_enter
  k_steps
  exact hret _ _ _ _ (by k_asm) (by k_asm) ⟨rfl, _, rfl⟩
theorem c_eq (W w) (x y : Int) (tx ty : Tok) (news : Led) :
    Ctr W w 59 ⟨[.int x tx, .int y ty], []⟩ news 3 20 (fun v news' => news = news' ∧ v = .bool (x == y)) := by
  unfold Ctr
  intro dp ut gd cn nms ig ic mo a ccd cl outer A₀ base h₀ L m s R B F X N T hdp hup hret
  k_dflt k_enter
  k_steps
  exact hret _ _ _ _ (by k_asm) (by k_asm) ⟨rfl, rfl⟩
end
section
theorem c_getitem_ (W w) (t d l : Addr) (x : PySem.Str) (tx : Tok) (news : Led) (hx : x.length ≤ 100) (hc : Clean (Txt.lower x)) (rows : List (PySem.Str × PySem.Str)) (hT : HT news t d l rows) (hk : ∀ r ∈ rows, r.1.length ≤ 100) :
    Ctr W w 167 ⟨[.ref t, .str x tx], []⟩ news 7 60 (fun v news' => news = news' ∧ GetV rows x v) := by
  obtain ⟨hti, ⟨_, _, _, hdi⟩, _⟩ := id hT
  unfold Ctr
  intro dp ut gd cn nms ig ic mo a ccd cl outer A₀ base h₀ L m s R B F X N T hdp hup hret
  k_dflt k_enter
  k_steps
  unfold Hold
  k_dflt (refine Ctr.call ⟨by k_asm, by k_asm, by k_asm, by k_asm, by k_asm, by ktr_room, by ktr_units⟩ (c_getH _ _ _ _ _ _ _ _ (by first | assumption | omega) (by assumption) _ (by first | assumption | exact HT.mono (by assumption) (fun _ h9 => .tail _ h9) | exact HT.mono (by assumption) (fun _ h9 => .tail _ (.tail _ h9)) | exact HT.mono (by assumption) (fun _ h9 => .tail _ (.tail _ (.tail _ h9)))) (by assumption)) ?_)
  intro v' n' h' tk' F' N' P'
  obtain ⟨e1, gv⟩ := P'
  subst e1
  (try k_sweep)
  k_steps
  exact hret _ _ _ _ (by k_asm) (by k_asm) ⟨rfl, by assumption⟩
theorem c_getitem (W w) (t d l : Addr) (x : PySem.Str) (tx : Tok) (news : Led) (hx : x.length ≤ 100) (hc : Clean (Txt.lower x)) (rows : List (PySem.Str × PySem.Str)) (hT : HT news t d l rows) (hk : ∀ r ∈ rows, r.1.length ≤ 100) :
    Ctr W w 94 ⟨[.ref t, .str x tx], []⟩ news 9 80 (fun v news' => news = news' ∧ GetV rows x v) := by
  obtain ⟨hti, ⟨_, _, _, hdi⟩, _⟩ := id hT
  unfold Ctr
  intro dp ut gd cn nms ig ic mo a ccd cl outer A₀ base h₀ L m s R B F X N T hdp hup hret
  k_dflt k_enter
  k_steps
  unfold Hold
  k_dflt (refine Ctr.call ⟨by k_asm, by k_asm, by k_asm, by k_asm, by k_asm, by ktr_room, by ktr_units⟩ (c_getitem_ _ _ _ _ _ _ _ _ (by first | assumption | omega) (by assumption) _ (by first | assumption | exact HT.mono (by assumption) (fun _ h9 => .tail _ h9) | exact HT.mono (by assumption) (fun _ h9 => .tail _ (.tail _ h9)) | exact HT.mono (by assumption) (fun _ h9 => .tail _ (.tail _ (.tail _ h9)))) (by assumption)) ?_)
  intro v' n' h' tk' F' N' P'
  obtain ⟨e1, gv⟩ := P'
  subst e1
  (try k_sweep)
  k_steps
  exact hret _ _ _ _ (by k_asm) (by k_asm) ⟨rfl, by assumption⟩
end
section
theorem c_set_ (W w) (t d l : Addr) (x y : PySem.Str) (tx ty : Tok) (news : Led) (hx : x.length ≤ 100) (hc : Clean (Txt.lower x)) (hcx : Clean x) (hy : y.length ≤ 100) (hcy : Clean y) (rows : List (PySem.Str × PySem.Str)) (hT : HT news t d l rows) (hk : ∀ r ∈ rows, r.1.length ≤ 100) (hlen : rows.length ≤ 500) :
    Ctr W w 155 ⟨[.ref t, .str x tx, .str y ty], []⟩ news 7 60 (fun v news' => v = .none ∧ HT news' t d l ((rows.filter fun r => Txt.lower r.1 != Txt.lower x) ++ [(x, y)]) ∧ Ups l news news') := by
  obtain ⟨ht, ⟨_, _, _, hd⟩, _⟩ := id hT
  unfold Ctr
  intro dp ut gd cn nms ig ic mo a ccd cl outer A₀ base h₀ L m s R B F X N T hdp hup hret
  k_dflt k_enter
  k_steps
  unfold Hold
  k_dflt (refine' own_delItem ?F ?X ?I ?hQ ?hS ?hF ?_; (case F => k_asm); (case X => k_asm); (case I => k_inst); (case hS => k_is); (case hF => k_is); (case hQ => k_is); k_whole)
  k_steps
  unfold Hold
  k_dflt (refine Ctr.call ⟨by k_asm, by k_asm, by k_asm, by k_asm, by k_asm, by ktr_room, by ktr_units⟩ (c_del _ _ _ _ _ _ _ _ (by first | assumption | omega) (by assumption) _ (by first | assumption | exact HT.mono (by assumption) (fun _ h9 => .tail _ h9) | exact HT.mono (by assumption) (fun _ h9 => .tail _ (.tail _ h9)) | exact HT.mono (by assumption) (fun _ h9 => .tail _ (.tail _ (.tail _ h9)))) (by assumption) (by first | assumption | omega)) ?_)
  intro v' n' h' tk' F' N' P'
  obtain ⟨rfl, hT', hU'⟩ := P'
  have Ns := N'
  have hlf := List.length_filter_le (fun r => Txt.lower r.1 != Txt.lower x) rows
  generalize hrw : (rows.filter fun r => Txt.lower r.1 != Txt.lower x) = rows2 at hT' hlf
  obtain ⟨ht2, ⟨hs2, tk2, n2, hd2⟩, vs, ep, hl2, hr2⟩ := id hT'
  have hvl := hr2.length
  have tne := ne_cls Ns ht2 hl2 (by show Value.ref 242 ≠ Value.type "list"; intro e; cases e)
  have dne := ne_cls Ns hd2 hl2 (by show Value.type "dict" ≠ Value.type "list"; decide)
  have hr3 := hr2.mono fun _ _ x => x.less Ns hl2 rfl
  k_steps
  unfold Hold
  k_dflt (refine Ctr.call ⟨by k_asm, by k_asm, by k_asm, by k_asm, by k_asm, by ktr_room, by ktr_units⟩ (c_conv _ _ _ _ _ _ _ (by omega) (by assumption)) ?_)
  intro v' n' h' tk' F' N' P'
  obtain ⟨e1, e2⟩ := P'
  subst e1 e2
  (try k_sweep)
  k_steps
  unfold Hold
  k_dflt (refine Ctr.call ⟨by k_asm, by k_asm, by k_asm, by k_asm, by k_asm, by ktr_room, by ktr_units⟩ (c_conv _ _ _ _ _ _ _ (by omega) (by assumption)) ?_)
  intro v' n' h' tk' F' N' P'
  obtain ⟨e1, e2⟩ := P'
  subst e1 e2
  (try k_sweep)
  k_steps
  unfold Hold
  (rename Fr _ _ _ _ => lF'); (rename News _ _ _ _ => lN')
  refine appendN lF' lN' (.tail _ hl2) (by omega) fun h₂ F₂ N₂ => ?_
  have N₃ := N₂ (_ :: less l n') (fun p hp => by
    rcases List.mem_cons.mp hp with rfl | hp
    · exact ⟨.head _, ne_cls lN' (.head _) (.tail _ hl2) (by show Value.type "tuple" ≠ Value.type "list"; decide)⟩
    · exact ⟨.tail _ (mem_less.mp hp).1, (mem_less.mp hp).2⟩)
  dsimp only
  k_steps
  refine hret _ _ _ _ (by k_asm) (by k_asm) ⟨rfl, ?_, fun p hp hne => .tail _ (.tail _ (mem_less.mpr ⟨hU' p hp hne, hne⟩))⟩
  rw [hrw]
  refine ⟨.tail _ (.tail _ (mem_less.mpr ⟨ht2, tne⟩)), ⟨_, _, _, .tail _ (.tail _ (mem_less.mpr ⟨hd2, dne⟩))⟩, _, _, .head _, A2.append ?_ ?_⟩
  · exact hr3.mono fun _ _ x => x.mono fun _ hp => .tail _ (.tail _ hp)
  · exact .cons ⟨_, _, tx, ty, rfl, .tail _ (.head _)⟩ .nil
theorem c_setitem (W w) (t d l : Addr) (x y : PySem.Str) (tx ty : Tok) (news : Led) (hx : x.length ≤ 100) (hc : Clean (Txt.lower x)) (hcx : Clean x) (hy : y.length ≤ 100) (hcy : Clean y) (rows : List (PySem.Str × PySem.Str)) (hT : HT news t d l rows) (hk : ∀ r ∈ rows, r.1.length ≤ 100) (hlen : rows.length ≤ 500) :
    Ctr W w 101 ⟨[.ref t, .str x tx, .str y ty], []⟩ news 9 80 (fun v news' => v = .none ∧ HT news' t d l ((rows.filter fun r => Txt.lower r.1 != Txt.lower x) ++ [(x, y)]) ∧ Ups l news news') := by
  obtain ⟨ht, ⟨_, _, _, hd⟩, _⟩ := id hT
  unfold Ctr
  intro dp ut gd cn nms ig ic mo a ccd cl outer A₀ base h₀ L m s R B F X N T hdp hup hret
  k_dflt k_enter
  k_steps
  unfold Hold
  k_dflt (refine Ctr.call ⟨by k_asm, by k_asm, by k_asm, by k_asm, by k_asm, by ktr_room, by ktr_units⟩ (c_set_ _ _ _ _ _ _ _ _ _ _ (by first | assumption | omega) (by assumption) (by assumption) (by first | assumption | omega) (by assumption) _ (by first | assumption | exact HT.mono (by assumption) (fun _ h9 => .tail _ h9) | exact HT.mono (by assumption) (fun _ h9 => .tail _ (.tail _ h9)) | exact HT.mono (by assumption) (fun _ h9 => .tail _ (.tail _ (.tail _ h9)))) (by assumption) (by first | assumption | omega)) ?_)
  intro v' n' h' tk' F' N' P'
  obtain ⟨rfl, hT', hU'⟩ := P'
  k_steps
  exact hret _ _ _ _ (by k_asm) (by k_asm) ⟨rfl, hT', hU'⟩
theorem c_delitem (W w) (t d l : Addr) (x : PySem.Str) (tx : Tok) (news : Led) (hx : x.length ≤ 100) (hc : Clean (Txt.lower x)) (rows : List (PySem.Str × PySem.Str)) (hT : HT news t d l rows) (hk : ∀ r ∈ rows, r.1.length ≤ 100) (hlen : rows.length ≤ 500) :
    Ctr W w 87 ⟨[.ref t, .str x tx], []⟩ news 7 60 (fun v news' => v = .none ∧ HT news' t d l (rows.filter fun r => Txt.lower r.1 != Txt.lower x) ∧ Ups l news news') := by
  obtain ⟨ht, ⟨_, _, _, hd⟩, _⟩ := id hT
  unfold Ctr
  intro dp ut gd cn nms ig ic mo a ccd cl outer A₀ base h₀ L m s R B F X N T hdp hup hret
  k_dflt k_enter
  k_steps
  unfold Hold
  k_dflt (refine' own_delItem ?F ?X ?I ?hQ ?hS ?hF ?_; (case F => k_asm); (case X => k_asm); (case I => k_inst); (case hS => k_is); (case hF => k_is); (case hQ => k_is); k_whole)
  k_steps
  unfold Hold
  k_dflt (refine Ctr.call ⟨by k_asm, by k_asm, by k_asm, by k_asm, by k_asm, by ktr_room, by ktr_units⟩ (c_del _ _ _ _ _ _ _ _ (by first | assumption | omega) (by assumption) _ (by first | assumption | exact HT.mono (by assumption) (fun _ h9 => .tail _ h9) | exact HT.mono (by assumption) (fun _ h9 => .tail _ (.tail _ h9)) | exact HT.mono (by assumption) (fun _ h9 => .tail _ (.tail _ (.tail _ h9)))) (by assumption) (by first | assumption | omega)) ?_)
  intro v' n' h' tk' F' N' P'
  obtain ⟨rfl, hT', hU'⟩ := P'
  k_steps
  exact hret _ _ _ _ (by k_asm) (by k_asm) ⟨rfl, hT', hU'⟩
theorem c_sd0 (W w) (t d l : Addr) (x y : PySem.Str) (tx ty : Tok) (nx : Led) (hx : x.length ≤ 100) (hc : Clean (Txt.lower x)) (hcx : Clean x) (hy : y.length ≤ 100) (hcy : Clean y) (rows : List (PySem.Str × PySem.Str)) (hs tk n vs ep) (ht : (t, instObj 242 d) ∈ nx) (hd : (d, dictOf [⟨hs, .str (PySem.Str.ofString "_headers") tk, .ref l⟩] n) ∈ nx) (hr : A2 (RowAt nx) vs rows) (hoff : ∀ p ∈ nx, p.1 ≠ l) (hk : ∀ r ∈ rows, r.1.length ≤ 100) (hlen : rows.length ≤ 500) :
    Ctr W w 232 ⟨[.ref t, .str x tx, .str y ty], []⟩ ((l, PySem.W.listOf (List.toArray vs) ep) :: nx) 7 60 (fun v news' => match rows.find? (fun r => Txt.lower r.1 == Txt.lower x) with
      | some r => ((l, PySem.W.listOf (List.toArray vs) ep) :: nx) = news' ∧ ∃ t, v = .str r.2 t
      | none => v = .str y ty ∧ ∃ T n ep', news' = (l, PySem.W.listOf (List.toArray (vs ++ [.ref T])) ep') :: (T, tupO [.str x tx, .str y ty] n) :: nx) := by
  have hT : HT ((l, PySem.W.listOf (List.toArray vs) ep) :: nx) t d l rows := ⟨.tail _ ht, ⟨_, _, _, .tail _ hd⟩, _, _, .head _, hr.mono fun _ _ x => x.mono fun _ hp => .tail _ hp⟩
  have hvl := hr.length
  unfold Ctr
  intro dp ut gd cn nms ig ic mo a ccd cl outer A₀ base h₀ L m s R B F X N T hdp hup hret
  k_dflt k_enter
  k_steps
  unfold Hold
  k_dflt (refine Ctr.call ⟨by k_asm, by k_asm, by k_asm, by k_asm, by k_asm, by ktr_room, by ktr_units⟩ (c_getH _ _ _ _ _ _ _ _ (by first | assumption | omega) (by assumption) _ (by first | assumption | exact HT.mono (by assumption) (fun _ h9 => .tail _ h9) | exact HT.mono (by assumption) (fun _ h9 => .tail _ (.tail _ h9)) | exact HT.mono (by assumption) (fun _ h9 => .tail _ (.tail _ (.tail _ h9)))) (by assumption)) ?_)
  intro v' n' h' tk' F' N' P'
  obtain ⟨e1, gv⟩ := P'
  subst e1
  rcases GetV.or gv with ⟨r9, t9, hf, e2⟩ | ⟨hf, e2⟩ <;> subst e2
  all_goals (try k_sweep)
  all_goals k_steps
  · refine hret _ _ _ _ (by k_asm) (by k_asm) ?_
    (rename List.find? _ _ = _ => hf)
    rw [hf]
    exact ⟨rfl, _, rfl⟩
  · unfold Hold
    k_dflt (refine Ctr.call ⟨by k_asm, by k_asm, by k_asm, by k_asm, by k_asm, by ktr_room, by ktr_units⟩ (c_conv _ _ _ _ _ _ _ (by omega) (by assumption)) ?_)
    intro v' n' h' tk' F' N' P'
    obtain ⟨e1, e2⟩ := P'
    subst e1 e2
    (try k_sweep)
    k_steps
    unfold Hold
    k_dflt (refine Ctr.call ⟨by k_asm, by k_asm, by k_asm, by k_asm, by k_asm, by ktr_room, by ktr_units⟩ (c_conv _ _ _ _ _ _ _ (by omega) (by assumption)) ?_)
    intro v' n' h' tk' F' N' P'
    obtain ⟨e1, e2⟩ := P'
    subst e1 e2
    (try k_sweep)
    k_steps
    unfold Hold
    (rename Fr _ _ _ _ => lF'); (rename News _ _ _ _ => lN')
    refine appendN lF' lN' (.tail _ (.head _)) (by omega) fun h₂ F₂ N₂ => ?_
    have N₃ := N₂ (_ :: nx) (fun p hp => by
      rcases List.mem_cons.mp hp with rfl | hp
      · exact ⟨.head _, ne_cls lN' (.head _) (.tail _ (.head _)) (by show Value.type "tuple" ≠ Value.type "list"; decide)⟩
      · exact ⟨.tail _ (.tail _ hp), hoff p hp⟩)
    dsimp only
    k_steps
    refine hret _ _ _ _ (by k_asm) (by k_asm) ?_
    (rename List.find? _ _ = _ => hf)
    rw [hf]
    exact ⟨rfl, _, _, _, rfl⟩
theorem c_sd (W w) (t d l : Addr) (x y : PySem.Str) (tx ty : Tok) (news : Led) (hx : x.length ≤ 100) (hc : Clean (Txt.lower x)) (hcx : Clean x) (hy : y.length ≤ 100) (hcy : Clean y) (rows : List (PySem.Str × PySem.Str)) (hT : HT news t d l rows) (hk : ∀ r ∈ rows, r.1.length ≤ 100) (hlen : rows.length ≤ 500) :
    Ctr W w 232 ⟨[.ref t, .str x tx, .str y ty], []⟩ news 7 60 (fun v news' => (∃ t, v = .str (((rows.find? (fun r => Txt.lower r.1 == Txt.lower x)).map (·.2)).getD y) t) ∧ HT news' t d l (match rows.find? (fun r => Txt.lower r.1 == Txt.lower x) with | some _ => rows | none => rows ++ [(x, y)]) ∧ Ups l news news') := by
  unfold Ctr
  intro dp ut gd cn nms ig ic mo a ccd cl outer A₀ base h₀ L m s R B F X N T hdp hup hret
  have hT0 := hT
  obtain ⟨ht, ⟨hs, tk, n, hd⟩, vs, ep, hl, hr⟩ := hT
  have N2 : News h₀ L s.heap ((l, PySem.W.listOf (List.toArray vs) ep) :: less l news) := fun p hp => by
    rcases List.mem_cons.mp hp with rfl | hp
    · exact N _ hl
    · exact N _ (mem_less.mp hp).1
  have tne := ne_cls N ht hl (by show Value.ref 242 ≠ Value.type "list"; intro e; cases e)
  have dne := ne_cls N hd hl (by show Value.type "dict" ≠ Value.type "list"; decide)
  refine c_sd0 W w t d l x y tx ty (less l news) hx hc hcx hy hcy rows hs tk n vs ep (mem_less.mpr ⟨ht, tne⟩) (mem_less.mpr ⟨hd, dne⟩) (hr.mono fun _ _ x => x.less N hl rfl) (fun p hp => (mem_less.mp hp).2) hk hlen _ _ _ _ _ _ _ _ _ _ _ _ _ _ _ _ _ _ _ B F X N2 T hdp hup fun v n' h' tk' F' N' P' => ?_
  refine hret v n' h' tk' F' N' ?_
  split at P'
  · rename_i r e
    obtain ⟨rfl, t9, rfl⟩ := P'
    rw [e]
    exact ⟨⟨t9, rfl⟩, ⟨.tail _ (mem_less.mpr ⟨ht, tne⟩), ⟨_, _, _, .tail _ (mem_less.mpr ⟨hd, dne⟩)⟩, vs, ep, .head _, hr.mono fun _ _ x => (x.less N hl rfl).mono fun _ hp => .tail _ hp⟩, fun p hp hne => .tail _ (mem_less.mpr ⟨hp, hne⟩)⟩
  · rename_i e
    obtain ⟨rfl, T9, n9, ep', rfl⟩ := P'
    rw [e]
    exact ⟨⟨ty, rfl⟩, ⟨.tail _ (.tail _ (mem_less.mpr ⟨ht, tne⟩)), ⟨_, _, _, .tail _ (.tail _ (mem_less.mpr ⟨hd, dne⟩))⟩, _, _, .head _, (hr.mono fun _ _ x => (x.less N hl rfl).mono fun _ hp => .tail _ (.tail _ hp)).append (.cons ⟨T9, n9, tx, ty, rfl, .tail _ (.head _)⟩ .nil)⟩, fun p hp hne => .tail _ (.tail _ (mem_less.mpr ⟨hp, hne⟩))⟩
end
section
theorem c_lh (W w) (t d l : Addr) (news : Led) (rows : List (PySem.Str × PySem.Str)) (hT : HT news t d l rows) (hz : rows.length ≤ 500) :
    Ctr W w 109 ⟨[.ref t], []⟩ news 6 60 (fun v news' => news = news' ∧ ∃ tk, v = .int rows.length tk) := by
  obtain ⟨ht, ⟨_, _, _, hd⟩, _⟩ := id hT
  unfold Ctr
  intro dp ut gd cn nms ig ic mo a ccd cl outer A₀ base h₀ L m s R B F X N T hdp hup hret
  k_dflt k_enter
  k_steps
  unfold Hold
  k_dflt (refine Ctr.call ⟨by k_asm, by k_asm, by k_asm, by k_asm, by k_asm, by ktr_room, by ktr_units⟩ (c_len _ _ _ _ _ _ _ (by first | assumption | exact HT.mono (by assumption) (fun _ h9 => .tail _ h9) | exact HT.mono (by assumption) (fun _ h9 => .tail _ (.tail _ h9)) | exact HT.mono (by assumption) (fun _ h9 => .tail _ (.tail _ (.tail _ h9)))) (by first | assumption | omega)) ?_)
  intro v' n' h' tk' F' N' P'
  obtain ⟨e1, t9, e2⟩ := P'
  subst e1 e2
  (try dsimp only [PySem.W.LenBack])
  (try refine ⟨⟨by omega, by omega⟩, ?_⟩)
  (try k_sweep)
  k_steps
  exact hret _ _ _ _ (by k_asm) (by k_asm) ⟨rfl, _, rfl⟩
end
section
local macro_rules | `(tactic| walk_at "subscriptTail") => `(tactic| refine Hold.out ?_)
noncomputable def drawn (ns : List Int) (k : Nat) : Int := if k < ns.length then ns.getD k 0 else [330, 285, 344, 314, 367, 294, 324, 336, 306, 354, 264, 348].getD k 0
theorem c_draw (W w) (sa : Addr) (vs : List Value) (ns : List Int) (hi : IntsAre vs ns) (k : Nat) (hk : k < 12) (tk : Tok) (hz : ns.length ≤ 63) (news : Led) :
    CtrS (ScL sa vs) W w 253 ⟨[.ref sa, .int (k : Int) tk], []⟩ news 3 20 (fun v news' => news = news' ∧ ∃ t, v = .int (drawn ns k) t) := by
  unfold CtrS
  intro dp ut gd cn nms ig ic mo a ccd cl outer A₀ base h₀ L m s R hS B F X N T hdp hup hret
  k_dflt k_enter
  (rename Fr h₀ _ _ _ => FG)
  unfold ScL at hS
  have hS2 := FG.lst hS
  k_steps
  · refine hret _ _ _ _ (by k_asm) (by k_asm) ⟨rfl, _, congrArg (fun z => Value.int z _) ?_⟩
    unfold drawn
    rw [if_pos (by omega), Int.toNat_natCast]
  · unfold Hold
    (rename News _ _ _ _ => lN')
    refine itemI (lN'.isList (.head _)) (ns := [330, 285, 344, 314, 367, 294, 324, 336, 306, 354, 264, 348]) (by repeat' constructor) (by omega) (by simp only [List.length_cons, List.length_nil]; omega) (by omega) (fun t => ?_)
    dsimp only
    k_steps
    (rename News h₀ _ _ _ => lN2)
    refine hret _ _ _ _ (by k_asm) (cb_drop lN2 fun p hp => .tail _ hp) ⟨rfl, _, congrArg (fun z => Value.int z _) ?_⟩
    unfold drawn
    rw [if_neg (by omega), Int.toNat_natCast]
end
section
noncomputable def substC (x y : PySem.Str) : Int := if x == y then 0 else if Txt.lower x == Txt.lower y then 1 else 2
theorem c_subst (W w) (x y : PySem.Str) (tx ty : Tok) (news : Led) (hx : x.length ≤ 1000) (hy : y.length ≤ 1000) :
    Ctr W w 45 ⟨[.str x tx, .str y ty], []⟩ news 2 8 (fun v news' => news = news' ∧ ∃ t, v = .int (substC x y) t) := by
  unfold Ctr
  intro dp ut gd cn nms ig ic mo a ccd cl outer A₀ base h₀ L m s R B F X N T hdp hup hret
  k_dflt k_enter
  k_steps
  all_goals refine hret _ _ _ _ (by k_asm) (by k_asm) ⟨rfl, _, congrArg (fun z => Value.int z _) ?_⟩
  · unfold substC
    rw [if_pos (by assumption)]
  · unfold substC
    rw [if_neg (by rw [(show (x == y) = false by assumption)]; exact Bool.false_ne_true), if_pos (by assumption)]
  · unfold substC
    rw [if_neg (by rw [(show (x == y) = false by assumption)]; exact Bool.false_ne_true), if_neg (by rw [(show (Txt.lower x == Txt.lower y) = false by assumption)]; exact Bool.false_ne_true)]
end
section
local macro_rules | `(tactic| walk_at "subscriptTail Name Name ref int") => `(tactic| refine Hold.out ?_)
local macro_rules | `(tactic| walk_at "setItem ref int") => `(tactic| refine Hold.out ?_)
local macro_rules | `(tactic| walk_at "exec For Name Call cons nil") => `(tactic| refine Hold.out ?_)
local macro_rules | `(tactic| walk_at "call type:list") => `(tactic| refine Hold.out ?_)
local macro_rules | `(tactic| walk_at "exec Assign") => `(tactic| refine Hold.m 13 (by with_reducible assumption) ?_)
local macro_rules | `(tactic| walk_at "exec If") => `(tactic| with_reducible refine Hold.swap (by assumption) ?_)
local macro_rules | `(tactic| walk_at "subscriptTail Name Slice str ref") => `(tactic| ((first | k_dflt (refine slN_sn (s := ⟨_, _, _, _, _⟩) (by k_asm) (by k_asm) ?_ (by with_unfolding_all rfl) (fun _ => by with_unfolding_all rfl) (by omega) (by omega)) | k_dflt (refine slN_ns (s := ⟨_, _, _, _, _⟩) (by k_asm) (by k_asm) ?_ (by with_unfolding_all rfl) (fun _ => by with_unfolding_all rfl) (by omega) (by omega) (by omega)) | k_dflt (refine slN_nn (s := ⟨_, _, _, _, _⟩) (by k_asm) (by k_asm) ?_ (by with_unfolding_all rfl) (fun _ => by with_unfolding_all rfl) (by omega))); intro _ _ _ _ _ _))
theorem leS {n k l : Nat} (h : n + k = l) : k ≤ l := by omega
theorem wA {n k l : Nat} (h : n + k = l) (h1 : k < l) : n - 1 < n := by omega
theorem wB {n k l : Nat} (h : n + k = l) (h1 : k < l) : n - 1 + (k + 1) = l := by omega
theorem ineT {x y : Int} {P Q : Prop} (h : x ≠ y) (hp : P) : if (x != y) = true then P else Q := by
  rw [if_pos (by simpa using h)]; exact hp
theorem ineF {x y : Int} {P Q : Prop} (h : x = y) (hq : Q) : if (x != y) = true then P else Q := by
  rw [if_neg (by simpa using h)]; exact hq
local macro_rules | `(tactic| walk_at "ite") => `(tactic| first | with_reducible refine ineT (by omega) ?_ | with_reducible refine ineF (by omega) ?_)
local macro_rules | `(tactic| walk_at "exec While") => `(tactic| refine Hold.out ?_)
noncomputable def lstep (a bc : PySem.Str) (S : Int × Int × List Int × Int) (i : Nat) : Int × Int × List Int × Int :=
  let sub := S.1 + substC bc (Txt.item a (i : Int))
  let d := S.2.2.1.getD (i : Int).toNat 0
  let ins := (if d < S.2.1 then d else S.2.1) + 2
  let r := if sub < ins then sub else ins
  (d, r, S.2.2.1.set i r, if r < S.2.2.2 then r else S.2.2.2)
noncomputable def linner (a bc : PySem.Str) (S : Int × Int × List Int × Int) (n : Nat) : Int × Int × List Int × Int := (List.range n).foldl (lstep a bc) S
noncomputable def louter (a b : PySem.Str) (mc : Int) : Nat → Option (Int × List Int)
  | 0 => some (0, (List.range a.length).map fun (i : Nat) => 2 + (i : Int) * 2)
  | j + 1 => match louter a b mc j with
    | none => none
    | some (_, row) =>
      let S := linner a (Txt.item b (j : Int)) ((j : Int) * 2, (j : Int) * 2, row, 9223372036854775807) a.length
      if S.2.2.2 > mc then none else some (S.2.1, S.2.2.1)
theorem linner_succ (a bc : PySem.Str) (S : Int × Int × List Int × Int) (n : Nat) : linner a bc S (n + 1) = lstep a bc (linner a bc S n) n := by
  unfold linner
  rw [List.range_succ, List.foldl_append]; rfl
noncomputable def goP (x y : PySem.Str) (k : Nat) : Bool := (decide ((Txt.slice x (some (k : Int)) none).length ≠ 0) && decide ((Txt.slice y (some (k : Int)) none).length ≠ 0)) && (Txt.item x (k : Int) == Txt.item y (k : Int))
theorem goP_t {x y : PySem.Str} {k : Nat} (h1 : ((Txt.slice x (some (k : Int)) none).length : Int) ≠ 0) (h2 : ((Txt.slice y (some (k : Int)) none).length : Int) ≠ 0) (h3 : (Txt.item x (k : Int) == Txt.item y (k : Int)) = true) : goP x y k = true := by
  unfold goP
  rw [h3, decide_eq_true (by omega), decide_eq_true (by omega)]; rfl
theorem goP_1 {x y : PySem.Str} {k : Nat} (h1 : ((Txt.slice x (some (k : Int)) none).length : Int) = 0) : goP x y k = false := by
  unfold goP
  rw [decide_eq_false (by omega)]; rfl
theorem goP_2 {x y : PySem.Str} {k : Nat} (h1 : ((Txt.slice y (some (k : Int)) none).length : Int) = 0) : goP x y k = false := by
  unfold goP
  rw [decide_eq_false (p := (Txt.slice y (some (k : Int)) none).length ≠ 0) (by omega), Bool.and_false]; rfl
theorem goP_3 {x y : PySem.Str} {k : Nat} (h1 : (Txt.item x (k : Int) == Txt.item y (k : Int)) = false) : goP x y k = false := by
  unfold goP
  rw [h1, Bool.and_false]
noncomputable def goQ (x y : PySem.Str) (q : Nat) : Bool := (decide (q < x.length) && decide (q < y.length)) && (Txt.item x (-(q : Int) - 1) == Txt.item y (-(q : Int) - 1))
theorem goQ_t {x y : PySem.Str} {k : Nat} (h1 : k < x.length) (h2 : k < y.length) (h3 : (Txt.item x (-(k : Int) - 1) == Txt.item y (-(k : Int) - 1)) = true) : goQ x y k = true := by
  unfold goQ
  rw [h3, decide_eq_true h1, decide_eq_true h2]; rfl
theorem goQ_1 {x y : PySem.Str} {k : Nat} (h1 : ¬ k < x.length) : goQ x y k = false := by
  unfold goQ
  rw [decide_eq_false h1]; rfl
theorem goQ_2 {x y : PySem.Str} {k : Nat} (h1 : ¬ k < y.length) : goQ x y k = false := by
  unfold goQ
  rw [decide_eq_false h1, Bool.and_false]; rfl
theorem goQ_3 {x y : PySem.Str} {k : Nat} (h1 : (Txt.item x (-(k : Int) - 1) == Txt.item y (-(k : Int) - 1)) = false) : goQ x y k = false := by
  unfold goQ
  rw [h1, Bool.and_false]
noncomputable def firstF (p : Nat → Bool) (n : Nat) : Nat := ((List.range (n + 1)).find? fun k => !p k).getD 0
theorem firstF_eq {p : Nat → Bool} {n k : Nat} (h1 : p k = false) (h2 : ∀ j, j < k → p j = true) (h3 : k ≤ n) : firstF p n = k := by
  unfold firstF
  have e : (List.range (n + 1)).find? (fun k => !p k) = some k := by
    rw [List.find?_range_eq_some]
    refine ⟨by rw [h1]; rfl, List.mem_range.mpr (by omega), fun j hj => by rw [h2 j hj]; rfl⟩
  rw [e]; rfl
noncomputable def levU (xc yc : PySem.Str) (mc : Int) : Int := if ((yc.length : Int) - (xc.length : Int)) * 2 > mc then mc + 1 else match louter xc yc mc yc.length with
  | none => mc + 1
  | some (r, _) => r
noncomputable def levT (xb yb : PySem.Str) (mc : Int) : Int := if xb.length = 0 ∨ yb.length = 0 then 2 * ((xb.length : Int) + (yb.length : Int)) else
  levU (if yb.length < xb.length then yb else xb) (if yb.length < xb.length then xb else yb) mc
noncomputable def levC (x y : PySem.Str) (k : Nat) (mc : Int) : Int :=
  levT (cutQ (Txt.slice x (some (k : Int)) none) (firstF (goQ (Txt.slice x (some (k : Int)) none) (Txt.slice y (some (k : Int)) none)) (Txt.slice x (some (k : Int)) none).length)) (cutQ (Txt.slice y (some (k : Int)) none) (firstF (goQ (Txt.slice x (some (k : Int)) none) (Txt.slice y (some (k : Int)) none)) (Txt.slice x (some (k : Int)) none).length)) mc
noncomputable def levS (x y : PySem.Str) (mc : Int) : Int := if x == y then 0 else levC x y (firstF (goP x y) x.length) mc
theorem louter_none {a b : PySem.Str} {mc : Int} {j : Nat} (h : louter a b mc j = none) : ∀ n, j ≤ n → louter a b mc n = none := by
  intro n hn
  induction n with
  | zero => obtain rfl : j = 0 := by omega
            exact h
  | succ n ih =>
    rcases Nat.lt_or_ge n j with h1 | h1
    · obtain rfl : j = n + 1 := by omega
      exact h
    · unfold louter
      rw [ih h1]
theorem c_lev (W w) (x y : PySem.Str) (tx ty : Tok) (mc : Int) (tm : Tok) (news : Led) (hx : x.length ≤ 3) (hy : y.length ≤ 3) :
    Ctr W w 52 ⟨[.str x tx, .str y ty, .int mc tm], []⟩ news 4 30 (fun v news' => news = news' ∧ ∃ t, v = .int (levS x y mc) t) := by
  unfold Ctr
  intro dp ut gd cn nms ig ic mo a ccd cl outer A₀ base h₀ L m s R B F X N T hdp hup hret
  k_dflt k_enter
  (rename Fr _ _ _ _ => lF'); replace lF' := Fr.nm lF' [(PySem.Str.ofString "max_cost", .int mc tm), (PySem.Str.ofString "b", .str y ty), (PySem.Str.ofString "a", .str x tx)] (by kernel_rfl)
  k_steps
  · refine hret _ _ _ _ (by k_asm) (by k_asm) ⟨rfl, _, congrArg (fun z => Value.int z _) ?_⟩
    unfold levS
    rw [if_pos (by assumption)]
  unfold Hold
  (rename Fr _ _ _ _ => lF'); (rename News _ _ _ _ => lN')
  refine w_loopR (σ := Nat × Tok) (fun c => [(PySem.Str.ofString "pre", .int (c.1 : Int) c.2)]) [] (fun n c nx => nx = news ∧ n + c.1 = x.length ∧ c.1 ≤ y.length ∧ ∀ (j : Nat), j < c.1 → goP x y j = true) (fun c nx => nx = news ∧ (c.1 ≤ x.length ∧ c.1 ≤ y.length) ∧ goP x y c.1 = false ∧ ∀ (j : Nat), j < c.1 → goP x y j = true) (0, _) x.length lF' lN' (by intro p hp; cases hp with | head => rfl | tail _ h => cases h) ⟨rfl, by omega, Nat.zero_le _, fun j hj => absurd hj (Nat.not_lt_zero _)⟩ ?_ ?_ (by first | passes_own | with_unfolding_all passes_own)
  · rintro n ⟨k, tk9⟩ w₁ nx h tk ⟨rfl, hk, hky, hall⟩ F₁ N₁
    dsimp only [kstB] at hk hky hall F₁ ⊢
    refine w_gen ?_
    intro P1 P2 hP1 hP2
    k_steps
    all_goals first
      | (refine hP2 _ ?_); exact w_out (k, _) _ (by k_asm) (by k_asm) (by intro p hp; cases hp with | head => rfl | tail _ h => cases h) (by first | (intro z h2 h3; (try simp only [List.forall_mem_cons, List.not_mem_nil, false_implies, implies_true, and_true] at h2); (repeat (refine (if_neg (by first | exact ne_ct h3 (by decide) | exact h2 | exact h2.1 | exact h2.2 | exact h2.2.1 | exact h2.2.2 | exact h2.2.2.1 | exact h2.2.2.2 | (rw [h3]; exact Bool.false_ne_true))).trans ?_)); (first | rfl | ((try simp only [kstB, h2, h3, Bool.false_eq_true, if_false, List.contains_nil]); done) | ((try simp only [kstB, h2, h3, Bool.false_eq_true, if_false, List.contains_nil]); rfl))) | ksw_same) ⟨rfl, ⟨leS hk, hky⟩, by first | exact goP_3 (k := k) (by assumption) | exact goP_2 (k := k) (by assumption) | exact goP_1 (k := k) (by assumption), hall⟩
      | refine hP1 _ _ ?_; have hx1 : k < x.length := (by omega); have hy1 : k < y.length := (by omega); exact w_end (n - 1) (k + 1, _) _ (by k_asm) (by k_asm) (wA hk hx1) (by intro p hp; cases hp with | head => rfl | tail _ h => cases h) (by first | (intro z h2 h3; (try simp only [List.forall_mem_cons, List.not_mem_nil, false_implies, implies_true, and_true] at h2); (repeat (refine (if_neg (by first | exact ne_ct h3 (by decide) | exact h2 | exact h2.1 | exact h2.2 | exact h2.2.1 | exact h2.2.2 | exact h2.2.2.1 | exact h2.2.2.2 | (rw [h3]; exact Bool.false_ne_true))).trans ?_)); (first | rfl | ((try simp only [kstB, h2, h3, Bool.false_eq_true, if_false, List.contains_nil]); done) | ((try simp only [kstB, h2, h3, Bool.false_eq_true, if_false, List.contains_nil]); rfl))) | ksw_same) ⟨rfl, wB hk hx1, hy1, fun j hj => by
        rcases Nat.lt_succ_iff_lt_or_eq.mp hj with h1 | rfl
        · exact hall j h1
        · exact goP_t (by assumption) (by assumption) (by assumption)⟩
  · rintro ⟨k, tk9⟩ w₁ nx h tk ⟨rfl, ⟨hk, hky⟩, hg, hall⟩ F₁ N₁
    dsimp only [kstB] at hk hky hg hall F₁ ⊢
    have hk0 : Hold (levS x y mc = levC x y k mc) := by
      unfold Hold levS
      rw [if_neg (by rw [(show (x == y) = false by assumption)]; exact Bool.false_ne_true), firstF_eq hg hall hk]
    k_steps
    unfold Hold
    (rename Fr _ _ _ _ => lF'); (rename News _ _ _ _ => lN')
    have hxa : (Txt.slice x (some (k : Int)) none).length ≤ 3 := by omega
    have hya : (Txt.slice y (some (k : Int)) none).length ≤ 3 := by omega
    generalize hxe : Txt.slice x (some (k : Int)) none = xa at *
    generalize hye : Txt.slice y (some (k : Int)) none = ya at *
    have hxy : Hold (Txt.slice x (some (k : Int)) none = xa ∧ Txt.slice y (some (k : Int)) none = ya) := ⟨hxe, hye⟩
    obtain ⟨uz1, lF'⟩ := Fr.pick lF' [(PySem.Str.ofString "post", .int (-((0 : Nat) : Int)) _), (PySem.Str.ofString "b", .str ya _), (PySem.Str.ofString "a", .str xa _), (PySem.Str.ofString "max_cost", .int mc _)] ⟨rfl, rfl, rfl, rfl, trivial⟩
    dsimp only [kstB] at lF'
    refine w_loopR (σ := Nat × Tok) (fun c => [(PySem.Str.ofString "post", .int (-(c.1 : Int)) c.2)]) [] (fun n c nx' => nx' = nx ∧ n + c.1 = xa.length ∧ c.1 ≤ ya.length ∧ ∀ (j : Nat), j < c.1 → goQ xa ya j = true) (fun c nx' => nx' = nx ∧ (c.1 ≤ xa.length ∧ c.1 ≤ ya.length) ∧ goQ xa ya c.1 = false ∧ ∀ (j : Nat), j < c.1 → goQ xa ya j = true) (0, _) xa.length lF' lN' (by intro p hp; cases hp with | head => rfl | tail _ h => cases h) ⟨rfl, by omega, Nat.zero_le _, fun j hj => absurd hj (Nat.not_lt_zero _)⟩ ?_ ?_ (by first | passes_own | with_unfolding_all passes_own)
    · rintro n ⟨q, tk8⟩ w₂ nx' h2 tk2 ⟨rfl, hq, hqy, hallq⟩ F₂ N₂
      dsimp only [kstB] at hq hqy hallq F₂ ⊢
      refine w_gen ?_
      intro P1 P2 hP1 hP2
      rcases Nat.eq_zero_or_pos q with hq0 | hq0
      all_goals k_steps
      all_goals first
        | (refine hP2 _ ?_); exact w_out (q, _) _ (by k_asm) (by k_asm) (by intro p hp; cases hp with | head => rfl | tail _ h => cases h) (by first | (intro z h2 h3; (try simp only [List.forall_mem_cons, List.not_mem_nil, false_implies, implies_true, and_true] at h2); (repeat (refine (if_neg (by first | exact ne_ct h3 (by decide) | exact h2 | exact h2.1 | exact h2.2 | exact h2.2.1 | exact h2.2.2 | exact h2.2.2.1 | exact h2.2.2.2 | (rw [h3]; exact Bool.false_ne_true))).trans ?_)); (first | rfl | ((try simp only [kstB, h2, h3, Bool.false_eq_true, if_false, List.contains_nil]); done) | ((try simp only [kstB, h2, h3, Bool.false_eq_true, if_false, List.contains_nil]); rfl))) | ksw_same) ⟨rfl, ⟨leS hq, hqy⟩, by first | exact goQ_3 (k := q) (by assumption) | exact goQ_2 (k := q) (by omega) | exact goQ_1 (k := q) (by omega), hallq⟩
        | refine hP1 _ _ ?_; have hx1 : q < xa.length := (by omega); have hy1 : q < ya.length := (by omega); exact w_end (n - 1) (q + 1, _) _ (by k_asm) (by k_asm) (wA hq hx1) (by intro p hp; cases hp with | head => exact congrArg (fun z => some (Value.int z _)) (by omega) | tail _ h => cases h) (by first | (intro z h2 h3; (try simp only [List.forall_mem_cons, List.not_mem_nil, false_implies, implies_true, and_true] at h2); (repeat (refine (if_neg (by first | exact ne_ct h3 (by decide) | exact h2 | exact h2.1 | exact h2.2 | exact h2.2.1 | exact h2.2.2 | exact h2.2.2.1 | exact h2.2.2.2 | (rw [h3]; exact Bool.false_ne_true))).trans ?_)); (first | rfl | ((try simp only [kstB, h2, h3, Bool.false_eq_true, if_false, List.contains_nil]); done) | ((try simp only [kstB, h2, h3, Bool.false_eq_true, if_false, List.contains_nil]); rfl))) | ksw_same) ⟨rfl, wB hq hx1, hy1, fun j hj => by
          rcases Nat.lt_succ_iff_lt_or_eq.mp hj with h1 | rfl
          · exact hallq j h1
          · exact goQ_t (by first | exact hx1 | exact hy1 | omega) (by first | exact hx1 | exact hy1 | omega) (by assumption)⟩
        | trace_state
    · rintro ⟨q, tk8⟩ w₂ nx' h2 tk2 ⟨rfl, ⟨hq, hqy⟩, hgq, hallq⟩ F₂ N₂
      dsimp only [kstB] at hq hqy hgq hallq F₂ ⊢
      obtain ⟨uz2, F₂⟩ := Fr.pick F₂ [(PySem.Str.ofString "post", .int (-(q : Int)) _), (PySem.Str.ofString "b", .str ya _), (PySem.Str.ofString "a", .str xa _), (PySem.Str.ofString "max_cost", .int mc _)] ⟨rfl, rfl, rfl, rfl, trivial⟩
      dsimp only [kstB] at F₂
      have hk1 : Hold (levS x y mc = levT (cutQ xa q) (cutQ ya q) mc) := by
        have h9 := hk0
        have h8 := hxy
        unfold Hold at h9 h8 ⊢
        rw [h9]
        unfold levC
        rw [h8.1, h8.2, firstF_eq hgq hallq hq]
      have mk13 : Mk 13 := .mk 13
      k_steps
      unfold Hold
      clear mk13
      (rename Fr _ _ _ _ => lF')
      refine seq_merge (σ := Tok) (fun d => [(PySem.Str.ofString "a", .str (cutQ xa q) d)]) [] (fun _ n2 => n2 = nx') lF' ?_ ?_
      · rcases Nat.eq_zero_or_pos q with hq0 | hq0
        · have hc : cutQ xa q = Txt.slice xa none none := if_pos hq0
          simp only [hc]
          k_steps
          exact s_out _ _ (by k_asm) (by k_asm) (by intro p hp; cases hp with | head => rfl | tail _ h => cases h) (by first | (intro z h2 h3; (try simp only [List.forall_mem_cons, List.not_mem_nil, false_implies, implies_true, and_true] at h2); (repeat (refine (if_neg (by first | exact ne_ct h3 (by decide) | exact h2 | exact h2.1 | exact h2.2 | exact h2.2.1 | exact h2.2.2 | exact h2.2.2.1 | exact h2.2.2.2 | (rw [h3]; exact Bool.false_ne_true))).trans ?_)); (first | rfl | ((try simp only [kstB, h2, h3, Bool.false_eq_true, if_false, List.contains_nil]); done) | ((try simp only [kstB, h2, h3, Bool.false_eq_true, if_false, List.contains_nil]); rfl))) | ksw_same) rfl
        · have hc : cutQ xa q = Txt.slice xa none (some (-(q : Int))) := if_neg (by omega)
          simp only [hc]
          k_steps
          exact s_out _ _ (by k_asm) (by k_asm) (by intro p hp; cases hp with | head => rfl | tail _ h => cases h) (by first | (intro z h2 h3; (try simp only [List.forall_mem_cons, List.not_mem_nil, false_implies, implies_true, and_true] at h2); (repeat (refine (if_neg (by first | exact ne_ct h3 (by decide) | exact h2 | exact h2.1 | exact h2.2 | exact h2.2.1 | exact h2.2.2 | exact h2.2.2.1 | exact h2.2.2.2 | (rw [h3]; exact Bool.false_ne_true))).trans ?_)); (first | rfl | ((try simp only [kstB, h2, h3, Bool.false_eq_true, if_false, List.contains_nil]); done) | ((try simp only [kstB, h2, h3, Bool.false_eq_true, if_false, List.contains_nil]); rfl))) | ksw_same) rfl
      rintro ta w₃ n3 h3 tk3 rfl F₃ N₃
      dsimp only [kstB] at F₃ ⊢
      have mk13 : Mk 13 := .mk 13
      k_steps
      unfold Hold
      clear mk13
      (rename Fr _ _ _ _ => lF')
      refine seq_merge (σ := Tok) (fun d => [(PySem.Str.ofString "b", .str (cutQ ya q) d)]) [] (fun _ n2 => n2 = n3) lF' ?_ ?_
      · rcases Nat.eq_zero_or_pos q with hq0 | hq0
        · have hc : cutQ ya q = Txt.slice ya none none := if_pos hq0
          simp only [hc]
          k_steps
          exact s_out _ _ (by k_asm) (by k_asm) (by intro p hp; cases hp with | head => rfl | tail _ h => cases h) (by first | (intro z h2 h3; (try simp only [List.forall_mem_cons, List.not_mem_nil, false_implies, implies_true, and_true] at h2); (repeat (refine (if_neg (by first | exact ne_ct h3 (by decide) | exact h2 | exact h2.1 | exact h2.2 | exact h2.2.1 | exact h2.2.2 | exact h2.2.2.1 | exact h2.2.2.2 | (rw [h3]; exact Bool.false_ne_true))).trans ?_)); (first | rfl | ((try simp only [kstB, h2, h3, Bool.false_eq_true, if_false, List.contains_nil]); done) | ((try simp only [kstB, h2, h3, Bool.false_eq_true, if_false, List.contains_nil]); rfl))) | ksw_same) rfl
        · have hc : cutQ ya q = Txt.slice ya none (some (-(q : Int))) := if_neg (by omega)
          simp only [hc]
          k_steps
          exact s_out _ _ (by k_asm) (by k_asm) (by intro p hp; cases hp with | head => rfl | tail _ h => cases h) (by first | (intro z h2 h3; (try simp only [List.forall_mem_cons, List.not_mem_nil, false_implies, implies_true, and_true] at h2); (repeat (refine (if_neg (by first | exact ne_ct h3 (by decide) | exact h2 | exact h2.1 | exact h2.2 | exact h2.2.1 | exact h2.2.2 | exact h2.2.2.1 | exact h2.2.2.2 | (rw [h3]; exact Bool.false_ne_true))).trans ?_)); (first | rfl | ((try simp only [kstB, h2, h3, Bool.false_eq_true, if_false, List.contains_nil]); done) | ((try simp only [kstB, h2, h3, Bool.false_eq_true, if_false, List.contains_nil]); rfl))) | ksw_same) rfl
      rintro tb w₄ n4 h4 tk4 rfl F₄ N₄
      have mk14 : Mk 14 := .mk 14
      dsimp only [kstB] at F₄ ⊢
      have hxb := cutQ_len (x := xa) (q := q) hq
      have hyb := cutQ_len (x := ya) (q := q) hqy
      generalize hxf : cutQ xa q = xb at *
      generalize hyf : cutQ ya q = yb at *
      obtain ⟨uz4, F₄⟩ := Fr.pick F₄ [(PySem.Str.ofString "b", .str yb _), (PySem.Str.ofString "a", .str xb _), (PySem.Str.ofString "max_cost", .int mc _)] ⟨rfl, rfl, rfl, trivial⟩
      dsimp only [kstB] at F₄
      k_steps
      rotate_left
      · refine hret _ _ _ _ (by k_asm) (by k_asm) ⟨rfl, _, congrArg (fun z => Value.int z _) ?_⟩
        have h9 := hk1
        unfold Hold at h9
        rw [h9]
        unfold levT
        rw [if_pos (by omega)]
      · refine hret _ _ _ _ (by k_asm) (by k_asm) ⟨rfl, _, congrArg (fun z => Value.int z _) ?_⟩
        have h9 := hk1
        unfold Hold at h9
        rw [h9]
        unfold levT
        rw [if_pos (by omega)]
      unfold Hold
      clear mk14
      (rename Fr _ _ _ _ => lF')
      refine seq_merge (σ := Tok × Tok) (fun d => [(PySem.Str.ofString "a", .str (if yb.length < xb.length then yb else xb) d.1), (PySem.Str.ofString "b", .str (if yb.length < xb.length then xb else yb) d.2)]) [] (fun _ n2 => n2 = n4) lF' ?_ ?_
      · by_cases hlt : yb.length < xb.length
        · simp only [if_pos hlt]
          k_steps
          (rename News _ _ _ _ => lN2)
          exact s_out (_, _) n4 (by k_asm) (cb_drop lN2 fun p hp => .tail _ hp) (by intro p hp; cases hp with | head => rfl | tail _ h => cases h with | head => rfl | tail _ h => cases h) (by first | (intro z h2 h3; (try simp only [List.forall_mem_cons, List.not_mem_nil, false_implies, implies_true, and_true] at h2); (repeat (refine (if_neg (by first | exact ne_ct h3 (by decide) | exact h2 | exact h2.1 | exact h2.2 | exact h2.2.1 | exact h2.2.2 | exact h2.2.2.1 | exact h2.2.2.2 | (rw [h3]; exact Bool.false_ne_true))).trans ?_)); (first | rfl | ((try simp only [kstB, h2, h3, Bool.false_eq_true, if_false, List.contains_nil]); done) | ((try simp only [kstB, h2, h3, Bool.false_eq_true, if_false, List.contains_nil]); rfl))) | ksw_same) rfl
        · simp only [if_neg hlt]
          k_steps
          exact s_out (_, _) _ (by k_asm) (by k_asm) (by intro p hp; cases hp with | head => rfl | tail _ h => cases h with | head => rfl | tail _ h => cases h) (by first | (intro z h2 h3; (try simp only [List.forall_mem_cons, List.not_mem_nil, false_implies, implies_true, and_true] at h2); (repeat (refine (if_neg (by first | exact ne_ct h3 (by decide) | exact h2 | exact h2.1 | exact h2.2 | exact h2.2.1 | exact h2.2.2 | exact h2.2.2.1 | exact h2.2.2.2 | (rw [h3]; exact Bool.false_ne_true))).trans ?_)); (first | rfl | ((try simp only [kstB, h2, h3, Bool.false_eq_true, if_false, List.contains_nil]); done) | ((try simp only [kstB, h2, h3, Bool.false_eq_true, if_false, List.contains_nil]); rfl))) | ksw_same) rfl
      rintro ⟨tc, td⟩ w₅ n5 h5 tk5 rfl F₅ N₅
      dsimp only [kstB] at F₅ ⊢
      have hle : (if yb.length < xb.length then yb else xb).length ≤ (if yb.length < xb.length then xb else yb).length ∧ (if yb.length < xb.length then yb else xb).length ≤ 3 ∧ (if yb.length < xb.length then xb else yb).length ≤ 3 ∧ 1 ≤ (if yb.length < xb.length then yb else xb).length := by
        split <;> omega
      have hk2 : Hold (levS x y mc = levU (if yb.length < xb.length then yb else xb) (if yb.length < xb.length then xb else yb) mc) := by
        have h9 := hk1
        unfold Hold at h9 ⊢
        rw [h9]
        unfold levT
        exact if_neg (by omega)
      generalize hxg : (if yb.length < xb.length then yb else xb) = xc at *
      generalize hyg : (if yb.length < xb.length then xb else yb) = yc at *
      obtain ⟨hl1, hl2, hl3, hl4⟩ := hle
      obtain ⟨uz5, F₅⟩ := Fr.pick F₅ [(PySem.Str.ofString "b", .str yc _), (PySem.Str.ofString "a", .str xc _), (PySem.Str.ofString "max_cost", .int mc _)] ⟨rfl, rfl, rfl, trivial⟩
      dsimp only [kstB] at F₅
      k_steps
      · refine hret _ _ _ _ (by k_asm) (by k_asm) ⟨rfl, _, congrArg (fun z => Value.int z _) ?_⟩
        have h9 := hk2
        unfold Hold at h9
        rw [h9]
        unfold levU
        rw [if_pos (by omega)]
      unfold Hold
      have hk3 : Hold (levS x y mc = match louter xc yc mc yc.length with
          | none => mc + 1
          | some (r, _) => r) := by
        have h9 := hk2
        unfold Hold at h9 ⊢
        rw [h9]
        unfold levU
        exact if_neg (by omega)
      (rename Fr _ _ _ _ => lF'); (rename News _ _ _ _ => lN'); (rename IsRange _ _ _ _ _ _ _ _ => rgX)
      refine list_rangeN rfl lF' lN' rgX (sm2 hl2) (rs2 _) (by omega) ?_
      rintro D us cc h6 tk6 F₆ N₆ hD hI
      have hDn : ∀ p ∈ n5, p.1 ≠ D := fun p hp => Nat.ne_of_lt (hD p hp)
      dsimp only
      k_steps
      unfold Hold
      (rename Fr _ _ _ _ => lF')
      refine For_turns lF' ?_ (fun _ => rfl) (by first | passes_own | with_unfolding_all passes_own)
      k_steps
      unfold Hold
      (rename IntsAre _ _ => hI)
      (rename Fr _ _ _ _ => lF'); (rename News _ _ _ _ => lN'); (rename IsRange _ _ _ _ _ _ _ _ => rgY)
      refine r_loop (σ := (Int × Tok) × List Value × Nat × List Int) (n := yc.length) (fun c => [(PySem.Str.ofString "result", .int c.1.1 c.1.2)]) [PySem.Str.ofString "bindex", PySem.Str.ofString "bchar", PySem.Str.ofString "distance", PySem.Str.ofString "minimum", PySem.Str.ofString "index", PySem.Str.ofString "substitute", PySem.Str.ofString "insert_delete"]
        (fun j c nx => nx = (D, PySem.W.listOf (List.toArray c.2.1) c.2.2.1) :: n5 ∧ IntsAre c.2.1 c.2.2.2 ∧ c.2.2.2.length = xc.length ∧ louter xc yc mc j = some (c.1.1, c.2.2.2))
        ((0, _), us, cc, _) rfl rgY (by exact small_one (by omega) (by omega) (by omega) (by omega)) (by rw [rangeSize_nat]; omega) lF' lN' (by intro p hp; cases hp with | head => rfl | tail _ h => cases h) ⟨rfl, hI, by simp, rfl⟩ ?_ ?_ (fun _ _ _ _ _ q => wpAny_pure q)
      · rintro j tkj ⟨⟨r, tkr⟩, vs, cv, row⟩ w₇ nx I it h7 tk7 hj ⟨rfl, hvs, hrl, hou⟩ hit hnI F₇ N₇
        dsimp only [kstB] at hvs hrl hou F₇ ⊢
        refine m_gen ?_
        intro PP hPP hPR
        rw [show (0 : Int) + (j : Int) * 1 = (j : Int) by omega]
        k_steps
        unfold Hold
        (rename Fr _ _ _ _ => lF')
        refine For_turns lF' ?_ (fun _ => rfl) (by first | passes_own | with_unfolding_all passes_own)
        k_steps
        unfold Hold
        (rename Fr _ _ _ _ => lF'); (rename News _ _ _ _ => lN'); (rename IsRange _ _ _ _ _ _ _ _ => rgZ); (rename IntsAre _ _ => hvs)
        refine r_loop (σ := (Int × Int × List Int × Int) × (Tok × Tok × Tok) × List Value × Nat) (n := xc.length) (fun c => [(PySem.Str.ofString "distance", .int c.1.1 c.2.1.1), (PySem.Str.ofString "result", .int c.1.2.1 c.2.1.2.1), (PySem.Str.ofString "minimum", .int c.1.2.2.2 c.2.1.2.2)]) [PySem.Str.ofString "index", PySem.Str.ofString "substitute", PySem.Str.ofString "insert_delete"]
          (fun i c nx => nx = (D, PySem.W.listOf (List.toArray c.2.2.1) c.2.2.2) :: (I, it) :: n5 ∧ IntsAre c.2.2.1 c.1.2.2.1 ∧ c.1.2.2.1.length = xc.length ∧ c.1 = linner xc (Txt.item yc (j : Int)) ((j : Int) * 2, (j : Int) * 2, row, 9223372036854775807) i)
          (((j : Int) * 2, (j : Int) * 2, row, 9223372036854775807), (_, _, _), vs, cv) rfl rgZ (by exact small_one (by omega) (by omega) (by omega) (by omega)) (by rw [rangeSize_nat]; omega) lF' (news := (D, PySem.W.listOf (List.toArray vs) cv) :: (I, it) :: n5) (fun p hp => lN' p (by
            rcases List.mem_cons.mp hp with rfl | hp
            · exact .tail _ (.head _)
            · rcases List.mem_cons.mp hp with rfl | hp
              · exact .head _
              · exact .tail _ (.tail _ hp))) (by intro p hp; cases hp with | head => rfl | tail _ h => cases h with | head => rfl | tail _ h => cases h with | head => rfl | tail _ h => cases h) ⟨rfl, hvs, hrl, rfl⟩ ?_ ?_ (fun _ _ _ _ _ q => wpAny_pure q)
        · rintro i tki ⟨⟨d8, r8, row8, m8⟩, ⟨t81, t82, t83⟩, vs8, cv8⟩ w₈ nx8 I8 it8 h8 tk8' hi8 ⟨rfl, hvs8, hrl8, hin8⟩ hit8 hnI8 F₈ N₈
          dsimp only [kstB] at hvs8 hrl8 hin8 F₈ ⊢
          refine m_gen ?_
          intro PP8 hPP8 _
          rw [show (0 : Int) + (i : Int) * 1 = (i : Int) by omega]
          have hH : Hold (row8.length = xc.length) := hrl8
          k_steps
          unfold Hold
          k_dflt (refine Ctr.call ⟨by k_asm, by k_asm, by k_asm, by k_asm, by k_asm, by ktr_room, by ktr_units⟩ (c_subst _ _ _ _ _ _ _ (by omega) (by omega)) ?_)
          intro v' n' h' tk' F' N' P'
          obtain ⟨e1, t9, e2⟩ := P'
          subst e1 e2
          (try k_sweep)
          k_steps
          unfold Hold
          refine itemI ((show News _ _ _ _ by assumption).isList (by first | exact .head _ | exact .tail _ (.head _) | exact .tail _ (.tail _ (.head _)))) (by assumption) (by omega) (by omega) (by omega) ?_
          intro _
          k_steps
          unfold Hold
          (rename Fr _ _ _ _ => lF'); (rename News _ _ _ _ => lN')
          have h91 := (show IntsAre vs8 row8 by assumption).length
          have h92 : row8.length = xc.length := hH
          refine setN (vs := vs8) (k := i) lF' lN' (.tail _ (.head _)) (by have h93 : vs8.length = row8.length := h91; omega) (by have h93 : vs8.length = row8.length := h91; omega) fun h9 n9 F₉ NN => ?_
          have N₉ := NN ((I8, it8) :: (I, it) :: n5) (fun p hp => by
            rcases List.mem_cons.mp hp with rfl | hp
            · exact ⟨.head _, ne_cls lN' (.head _) (.tail _ (.head _)) (by rw [hit8]; show Value.type "range_iterator" ≠ Value.type "list"; decide)⟩
            · rcases List.mem_cons.mp hp with rfl | hp
              · exact ⟨.tail _ (.tail _ (.head _)), ne_cls lN' (.tail _ (.tail _ (.head _))) (.tail _ (.head _)) (by rw [hit]; show Value.type "range_iterator" ≠ Value.type "list"; decide)⟩
              · exact ⟨.tail _ (.tail _ (.tail _ hp)), hDn p hp⟩)
          dsimp only
          k_steps
          · refine hPP8 _ ?_; exact rend_list (rest := (I, it) :: n5) ((_, _, _, _), (_, _, _), _, _) (by k_asm) (by k_asm) (hnI8 _ (.head _)) (fun p hp => hnI8 p (.tail _ hp)) (by intro p hp; cases hp with | head => rfl | tail _ h => cases h with | head => rfl | tail _ h => cases h with | head => rfl | tail _ h => cases h) (by first | (intro z h2 h3; (try simp only [List.forall_mem_cons, List.not_mem_nil, false_implies, implies_true, and_true] at h2); (repeat (refine (if_neg (by first | exact ne_ct h3 (by decide) | exact h2 | exact h2.1 | exact h2.2 | exact h2.2.1 | exact h2.2.2 | exact h2.2.2.1 | exact h2.2.2.2 | (rw [h3]; exact Bool.false_ne_true))).trans ?_)); (first | rfl | ((try simp only [kstB, h2, h3, Bool.false_eq_true, if_false, List.contains_nil]); done) | ((try simp only [kstB, h2, h3, Bool.false_eq_true, if_false, List.contains_nil]); rfl))) | ksw_same) ⟨rfl, ints_set (show IntsAre vs8 row8 by assumption) i _ _, by rw [List.length_set]; exact hH, by
              rw [linner_succ, ← hin8]
              exact Prod.ext rfl (Prod.ext rfl (Prod.ext rfl (if_pos (by assumption)).symm))⟩
          · refine hPP8 _ ?_; exact rend_list (rest := (I, it) :: n5) ((_, _, _, _), (_, _, _), _, _) (by k_asm) (by k_asm) (hnI8 _ (.head _)) (fun p hp => hnI8 p (.tail _ hp)) (by intro p hp; cases hp with | head => rfl | tail _ h => cases h with | head => rfl | tail _ h => cases h with | head => rfl | tail _ h => cases h) (by first | (intro z h2 h3; (try simp only [List.forall_mem_cons, List.not_mem_nil, false_implies, implies_true, and_true] at h2); (repeat (refine (if_neg (by first | exact ne_ct h3 (by decide) | exact h2 | exact h2.1 | exact h2.2 | exact h2.2.1 | exact h2.2.2 | exact h2.2.2.1 | exact h2.2.2.2 | (rw [h3]; exact Bool.false_ne_true))).trans ?_)); (first | rfl | ((try simp only [kstB, h2, h3, Bool.false_eq_true, if_false, List.contains_nil]); done) | ((try simp only [kstB, h2, h3, Bool.false_eq_true, if_false, List.contains_nil]); rfl))) | ksw_same) ⟨rfl, ints_set (show IntsAre vs8 row8 by assumption) i _ _, by rw [List.length_set]; exact hH, by
              rw [linner_succ, ← hin8]
              exact Prod.ext rfl (Prod.ext rfl (Prod.ext rfl (if_neg (by assumption)).symm))⟩
        · rintro ⟨⟨d8, r8, row8, m8⟩, ⟨t81, t82, t83⟩, vs8, cv8⟩ w₈ nx8 h8 tk8' ⟨rfl, hvs8, hrl8, hin8⟩ F₈ N₈
          dsimp only [kstB] at hvs8 hrl8 hin8 F₈ ⊢
          have hH : Hold (row8.length = xc.length) := hrl8
          k_steps
          · refine hPR _ _ ?_
            dsimp only
            k_steps
            (rename News _ _ _ _ => lN9)
            refine hret _ _ _ _ (by k_asm) (cb_drop lN9 fun p hp => .tail _ (.tail _ hp)) ⟨rfl, _, congrArg (fun z => Value.int z _) ?_⟩
            have h9 := hk3
            unfold Hold at h9
            have e : louter xc yc mc (j + 1) = none := by
              unfold louter
              rw [hou]
              dsimp only
              rw [← hin8]
              exact if_pos (by assumption)
            rw [h9, louter_none e _ (by omega)]
          · refine hPP _ ?_; exact r_end (news' := (D, PySem.W.listOf (List.toArray vs8) cv8) :: (I, it) :: n5) ((_, _), _, _, _) ((D, PySem.W.listOf (List.toArray vs8) cv8) :: n5) (by k_asm) (by k_asm) (.tail _ (.head _)) (fun p hp => by
              rcases List.mem_cons.mp hp with rfl | hp
              · exact ⟨.head _, .inl (show D ≠ I from (hnI (D, PySem.W.listOf (List.toArray vs) cv) (.head _)))⟩
              · exact ⟨.tail _ (.tail _ hp), .inl (hnI _ (.tail _ hp))⟩) (by intro p hp; cases hp with | head => rfl | tail _ h => cases h) (by first | (intro z h2 h3; (try simp only [List.forall_mem_cons, List.not_mem_nil, false_implies, implies_true, and_true] at h2); (repeat (refine (if_neg (by first | exact ne_ct h3 (by decide) | exact h2 | exact h2.1 | exact h2.2 | exact h2.2.1 | exact h2.2.2 | exact h2.2.2.1 | exact h2.2.2.2 | (rw [h3]; exact Bool.false_ne_true))).trans ?_)); (first | rfl | ((try simp only [kstB, h2, h3, Bool.false_eq_true, if_false, List.contains_nil]); done) | ((try simp only [kstB, h2, h3, Bool.false_eq_true, if_false, List.contains_nil]); rfl))) | ksw_same) ⟨rfl, by assumption, hH, by
              show louter xc yc mc (j + 1) = _
              unfold louter
              rw [hou]
              dsimp only
              rw [← hin8]
              exact if_neg (by assumption)⟩
      · rintro ⟨⟨r, tkr⟩, vs, cv, row⟩ w₇ nx h7 tk7 ⟨rfl, hvs, hrl, hou⟩ F₇ N₇
        dsimp only [kstB] at hvs hrl hou F₇ ⊢
        k_steps
        (rename News _ _ _ _ => lN9)
        refine hret _ _ _ _ (by k_asm) (cb_drop lN9 fun p hp => .tail _ hp) ⟨rfl, _, congrArg (fun z => Value.int z _) ?_⟩
        have h9 := hk3
        unfold Hold at h9
        rw [h9, hou]
end
section
noncomputable def scMore (x y : PySem.Str) : Int := 2 * ((y.length : Int) - (x.length : Int))
noncomputable def scOther (x y : PySem.Str) : Int := scMore x y + (x.length : Int)
noncomputable def scPlain (x y : PySem.Str) : Int := levS (Txt.lower x) (Txt.lower y) (scMore x y)
noncomputable def scMixed (x y : PySem.Str) : Int := if y.length = 3 then levS (Txt.upper y) (Txt.lower x) (scOther x y) else levS (Txt.upper x) (Txt.lower y) (scOther x y)
noncomputable def scVs (x y : PySem.Str) : List Value := [.bool (scPlain x y == scMore x y), .bool (scOther x y == scMixed x y), .bool (decide (scMore x y ≤ scPlain x y) && decide (scOther x y ≤ scMixed x y))]
theorem scMixed_3 {x y : PySem.Str} (h : y.length = 3) : scMixed x y = levS (Txt.upper y) (Txt.lower x) (scOther x y) := if_pos h
theorem scMixed_n {x y : PySem.Str} (h : ¬ y.length = 3) : scMixed x y = levS (Txt.upper x) (Txt.lower y) (scOther x y) := if_neg h
theorem scV_eq {x y : PySem.Str} {b1 b2 b3 : Bool} (h1 : (scPlain x y == scMore x y) = b1) (h2 : (scOther x y == scMixed x y) = b2) (h3 : (decide (scMore x y ≤ scPlain x y) && decide (scOther x y ≤ scMixed x y)) = b3) : #[Value.bool b1, .bool b2, .bool b3] = List.toArray (scVs x y) := by
  subst h1 h2 h3
  rfl
theorem c_scat (W w) (x y : PySem.Str) (tx ty : Tok) (news : Led) (hx : x.length ≤ 3) (hy : y.length ≤ 3) (hlx : (Txt.lower x).length ≤ 3) (hly : (Txt.lower y).length ≤ 3) (hux : (Txt.upper x).length ≤ 3) (huy : (Txt.upper y).length ≤ 3) :
    Ctr W w 265 ⟨[.str x tx, .str y ty], []⟩ news 6 60 (fun v news' => ∃ D n, v = .ref D ∧ news' = (D, PySem.W.listOf (List.toArray (scVs x y)) n) :: news) := by
  unfold Ctr
  intro dp ut gd cn nms ig ic mo a ccd cl outer A₀ base h₀ L m s R B F X N T hdp hup hret
  k_dflt k_enter
  k_steps
  unfold Hold
  k_dflt (refine Ctr.call ⟨by k_asm, by k_asm, by k_asm, by k_asm, by k_asm, by ktr_room, by ktr_units⟩ (c_sub _ _ _ _ _ _ _) ?_)
  intro v' n' h' tk' F' N' P'
  obtain ⟨e1, t9, e2⟩ := P'
  subst e1 e2
  (try k_sweep)
  k_steps
  unfold Hold
  k_dflt (refine Ctr.call ⟨by k_asm, by k_asm, by k_asm, by k_asm, by k_asm, by ktr_room, by ktr_units⟩ (c_mul _ _ _ _ _ _ (.of_left (by decide +kernel)) _) ?_)
  intro v' n' h' tk' F' N' P'
  obtain ⟨e1, t9, e2⟩ := P'
  subst e1 e2
  (try k_sweep)
  k_steps
  unfold Hold
  k_dflt (refine Ctr.call ⟨by k_asm, by k_asm, by k_asm, by k_asm, by k_asm, by ktr_room, by ktr_units⟩ (c_add _ _ _ _ _ _ _) ?_)
  intro v' n' h' tk' F' N' P'
  obtain ⟨e1, t9, e2⟩ := P'
  subst e1 e2
  (try k_sweep)
  k_steps
  unfold Hold
  k_dflt (refine Ctr.call ⟨by k_asm, by k_asm, by k_asm, by k_asm, by k_asm, by ktr_room, by ktr_units⟩ (c_lev _ _ _ _ _ _ _ _ _ (by assumption) (by assumption)) ?_)
  intro v' n' h' tk' F' N' P'
  obtain ⟨e1, t9, e2⟩ := P'
  subst e1 e2
  (try k_sweep)
  k_steps
  all_goals unfold Hold
  all_goals k_dflt (refine Ctr.call ⟨by k_asm, by k_asm, by k_asm, by k_asm, by k_asm, by ktr_room, by ktr_units⟩ (c_lev _ _ _ _ _ _ _ _ _ (by assumption) (by assumption)) ?_)
  all_goals (intro v' n' h' tk' F' N' P'; obtain ⟨e1, t9, e2⟩ := P'; subst e1 e2; (try k_sweep))
  all_goals k_steps
  all_goals unfold Hold
  all_goals k_dflt (refine Ctr.call ⟨by k_asm, by k_asm, by k_asm, by k_asm, by k_asm, by ktr_room, by ktr_units⟩ (c_eq _ _ _ _ _ _ _) ?_)
  all_goals (intro v' n' h' tk' F' N' P'; obtain ⟨e1, e2⟩ := P'; subst e1 e2; (try k_sweep))
  all_goals k_steps
  all_goals unfold Hold
  all_goals k_dflt (refine Ctr.call ⟨by k_asm, by k_asm, by k_asm, by k_asm, by k_asm, by ktr_room, by ktr_units⟩ (c_eq _ _ _ _ _ _ _) ?_)
  all_goals (intro v' n' h' tk' F' N' P'; obtain ⟨e1, e2⟩ := P'; subst e1 e2; (try k_sweep))
  all_goals k_steps
  all_goals (rename News _ _ _ _ => lN9)
  all_goals (first | have hm := scMixed_3 (x := x) (y := y) (by omega) | have hm := scMixed_n (x := x) (y := y) (by omega))
  all_goals refine hret _ _ _ _ (by k_asm) lN9 ⟨_, _, rfl, congrArg (fun z => (_, PySem.W.listOf z _) :: news) (scV_eq rfl (by rw [hm]; rfl) ?_)⟩
  all_goals rw [hm]
  all_goals first
    | (rw [decide_eq_true (show scMore x y ≤ scPlain x y by (show 2 * ((y.length : Int) - (x.length : Int)) ≤ levS (Txt.lower x) (Txt.lower y) (2 * ((y.length : Int) - (x.length : Int)))); omega), Bool.true_and]; rfl)
    | (rw [decide_eq_false (show ¬ scMore x y ≤ scPlain x y by (show ¬ 2 * ((y.length : Int) - (x.length : Int)) ≤ levS (Txt.lower x) (Txt.lower y) (2 * ((y.length : Int) - (x.length : Int)))); omega), Bool.false_and]; exact (decide_eq_false (by omega)).symm)
end
section
noncomputable def letAt (ns : List Int) (k : Nat) : Nat := [97, 65, 98, 66, 99, 67].getD ((drawn ns k).fmod 6).toNat 0
theorem letItem0 : ∀ q : Nat, q < 6 → Txt.item (PySem.Str.ofString "aAbBcC") (q : Int) = S [[97, 65, 98, 66, 99, 67].getD q 0] := by decide +kernel
theorem letLc0 : ∀ q : Nat, q < 6 → lc ([97, 65, 98, 66, 99, 67].getD q 0) = true := by decide
theorem fmod6 (ns : List Int) (k : Nat) : ∃ q : Nat, q < 6 ∧ (drawn ns k).fmod 6 = (q : Int) := by
  have h0 : 0 ≤ (drawn ns k).fmod 6 := Int.fmod_nonneg_of_pos _ (by decide)
  have h1 : (drawn ns k).fmod 6 < 6 := Int.fmod_lt_of_pos _ (by decide)
  obtain ⟨q, hq⟩ := Int.eq_ofNat_of_zero_le h0
  exact ⟨q, by omega, hq⟩
theorem letItem (ns : List Int) (k : Nat) : Txt.item (PySem.Str.ofString "aAbBcC") ((drawn ns k).fmod 6) = S [letAt ns k] := by
  obtain ⟨q, h, hq⟩ := fmod6 ns k
  unfold letAt
  rw [hq, Int.toNat_natCast]
  exact letItem0 q h
theorem letLc (ns : List Int) (k : Nat) : lc (letAt ns k) = true := by
  obtain ⟨q, h, hq⟩ := fmod6 ns k
  unfold letAt
  rw [hq, Int.toNat_natCast]
  exact letLc0 q h
noncomputable def masks : List Nat := [0, 1, 2, 3, 4, 5, 6, 7, 0, 8, 16, 24]
noncomputable def bitOf (m k : Nat) : Bool := m / 2 ^ k % 2 == 1
noncomputable def wordAt (ns : List Int) (m : Nat) : List Nat := ((List.range 5).filter (bitOf m)).map (letAt ns)
noncomputable def numAt (ns : List Int) (i : Nat) : Int := ((drawn ns i).fdiv 6).fmod 100 - 50
theorem wordAt_LW (ns : List Int) (m : Nat) : LW (wordAt ns m) := by
  intro c hc
  obtain ⟨k, _, rfl⟩ := List.mem_map.mp hc
  exact letLc ns k
theorem wordAt_len (ns : List Int) (m : Nat) : (wordAt ns m).length ≤ 5 := by
  unfold wordAt
  rw [List.length_map]
  exact Nat.le_trans (List.length_filter_le _ _) (by simp)
theorem numAt_lo (ns : List Int) (i : Nat) : -50 ≤ numAt ns i := by
  have := Int.fmod_nonneg_of_pos ((drawn ns i).fdiv 6) (b := 100) (by decide)
  unfold numAt; omega
theorem numAt_hi (ns : List Int) (i : Nat) : numAt ns i ≤ 49 := by
  have := Int.fmod_lt_of_pos ((drawn ns i).fdiv 6) (b := 100) (by decide)
  unfold numAt; omega
noncomputable abbrev Book := List (List Nat × Int)
noncomputable def key (wd : List Nat) (r : List Nat × Int) : Bool := lowW r.1 == lowW wd
noncomputable def rowS (r : List Nat × Int) : PySem.Str × PySem.Str := (S r.1, numS r.2)
noncomputable def bookStep (b : Book) (wd : List Nat) (nu : Int) : Book := match b.find? (key wd) with
  | some _ => b
  | none => b ++ [(wd, nu)]
noncomputable def toldOf (b : Book) (wd : List Nat) (nu : Int) : PySem.Str := match b.find? (key wd) with
  | some r => numS r.2
  | none => numS nu
noncomputable def bookAt (ns : List Int) : Nat → Book
  | 0 => []
  | i + 1 => bookStep (bookAt ns i) (wordAt ns (masks.getD i 0)) (numAt ns i)
noncomputable def toldAt (ns : List Int) : Nat → List PySem.Str
  | 0 => []
  | i + 1 => toldAt ns i ++ [toldOf (bookAt ns i) (wordAt ns (masks.getD i 0)) (numAt ns i)]
structure BOk (b : Book) : Prop where
  lw : ∀ r ∈ b, LW r.1
  len : ∀ r ∈ b, r.1.length ≤ 5
  lo : ∀ r ∈ b, -50 ≤ r.2
  hi : ∀ r ∈ b, r.2 ≤ 49
  nd : (b.map fun r => lowW r.1).Nodup
theorem bookStep_ok {b : Book} (h : BOk b) {wd : List Nat} {nu : Int} (hw : LW wd) (hl : wd.length ≤ 5) (h0 : -50 ≤ nu) (h1 : nu ≤ 49) : BOk (bookStep b wd nu) := by
  unfold bookStep
  split
  · exact h
  · rename_i e
    have hn := List.find?_eq_none.mp e
    refine ⟨?_, ?_, ?_, ?_, ?_⟩
    · intro r hr
      rcases List.mem_append.mp hr with hr | hr
      · exact h.lw r hr
      · rw [List.mem_singleton.mp hr]; exact hw
    · intro r hr
      rcases List.mem_append.mp hr with hr | hr
      · exact h.len r hr
      · rw [List.mem_singleton.mp hr]; exact hl
    · intro r hr
      rcases List.mem_append.mp hr with hr | hr
      · exact h.lo r hr
      · rw [List.mem_singleton.mp hr]; exact h0
    · intro r hr
      rcases List.mem_append.mp hr with hr | hr
      · exact h.hi r hr
      · rw [List.mem_singleton.mp hr]; exact h1
    · rw [List.map_append, List.nodup_append]
      refine ⟨h.nd, by simp, ?_⟩
      intro x hx y hy
      obtain ⟨r, hr, rfl⟩ := List.mem_map.mp hx
      have hy' : y = lowW wd := by simpa using hy
      intro e2
      exact hn r hr (by unfold key; rw [e2, hy']; exact beq_self_eq_true _)
theorem bookAt_ok (ns : List Int) : ∀ i, BOk (bookAt ns i)
  | 0 => ⟨fun _ h => (nomatch h), fun _ h => (nomatch h), fun _ h => (nomatch h), fun _ h => (nomatch h), .nil⟩
  | i + 1 => bookStep_ok (bookAt_ok ns i) (wordAt_LW _ _) (wordAt_len _ _) (numAt_lo _ _) (numAt_hi _ _)
theorem bookStep_len (b : Book) (wd : List Nat) (nu : Int) : (bookStep b wd nu).length ≤ b.length + 1 := by
  unfold bookStep
  split
  · omega
  · simp
theorem bookAt_len (ns : List Int) : ∀ i, (bookAt ns i).length ≤ i
  | 0 => Nat.le_refl _
  | i + 1 => Nat.le_trans (bookStep_len _ _ _) (Nat.succ_le_succ (bookAt_len ns i))
theorem toldAt_len (ns : List Int) : ∀ i, (toldAt ns i).length = i
  | 0 => rfl
  | i + 1 => by simp [toldAt, toldAt_len ns i]
theorem S_key {r : List Nat × Int} {wd : List Nat} (h : LW r.1) (hw : LW wd) : (Txt.lower (S r.1) == Txt.lower (S wd)) = key wd r := by
  rw [h.low, hw.low, S_beq]; rfl
theorem find_rows {b : Book} (h : ∀ r ∈ b, LW r.1) {wd : List Nat} (hw : LW wd) : (b.map rowS).find? (fun r => Txt.lower r.1 == Txt.lower (S wd)) = (b.find? (key wd)).map rowS := by
  induction b with
  | nil => rfl
  | cons r b ih =>
    have h1 : (Txt.lower (rowS r).1 == Txt.lower (S wd)) = key wd r := S_key (h r (.head _)) hw
    rw [List.map_cons, List.find?_cons, List.find?_cons, h1]
    cases key wd r with
    | true => rfl
    | false => exact ih fun r hr => h r (.tail _ hr)
theorem sd_told {b : Book} (h : BOk b) {wd : List Nat} (hw : LW wd) (nu : Int) : ((((b.map rowS).find? (fun r => Txt.lower r.1 == Txt.lower (S wd))).map (·.2)).getD (numS nu)) = toldOf b wd nu := by
  rw [find_rows h.lw hw]
  unfold toldOf
  cases b.find? (key wd) with
  | none => rfl
  | some r => rfl
theorem sd_rows {b : Book} (h : BOk b) {wd : List Nat} (hw : LW wd) (nu : Int) : (match (b.map rowS).find? (fun r => Txt.lower r.1 == Txt.lower (S wd)) with | some _ => b.map rowS | none => b.map rowS ++ [(S wd, numS nu)]) = (bookStep b wd nu).map rowS := by
  rw [find_rows h.lw hw]
  unfold bookStep
  cases b.find? (key wd) with
  | none => simp [rowS]
  | some r => rfl
theorem filter_none {b : Book} {wd : List Nat} : b.filter (key wd) = [] ↔ b.find? (key wd) = none := by
  rw [List.find?_eq_none, List.filter_eq_nil_iff]
theorem filter_one : ∀ {b : Book}, (b.map fun r => lowW r.1).Nodup → ∀ {wd : List Nat} {r : List Nat × Int}, b.find? (key wd) = some r → b.filter (key wd) = [r]
  | [], _, _, _, e => nomatch e
  | x :: b, h, wd, r, e => by
    rw [List.map_cons, List.nodup_cons] at h
    by_cases hk : key wd x = true
    · rw [List.find?_cons_of_pos hk] at e
      cases e
      rw [List.filter_cons_of_pos hk, List.cons.injEq]
      refine ⟨rfl, List.filter_eq_nil_iff.mpr fun y hy hk2 => h.1 ?_⟩
      have e1 : lowW x.1 = lowW wd := eq_of_beq hk
      have e2 : lowW y.1 = lowW wd := eq_of_beq hk2
      rw [e1, ← e2]
      exact List.mem_map_of_mem (f := fun r : List Nat × Int => lowW r.1) hy
    · rw [List.find?_cons_of_neg hk] at e
      rw [List.filter_cons_of_neg hk]
      exact filter_one h.2 e
theorem due_step {b : Book} (h : BOk b) {wd : List Nat} {nu : Int} : ((bookStep b wd nu).filter (key wd)).map (fun r => numS r.2) = [toldOf b wd nu] := by
  unfold bookStep toldOf
  cases e : b.find? (key wd) with
  | none =>
    have hn := filter_none.mpr e
    have hk : key wd (wd, nu) = true := by unfold key; exact beq_self_eq_true _
    simp only [List.filter_append, hn, List.nil_append, List.filter_cons_of_pos hk, List.filter_nil, List.map_cons, List.map_nil]
  | some r =>
    simp only [filter_one h.nd e, List.map_cons, List.map_nil]
theorem bit_of (m k : Nat) : (((m : Nat) : Int).fdiv (2 ^ ((k : Nat) : Int).toNat)).fmod 2 = ((m / 2 ^ k % 2 : Nat) : Int) := by
  rw [Int.toNat_natCast, Int.fdiv_eq_ediv_of_nonneg _ (by exact Int.le_of_lt (Int.pow_pos (by decide))), Int.fmod_eq_emod_of_nonneg _ (by decide)]
  simp
theorem bit_t {m k : Nat} (h : (((m : Nat) : Int).fdiv (2 ^ ((k : Nat) : Int).toNat)).fmod 2 = 1) : bitOf m k = true := by
  rw [bit_of] at h
  unfold bitOf
  exact beq_iff_eq.mpr (by omega)
theorem bit_f {m k : Nat} (h : (((m : Nat) : Int).fdiv (2 ^ ((k : Nat) : Int).toNat)).fmod 2 ≠ 1) : bitOf m k = false := by
  rw [bit_of] at h
  unfold bitOf
  exact beq_eq_false_iff_ne.mpr (by omega)
theorem letters_flat (ks : List Nat) (f : Nat → Nat) : ((ks.map f).map fun c => S [c]) = ((ks.map f).map fun c => [c]).map S := by
  rw [List.map_map (g := S)]; rfl
theorem singles_flat : ∀ l : List Nat, (l.map fun c => [c]).flatten = l
  | [] => rfl
  | x :: l => by rw [List.map_cons, List.flatten_cons, singles_flat l]; rfl
theorem word_join (ns : List Int) (m : Nat) : Txt.join (PySem.Str.ofString "") ((((List.range 5).filter (bitOf m)).map (letAt ns)).map fun c => S [c]) = S (wordAt ns m) := by
  rw [letters_flat, join_S, singles_flat]; rfl
theorem sum_singles : ∀ l : List Nat, ((l.map fun c => S [c]).map (·.length)).sum = l.length
  | [] => rfl
  | x :: l => by
    rw [List.map_cons, List.map_cons, List.sum_cons, sum_singles l, S_len, List.length_cons, List.length_cons]; simp; omega
noncomputable def BRow (l : Addr) (news : List (Addr × Obj)) (v : Value) (r : List Nat × Int) : Prop := ∃ a n tk tx, v = Value.ref a ∧ a ≠ l ∧ (a, PySem.W.listOf #[Value.str (S r.1) tk, Value.int r.2 tx] n) ∈ news
theorem BRow.mono {l : Addr} {news news' : List (Addr × Obj)} {v : Value} {r : List Nat × Int} (h : BRow l news v r) (hs : ∀ p ∈ news, p.1 ≠ l → p ∈ news') : BRow l news' v r :=
  let ⟨a, n, tk, tx, e, hn, hm⟩ := h
  ⟨a, n, tk, tx, e, hn, hs _ hm hn⟩
noncomputable def datRow (r : List Nat × Int) : Dat := .list [.str (S r.1), .int r.2]
theorem datRows {l : Addr} {news : List (Addr × Obj)} {ys : List Value} {b : Book} (h : A2 (BRow l news) ys b) : DatAll news ys (b.map datRow) := by
  induction h with
  | nil => exact .nil
  | cons r _ ih =>
    obtain ⟨a, n, tk, tx, e, _, hm⟩ := r
    subst e
    exact .cons (.list (vs := [_, _]) hm (.cons (.str _ _) (.cons (.int _ _) .nil))) ih
theorem strOk_S {w : List Nat} (h : LW w) : PyData.strOk (S w) = true := by
  have : ∀ c ∈ w, decide (c < 0x110000) = true := fun c hc => decide_eq_true (by rcases lc_cases (h c hc) with h | h | h | h | h | h <;> omega)
  unfold PyData.strOk S
  simpa using this
theorem datRow_ok {b : Book} (h : ∀ r ∈ b, LW r.1) : ∀ e ∈ b.map datRow, kqdOk 8 e = true := by
  intro e he
  obtain ⟨r, hr, rfl⟩ := List.mem_map.mp he
  simp [datRow, kqdOk, strOk_S (h r hr)]
theorem datStrs {news : List (Addr × Obj)} {vs : List Value} {xs : List PySem.Str} (h : StrsAre vs xs) : DatAll news vs (xs.map Dat.str) := by
  induction h with
  | nil => exact .nil
  | cons y t _ ih => exact .cons (.str y t) ih
theorem strOk_clean {x : PySem.Str} (h : Clean x) : PyData.strOk x = true := by
  unfold PyData.strOk
  rw [Array.all_eq_true']
  intro c hc
  exact decide_eq_true (by have := h c (by simpa using hc); omega)
theorem datStr_ok {xs : List PySem.Str} (h : ∀ x ∈ xs, Clean x) : ∀ e ∈ xs.map Dat.str, kqdOk 8 e = true := by
  intro e he
  obtain ⟨x, hx, rfl⟩ := List.mem_map.mp he
  simp [kqdOk, strOk_clean (h x hx)]
theorem toldOf_clean {b : Book} (h : BOk b) {wd : List Nat} {nu : Int} (h0 : -50 ≤ nu) (h1 : nu ≤ 49) : Clean (toldOf b wd nu) := by
  unfold toldOf
  cases e : b.find? (key wd) with
  | none => exact (num_back (by omega) (by omega)).2.1
  | some r =>
    have hr := List.mem_of_find?_eq_some e
    have := h.lo r hr
    have := h.hi r hr
    exact (num_back (by omega) (by omega)).2.1
theorem toldAt_clean (ns : List Int) : ∀ i, ∀ x ∈ toldAt ns i, Clean x
  | 0, _, h => nomatch h
  | i + 1, x, h => by
    rcases List.mem_append.mp h with h | h
    · exact toldAt_clean ns i x h
    · rw [List.mem_singleton.mp h]
      exact toldOf_clean (bookAt_ok ns i) (numAt_lo _ _) (numAt_hi _ _)
theorem below_cons {a b : Nat} {l : List Nat} (hb : b < a) (h : ∀ x ∈ l, x < b) : ∀ x ∈ b :: l, x < a := fun x hx => by
  rcases List.mem_cons.mp hx with rfl | hx
  · exact hb
  · exact Nat.lt_trans (h x hx) hb
theorem nd_cons {a : Nat} {l : List Nat} (h : ∀ x ∈ l, x < a) (hl : l.Nodup) : (a :: l).Nodup :=
  List.nodup_cons.mpr ⟨fun hm => Nat.lt_irrefl _ (h a hm), hl⟩
theorem lay_nd {L1 D1 bk tl du lm : Nat} (h0 : L1 + 1 + 1 + 1 + 1 < bk) (h1 : D1 < bk) (h2 : bk < tl) (h3 : tl < du) (h4 : du < lm) (q1 : L1 + 1 + 1 + 1 + 1 ≠ D1) (q2 : L1 + 1 + 1 + 1 ≠ D1) (q3 : L1 + 1 + 1 ≠ D1) (q4 : L1 + 1 ≠ D1) : ([du, tl, bk, lm, D1, L1 + 1 + 1 + 1 + 1, L1 + 1 + 1 + 1, L1 + 1 + 1, L1 + 1] : List Nat).Nodup := by
  have n0 : ∀ x ∈ ([] : List Nat), x < L1 + 1 := fun _ h => nomatch h
  have c2 := below_cons (Nat.lt_succ_self (L1 + 1)) n0
  have c3 := below_cons (Nat.lt_succ_self (L1 + 1 + 1)) c2
  have c4 := below_cons (Nat.lt_succ_self (L1 + 1 + 1 + 1)) c3
  have d4 : ([L1 + 1 + 1 + 1 + 1, L1 + 1 + 1 + 1, L1 + 1 + 1, L1 + 1] : List Nat).Nodup := nd_cons c4 (nd_cons c3 (nd_cons c2 (nd_cons n0 List.nodup_nil)))
  have dD : (D1 :: [L1 + 1 + 1 + 1 + 1, L1 + 1 + 1 + 1, L1 + 1 + 1, L1 + 1] : List Nat).Nodup := List.nodup_cons.mpr ⟨fun hm => by
    rcases List.mem_cons.mp hm with e | hm
    · exact q1 e.symm
    rcases List.mem_cons.mp hm with e | hm
    · exact q2 e.symm
    rcases List.mem_cons.mp hm with e | hm
    · exact q3 e.symm
    · exact q4 (List.mem_singleton.mp hm).symm, d4⟩
  have bD : ∀ x ∈ (D1 :: [L1 + 1 + 1 + 1 + 1, L1 + 1 + 1 + 1, L1 + 1 + 1, L1 + 1] : List Nat), x < bk := fun x hx => by
    rcases List.mem_cons.mp hx with rfl | hx
    · exact h1
    · exact below_cons h0 c4 x hx
  have k2 : bk < du := Nat.lt_trans h2 h3
  have lD : ∀ x ∈ (D1 :: [L1 + 1 + 1 + 1 + 1, L1 + 1 + 1 + 1, L1 + 1 + 1, L1 + 1] : List Nat), x < lm := fun x hx => Nat.lt_trans (bD x hx) (Nat.lt_trans k2 h4)
  have dl := nd_cons lD dD
  have up : ∀ {a : Nat} {l : List Nat}, a ≠ lm → (∀ x ∈ l, x < a) → (lm :: l).Nodup → ∀ r : List Nat, a ∉ lm :: l := fun ha h _ _ hm => by
    rcases List.mem_cons.mp hm with e | hm
    · exact ha e
    · exact Nat.lt_irrefl _ (h _ hm)
  have db : (bk :: lm :: D1 :: [L1 + 1 + 1 + 1 + 1, L1 + 1 + 1 + 1, L1 + 1 + 1, L1 + 1] : List Nat).Nodup := List.nodup_cons.mpr ⟨up (Nat.ne_of_lt (Nat.lt_trans k2 h4)) bD dl [], dl⟩
  have dt : (tl :: bk :: lm :: D1 :: [L1 + 1 + 1 + 1 + 1, L1 + 1 + 1 + 1, L1 + 1 + 1, L1 + 1] : List Nat).Nodup := List.nodup_cons.mpr ⟨fun hm => by
    rcases List.mem_cons.mp hm with e | hm
    · exact Nat.ne_of_gt h2 e
    · exact up (Nat.ne_of_lt (Nat.lt_trans h3 h4)) (fun x hx => Nat.lt_trans (bD x hx) h2) dl [] hm, db⟩
  exact List.nodup_cons.mpr ⟨fun hm => by
    rcases List.mem_cons.mp hm with e | hm
    · exact Nat.ne_of_gt h3 e
    rcases List.mem_cons.mp hm with e | hm
    · exact Nat.ne_of_gt k2 e
    · exact up (Nat.ne_of_lt h4) (fun x hx => Nat.lt_trans (bD x hx) k2) dl [] hm, dt⟩
end
section
local macro_rules | `(tactic| walk_at "subscriptTail Name Constant ref int") => `(tactic| refine Hold.out ?_)
local macro_rules | `(tactic| walk_at "compareOp Eq ref ref") => `(tactic| refine Hold.out ?_)
local macro_rules | `(tactic| walk_at "eval ListComp Name cons") => `(tactic| refine Hold.out ?_)
local macro_rules | `(tactic| walk_at "eval ListComp Call cons") => `(tactic| refine Hold.out ?_)
local macro_rules | `(tactic| walk_at "call builtin:list.extend") => `(tactic| refine Hold.out ?_)
local macro_rules | `(tactic| walk_at "subscriptTail Name Name ref int") => `(tactic| refine Hold.out ?_)
local macro_rules | `(tactic| walk_at "eval ListComp Subscript cons") => `(tactic| refine Hold.out ?_)
local macro_rules | `(tactic| walk_at "exec For Tuple Call cons nil") => `(tactic| refine Hold.out ?_)
local macro_rules | `(tactic| walk_at "call type:enumerate") => `(tactic| refine Hold.out ?_)
local macro_rules | `(tactic| walk_at "exec If") => `(tactic| refine Hold.m 12 (by with_reducible assumption) ?_)
local macro_rules | `(tactic| walk_at "exec Expr") => `(tactic| refine Hold.m 11 (by with_reducible assumption) ?_)
local macro_rules | `(tactic| walk_at "call builtin:str.join") => `(tactic| refine Hold.out ?_)
local macro_rules | `(tactic| k_all) => `(tactic| (with_reducible assumption))
theorem c_lay (W w) (sa : Addr) (vs : List Value) (ns : List Int) (hi : IntsAre vs ns) (hz : ns.length ≤ 63) (t d l : Addr) (news : Led) (hT : HT news t d l []) :
    CtrS (ScL sa vs) W w 258 ⟨[.ref sa, .ref t], []⟩ news 12 120 (fun v news' => ∃ T n bk bvs e1 rest, v = Value.ref T ∧ news' = (T, tupO [Value.ref bk, Value.bool true] n) :: (bk, PySem.W.listOf (List.toArray bvs) e1) :: rest ∧ bk ≠ l ∧ (∀ p ∈ rest, p.1 ≠ bk) ∧ A2 (BRow l rest) bvs (bookAt ns 12) ∧ HT rest t d l ((bookAt ns 12).map rowS) ∧ Ups l news rest) := by
  unfold CtrS
  intro dp ut gd cn nms ig ic mo a ccd cl outer A₀ base h₀ L m s R hS B F X N T hdp hup hret
  k_dflt k_enter
  (rename Fr h₀ _ _ _ => FG)
  unfold ScL at hS
  have hS2 : ScL sa vs _ := FG.lst hS
  rename_i g1 L1 hz0 tkz Fz Bz Xz Tz l1z oA oB oC oD dA dB dC dD lN0
  replace dA := dA.trans (congrArg Data.cell (a₂ := none) (by kernel_rfl))
  replace dB := dB.trans (congrArg Data.cell (a₂ := none) (by kernel_rfl))
  replace dC := dC.trans (congrArg Data.cell (a₂ := none) (by kernel_rfl))
  replace dD := dD.trans (congrArg Data.cell (a₂ := some (Value.ref sa)) (by kernel_rfl))
  (rename Fr _ _ _ _ => lF'); replace lF' := Fr.eqm lF' (fun y => if y = PySem.Str.ofString "table" then some (.ref t) else none) (by kernel_rfl)
  k_steps
  unfold Hold
  (rename Fr _ _ _ _ => lF')
  k_dflt (refine' c_eval (emit := fun C D => emit1 _ (.ref D) (compEnvC _ _ C _)) lF' (fun C D I => turn_one _ _ _ _ _ _ _ _ _) ?hclos ?hcell ?hkind ?hnames ?hs ?_; (case hclos => with_unfolding_all rfl); (case hcell => decide); (case hkind => rfl); (case hnames => decide); (case hs => intro _; rfl))
  k_steps
  (rename Fr _ _ _ _ => lF'); (rename News _ _ _ _ => lN'); (rename IsRange _ _ _ _ _ _ _ _ => rgX)
  refine srcR (n := 5) (fun i ys => StrsAre ys ((List.range i).map fun k => S [letAt ns k])) rfl lF' lN' rgX (by decide) (by decide) .nil ?_ ?_
  · intro i tk₀ ys I oI C oC D m₂ h tk E' hi5 hJ hz5 off hne F₁ N₁ hN₁
    rw [show (0 : Int) + (i : Int) * 1 = (i : Int) by omega]
    refine casg1 F₁ N₁ hN₁ hne off (by rfl) rfl fun oC' mN h' tk' hN₂ hkv hoth F₂ N₂ => ?_
    dsimp only
    refine tests0 ?_
    rw [if_pos rfl]
    refine emit_one hne ?_
    k_steps
    unfold Hold
    k_dflt (refine CtrS.call hS2 ⟨by k_asm, by k_asm, by k_asm, by k_asm, by k_asm, by ktr_room, by ktr_units⟩ (c_draw _ _ _ _ _ (by assumption) _ (by omega) _ hz _) ?_)
    intro _ _ _ _ _ _ P9
    obtain ⟨e1, _, e2⟩ := P9
    subst e1 e2
    (try k_sweep)
    k_steps
    rw [letItem]
    exact elt_end (by k_asm) (by k_asm) off hN₂ trivial (by have := strs_len hJ; rw [List.length_map, List.length_range] at this; omega) ⟨rfl, by
      rw [List.range_succ, List.map_append]
      exact strs_app hJ (.cons _ _ .nil)⟩
  · intro D1 ls h1 tk1 hls hD1 F₁ N₁
    dsimp only
    have q1 := neN (hD1 _ (.head _))
    have q2 := neN (hD1 _ (.tail _ (.head _)))
    have q3 := neN (hD1 _ (.tail _ (.tail _ (.head _))))
    have q4 := neN (hD1 _ (.tail _ (.tail _ (.tail _ (.head _)))))
    have q5 : ∀ p ∈ news, p.1 ≠ D1 := fun p hp => hD1 p (.tail _ (.tail _ (.tail _ (.tail _ hp))))
    dsimp only at q1 q2 q3 q4
    k_steps
    unfold Hold
    rename_i hL oL dL bk hb7 lb tl hb6 lt du hb5 ld Tp hb4 lT hb3 hb2 hb1 hb0 F9 N9
    (rename Fr _ _ _ _ => lF')
    refine For_turns lF' ?_ (fun _ => rfl) (by first | passes_own | with_unfolding_all passes_own)
    k_steps
    unfold Hold
    rename_i lm hm9 F8 N8 lq
    have hM : ∃ mvs : List Value, IntsAre mvs (masks.map fun (x : Nat) => (x : Int)) ∧ News _ _ _ ((lm, PySem.W.listOf (List.toArray mvs) 0) :: _) := ⟨_, by (repeat' constructor), N8⟩
    obtain ⟨mvs, hmI, N8'⟩ := hM
    clear N8
    (rename Fr _ _ _ _ => lF')
    refine en_loop (vs := mvs) (nn := 0) [PySem.Str.ofString "place", PySem.Str.ofString "number"] (fun i nx => ∃ dvs e3 tvs e2 bvs e1 oW oM rest, nx = (du, PySem.W.listOf (List.toArray dvs) e3) :: (tl, PySem.W.listOf (List.toArray tvs) e2) :: (bk, PySem.W.listOf (List.toArray bvs) e1) :: (lm, PySem.W.listOf (List.toArray mvs) 0) :: (D1, lsO ls) :: (L1 + 1 + 1 + 1 + 1, oW) :: (L1 + 1 + 1 + 1, oM) :: (L1 + 1 + 1, oL) :: (L1 + 1, oD) :: rest ∧ (∃ x, oW.data = Data.cell x) ∧ (∃ x, oM.data = Data.cell x) ∧ (∀ p ∈ rest, p.1 ≠ du ∧ p.1 ≠ tl ∧ p.1 ≠ bk ∧ p.1 ≠ lm ∧ p.1 ≠ D1 ∧ p.1 ≠ L1 + 1 + 1 + 1 + 1 ∧ p.1 ≠ L1 + 1 + 1 + 1 ∧ p.1 ≠ L1 + 1 + 1 ∧ p.1 ≠ L1 + 1) ∧ A2 (BRow l rest) bvs (bookAt ns i) ∧ StrsAre tvs (toldAt ns i) ∧ StrsAre dvs (toldAt ns i) ∧ HT rest t d l ((bookAt ns i).map rowS) ∧ Ups l news rest)
      rfl (.tail _ (.tail _ (.tail _ (.head _)))) lF' (news := (du, PySem.W.listOf (List.toArray []) 0) :: (tl, PySem.W.listOf (List.toArray []) 0) :: (bk, PySem.W.listOf (List.toArray []) 0) :: (lm, PySem.W.listOf (List.toArray mvs) 0) :: (D1, lsO ls) :: (L1 + 1 + 1 + 1 + 1, oA) :: (L1 + 1 + 1 + 1, oB) :: (L1 + 1 + 1, oL) :: (L1 + 1, oD) :: news) ?_ ?_ ?_ ?_
    · intro p hp
      refine N8' p ?_
      rcases List.mem_cons.mp hp with rfl | hp
      · exact .tail _ (.tail _ (.head _))
      rcases List.mem_cons.mp hp with rfl | hp
      · exact .tail _ (.tail _ (.tail _ (.head _)))
      rcases List.mem_cons.mp hp with rfl | hp
      · exact .tail _ (.tail _ (.tail _ (.tail _ (.head _))))
      rcases List.mem_cons.mp hp with rfl | hp
      · exact .head _
      · exact .tail _ (.tail _ (.tail _ (.tail _ (.tail _ hp))))
    · refine ⟨[], 0, [], 0, [], 0, oA, oB, news, rfl, ⟨_, dA⟩, ⟨_, dB⟩, fun p hp => ?_, .nil, .nil, .nil, hT, fun p hp _ => hp⟩
      have z := ltN (l1z p hp)
      have b1 := ltN lb.2.2.2.2.1
      have b2 := ltN lt.1
      have b3 := ltN ld.1
      have b4 := ltN lq.2.1
      have b5 := q5 p hp
      refine ⟨neN ?_, neN ?_, neN ?_, neN ?_, b5, neN ?_, neN ?_, neN ?_, neN ?_⟩ <;> omega
    · rintro i v u _ T9 t9 E1 oe I9 oi h9 tk9 hv hec hic ⟨dvs, e3, tvs, e2, bvs, e1, oW, oM, rest, rfl, ⟨xW, hoW⟩, ⟨xM, hoM⟩, off, hbk, htl, hdu, hT9, hU9⟩ hlm hoff hTp F1 N1
      have hi12 : i < 12 := by
        have := (List.getElem?_eq_some_iff.mp hv).1
        have h2 := hmI.length
        simp [masks] at h2
        omega
      have hvm : ∃ tm : Tok, v = Value.int ((masks.getD i 0 : Nat) : Int) tm := by
        obtain ⟨tm, hx⟩ := hmI.get i (((masks.getD i 0 : Nat) : Int)) (by rw [List.getElem?_map, List.getD_eq_getElem?_getD, List.getElem?_eq_getElem (show i < masks.length from hi12)]; rfl)
        exact ⟨tm, Option.some.inj (hv.symm.trans hx)⟩
      obtain ⟨tm, hvm⟩ := hvm
      subst hvm
      have hin := lay_nd (L1 := L1) (D1 := D1) (bk := bk) (tl := tl) (du := du) (lm := lm) (ltN lb.2.1) (ltN lb.1) (ltN lt.1) (ltN ld.1) (ltN lq.2.1) q1 q2 q3 q4
      have hnd : ([E1, I9, du, tl, bk, lm, D1, L1 + 1 + 1 + 1 + 1, L1 + 1 + 1 + 1, L1 + 1 + 1, L1 + 1] : List Addr).Nodup := by
        have e0 := ne_cls N1 (.head _) (.tail _ (.head _)) (by rw [hec, hic]; decide)
        have ea0 := Ne.symm (hoff _ (.head _)).1
        have eb0 := Ne.symm (hoff _ (.head _)).2
        have ea1 := Ne.symm (hoff _ (.tail _ (.head _))).1
        have eb1 := Ne.symm (hoff _ (.tail _ (.head _))).2
        have ea2 := Ne.symm (hoff _ (.tail _ (.tail _ (.head _)))).1
        have eb2 := Ne.symm (hoff _ (.tail _ (.tail _ (.head _)))).2
        have ea3 := Ne.symm (hoff _ (.tail _ (.tail _ (.tail _ (.head _))))).1
        have eb3 := Ne.symm (hoff _ (.tail _ (.tail _ (.tail _ (.head _))))).2
        have ea4 := Ne.symm (hoff _ (.tail _ (.tail _ (.tail _ (.tail _ (.head _)))))).1
        have eb4 := Ne.symm (hoff _ (.tail _ (.tail _ (.tail _ (.tail _ (.head _)))))).2
        have ea5 := Ne.symm (hoff _ (.tail _ (.tail _ (.tail _ (.tail _ (.tail _ (.head _))))))).1
        have eb5 := Ne.symm (hoff _ (.tail _ (.tail _ (.tail _ (.tail _ (.tail _ (.head _))))))).2
        have ea6 := Ne.symm (hoff _ (.tail _ (.tail _ (.tail _ (.tail _ (.tail _ (.tail _ (.head _)))))))).1
        have eb6 := Ne.symm (hoff _ (.tail _ (.tail _ (.tail _ (.tail _ (.tail _ (.tail _ (.head _)))))))).2
        have ea7 := Ne.symm (hoff _ (.tail _ (.tail _ (.tail _ (.tail _ (.tail _ (.tail _ (.tail _ (.head _))))))))).1
        have eb7 := Ne.symm (hoff _ (.tail _ (.tail _ (.tail _ (.tail _ (.tail _ (.tail _ (.tail _ (.head _))))))))).2
        have ea8 := Ne.symm (hoff _ (.tail _ (.tail _ (.tail _ (.tail _ (.tail _ (.tail _ (.tail _ (.tail _ (.head _)))))))))).1
        have eb8 := Ne.symm (hoff _ (.tail _ (.tail _ (.tail _ (.tail _ (.tail _ (.tail _ (.tail _ (.tail _ (.head _)))))))))).2
        dsimp only at ea0 eb0 ea1 eb1 ea2 eb2 ea3 eb3 ea4 eb4 ea5 eb5 ea6 eb6 ea7 eb7 ea8 eb8
        refine List.nodup_cons.mpr ⟨?_, List.nodup_cons.mpr ⟨?_, hin⟩⟩
        · simp only [List.mem_cons, List.not_mem_nil, or_false, not_or]
          exact ⟨e0, ea0, ea1, ea2, ea3, ea4, ea5, ea6, ea7, ea8⟩
        · simp only [List.mem_cons, List.not_mem_nil, or_false, not_or]
          exact ⟨eb0, eb1, eb2, eb3, eb4, eb5, eb6, eb7, eb8⟩
      have w1 := neN (hoff _ (.tail _ (.tail _ (.tail _ (.tail _ (.tail _ (.head _))))))).1
      have w2 := neN (hoff _ (.tail _ (.tail _ (.tail _ (.tail _ (.tail _ (.head _))))))).2
      have w3 := neN (hoff _ (.tail _ (.tail _ (.tail _ (.tail _ (.tail _ (.tail _ (.head _)))))))).1
      have w4 := neN (hoff _ (.tail _ (.tail _ (.tail _ (.tail _ (.tail _ (.tail _ (.head _)))))))).2
      dsimp only at w1 w2 w3 w4
      have offW : ∀ p ∈ rest, p.1 ≠ L1 + 1 + 1 + 1 + 1 := fun p hp => (off p hp).2.2.2.2.2.1
      have offM : ∀ p ∈ rest, p.1 ≠ L1 + 1 + 1 + 1 := fun p hp => (off p hp).2.2.2.2.2.2.1
      have hWL : LW (wordAt ns (masks.getD i 0)) := wordAt_LW _ _
      have hW5 : (wordAt ns (masks.getD i 0)).length ≤ 5 := wordAt_len _ _
      have b1 := lb.2.2.2.2.1
      refine en_gen ?_
      intro PP hPP
      have mk11 : Mk 11 := .mk 11
      refine assign_Tuple_tuple (items := #[_, _]) rfl hTp rfl rfl fun h10 he => ?_
      have F10 := F1.extBut he (Nat.le_refl _)
      have N10 := N1.extBut he (Nat.le_refl _)
      clear F1 N1 he
      dsimp only
      k_steps
      unfold Hold
      (rename Fr _ _ _ _ => lF')
      k_dflt (refine' c_eval (emit := fun C D => emit1 _ (.ref D) (compEnvC _ _ C _)) lF' (fun C D I => turn_one _ _ _ _ _ _ _ _ _) ?hclos ?hcell ?hkind ?hnames ?hs ?_; (case hclos => with_unfolding_all rfl); (case hcell => decide); (case hkind => rfl); (case hnames => decide); (case hs => intro _; rfl))
      k_steps
      (rename Fr _ _ _ _ => lF'); (rename News _ _ _ _ => lN'); (rename IsRange _ _ _ _ _ _ _ _ => rgX)
      unfold Hold
      refine srcR (n := 5) (fun k ys => StrsAre ys ((((List.range k).filter (bitOf (masks.getD i 0))).map (letAt ns)).map fun c => S [c])) rfl lF' lN' rgX (by decide) (by decide) .nil ?_ ?_
      · intro k tk₀ ys I oI C oC D m₂ h tk E' hk5 hJ hz5 off5 hne F₁ N₁ hN₁
        rw [show (0 : Int) + (k : Int) * 1 = (k : Int) by omega]
        refine casg1 F₁ N₁ hN₁ hne off5 (by rfl) rfl fun oC' mN h' tk' hN₂ hkv hoth F₂ N₂ => ?_
        dsimp only
        refine tests1 ?_
        k_steps
        · refine emit_one hne ?_
          k_steps
          unfold Hold
          (rename News _ _ _ _ => lN')
          obtain ⟨t7, hx⟩ := strs_get hls k (S [letAt ns k]) (by rw [List.getElem?_map, List.getElem?_range hk5]; rfl)
          have zD := lN' (D1, lsO ls) (by k_mem)
          refine itemAny (items := List.toArray ls) ⟨_, zD.1, rfl, ls.length, rfl⟩ (by omega) (by omega) (by simpa using hx) ?_
          exact elt_end (by k_asm) (by k_asm) off5 hN₂ trivial (by have := strs_len hJ; rw [List.length_map, List.length_map] at this; have := List.length_filter_le (bitOf (masks.getD i 0)) (List.range k); rw [List.length_range] at this; omega) ⟨rfl, by
            rw [List.range_succ, List.filter_append, List.filter_cons_of_pos (bit_t (by assumption)), List.filter_nil, List.map_append, List.map_append]
            exact strs_app hJ (.cons _ _ .nil)⟩
        · exact no_end (by k_asm) (by k_asm) off5 hN₂ trivial hz5 ⟨rfl, by
            rw [List.range_succ, List.filter_append, List.filter_cons_of_neg (by rw [bit_f (by assumption)]; exact Bool.false_ne_true), List.filter_nil, List.append_nil]
            exact hJ⟩
      · intro D2 ws h2 tk2 hws hD2 F₂ N₂
        dsimp only
        k_steps
        unfold Hold
        (rename News _ _ _ _ => lN')
        refine joinN lN' (.head _) hws (by decide) (by have h9 : (((List.range 5).filter (bitOf (masks.getD i 0))).map (letAt ns)).length ≤ 5 := hW5; rw [sum_singles]; simp only [List.length_map] at h9 ⊢; omega) fun t6 k6 => ?_
        rw [word_join]
        dsimp only
        generalize hwd : wordAt ns (masks.getD i 0) = wd at hWL hW5 ⊢
        have hwdH : Hold (wordAt ns (masks.getD i 0) = wd) := hwd
        have hx5 := neN (hD2 (L1 + 1 + 1 + 1 + 1, oW) (by k_mem))
        dsimp only at hx5
        clear N10 F10
        k_steps
        unfold Hold
        k_dflt (refine CtrS.call hS2 ⟨by k_asm, by k_asm, by k_asm, by k_asm, by k_asm, by ktr_room, by ktr_units⟩ (c_draw _ _ _ _ _ (by assumption) _ (by omega) _ hz _) ?_)
        intro _ _ _ _ _ _ P9
        obtain ⟨e1, _, e2⟩ := P9
        subst e1 e2
        (try k_sweep)
        k_steps
        unfold Hold
        rename_i oM2 dM2 za ze zh zk zt zu zv zz hq2 oW2 dW2 tkq hq1 tkq1 t9q hq0 Fq Nq
        clear mk11
        obtain ⟨tn, Fq2⟩ := Fr.tokI Fq
        clear Fq
        refine tokGen ?_
        intro kz
        have hx1 : (S wd).length ≤ 100 := by rw [S_len]; omega
        have hc1 : Clean (Txt.lower (S wd)) := by rw [hWL.low]; exact hWL.lowW.clean
        have hc2 : Clean (S wd) := hWL.clean
        have hn0 : -50 ≤ ((drawn ns i).fdiv 6).fmod 100 - 50 := numAt_lo ns i
        have hn1 : ((drawn ns i).fdiv 6).fmod 100 - 50 ≤ 49 := numAt_hi ns i
        generalize hnu : ((drawn ns i).fdiv 6).fmod 100 - 50 = nu at Fq2 hn0 hn1
        have hnuH : Hold (numAt ns i = nu) := hnu
        clear hnu
        have hy1 : (PySem.Str.ofString (toString (nu))).length ≤ 100 := Nat.le_trans (num_back (n := nu) (by omega) (by omega)).2.2 (by decide)
        have hy2 : Clean (PySem.Str.ofString (toString (nu))) := (num_back (n := nu) (by omega) (by omega)).2.1
        have hk1 : ∀ r ∈ (bookAt ns i).map rowS, r.1.length ≤ 100 := by
          intro r hr
          obtain ⟨r9, hr9, rfl⟩ := List.mem_map.mp hr
          have := (bookAt_ok ns i).len r9 hr9
          show (S r9.1).length ≤ 100
          rw [S_len]; omega
        have hz1 : ((bookAt ns i).map rowS).length ≤ 500 := by rw [List.length_map]; have := bookAt_len ns i; omega
        have hti := hT9.ti
        have hdi0 := hT9.di
        obtain ⟨hsd, tkd, nd, hdi⟩ := hdi0
        have hli := hT9.li
        obtain ⟨vs9, ep9, hl9, hr9⟩ := hli
        clear w1 w2 w3 w4 hx5
        k_steps
        unfold Hold
        k_dflt (refine Ctr.call ⟨by k_asm, by k_asm, by k_asm, by k_asm, by k_asm, by ktr_room, by ktr_units⟩ (c_sd _ _ _ _ _ _ _ _ _ _ (by assumption) (by assumption) (by assumption) (by assumption) (by assumption) _ (by (refine HT.mono (by assumption) ?_; intro p9 h9; (repeat (first | exact h9 | refine List.Mem.tail _ ?_)))) (by assumption) (by first | assumption | omega)) ?_)
        intro v' n' h' tk' F' N' P'
        obtain ⟨⟨t5, hv5⟩, hT5, hU5⟩ := P'
        have hv6 : v' = Value.str (toldOf (bookAt ns i) wd nu) t5 := hv5.trans (congrArg (fun z => Value.str z t5) (sd_told (bookAt_ok ns i) hWL nu))
        subst hv6
        have hT6 : HT n' t d l ((bookStep (bookAt ns i) wd nu).map rowS) := Eq.mp (congrArg (HT n' t d l) (sd_rows (bookAt_ok ns i) hWL nu)) hT5
        have hG := regroup (own := [(E1, oe), (I9, oi), (du, PySem.W.listOf (List.toArray dvs) e3), (tl, PySem.W.listOf (List.toArray tvs) e2), (bk, PySem.W.listOf (List.toArray bvs) e1), (lm, PySem.W.listOf (List.toArray mvs) 0), (D1, lsO ls), (L1 + 1 + 1 + 1 + 1, oW2), (L1 + 1 + 1 + 1, oM2), (L1 + 1 + 1, oL), (L1 + 1, oD)]) (rest := rest) N' (List.forall_mem_cons.mpr ⟨hU5 _ (.tail _ (.head _)) (Ne.symm (hoff _ (.tail _ (.tail _ (.tail _ (.tail _ (.tail _ (.tail _ (.tail _ (.tail _ (.tail _ (hl9))))))))))).1), List.forall_mem_cons.mpr ⟨hU5 _ (.tail _ (.tail _ (.head _))) (Ne.symm (hoff _ (.tail _ (.tail _ (.tail _ (.tail _ (.tail _ (.tail _ (.tail _ (.tail _ (.tail _ (hl9))))))))))).2), List.forall_mem_cons.mpr ⟨hU5 _ (.tail _ (.tail _ (.tail _ (.head _)))) (Ne.symm (off _ hl9).1), List.forall_mem_cons.mpr ⟨hU5 _ (.tail _ (.tail _ (.tail _ (.tail _ (.head _))))) (Ne.symm (off _ hl9).2.1), List.forall_mem_cons.mpr ⟨hU5 _ (.tail _ (.tail _ (.tail _ (.tail _ (.tail _ (.head _)))))) (Ne.symm (off _ hl9).2.2.1), List.forall_mem_cons.mpr ⟨hU5 _ (.tail _ (.tail _ (.tail _ (.tail _ (.tail _ (.tail _ (.head _))))))) (Ne.symm (off _ hl9).2.2.2.1), List.forall_mem_cons.mpr ⟨hU5 _ (.tail _ (.tail _ (.tail _ (.tail _ (.tail _ (.tail _ (.tail _ (.head _)))))))) (Ne.symm (off _ hl9).2.2.2.2.1), List.forall_mem_cons.mpr ⟨hU5 _ (.tail _ (.tail _ (.tail _ (.tail _ (.tail _ (.tail _ (.tail _ (.tail _ (.head _))))))))) (Ne.symm (off _ hl9).2.2.2.2.2.1), List.forall_mem_cons.mpr ⟨hU5 _ (.tail _ (.tail _ (.tail _ (.tail _ (.tail _ (.tail _ (.tail _ (.tail _ (.tail _ (.head _)))))))))) (Ne.symm (off _ hl9).2.2.2.2.2.2.1), List.forall_mem_cons.mpr ⟨hU5 _ (.tail _ (.tail _ (.tail _ (.tail _ (.tail _ (.tail _ (.tail _ (.tail _ (.tail _ (.tail _ (.head _))))))))))) (Ne.symm (off _ hl9).2.2.2.2.2.2.2.1), List.forall_mem_cons.mpr ⟨hU5 _ (.tail _ (.tail _ (.tail _ (.tail _ (.tail _ (.tail _ (.tail _ (.tail _ (.tail _ (.tail _ (.tail _ (.head _)))))))))))) (Ne.symm (off _ hl9).2.2.2.2.2.2.2.2), List.forall_mem_nil _⟩⟩⟩⟩⟩⟩⟩⟩⟩⟩⟩) (fun p hp hl => hU5 p (.tail _ (.tail _ (.tail _ (.tail _ (.tail _ (.tail _ (.tail _ (.tail _ (.tail _ (.tail _ (.tail _ (.tail _ hp)))))))))))) hl) (fun p hp hm => by
            simp only [List.map_cons, List.map_nil, List.mem_cons, List.not_mem_nil, or_false] at hm
            rcases hm with hm | hm | hm | hm | hm | hm | hm | hm | hm | hm | hm
            · exact (hoff p (.tail _ (.tail _ (.tail _ (.tail _ (.tail _ (.tail _ (.tail _ (.tail _ (.tail _ (hp))))))))))).1 hm
            · exact (hoff p (.tail _ (.tail _ (.tail _ (.tail _ (.tail _ (.tail _ (.tail _ (.tail _ (.tail _ (hp))))))))))).2 hm
            · exact (off p hp).1 hm
            · exact (off p hp).2.1 hm
            · exact (off p hp).2.2.1 hm
            · exact (off p hp).2.2.2.1 hm
            · exact (off p hp).2.2.2.2.1 hm
            · exact (off p hp).2.2.2.2.2.1 hm
            · exact (off p hp).2.2.2.2.2.2.1 hm
            · exact (off p hp).2.2.2.2.2.2.2.1 hm
            · exact (off p hp).2.2.2.2.2.2.2.2 hm)
        have hT8 := HT.lessL (as := [E1, I9, du, tl, bk, lm, D1, L1 + 1 + 1 + 1 + 1, L1 + 1 + 1 + 1, L1 + 1 + 1, L1 + 1]) N' hT6 (fun a9 ha9 => by
            simp only [List.map_cons, List.map_nil, List.mem_cons, List.not_mem_nil, or_false] at ha9
            rcases ha9 with rfl | rfl | rfl | rfl | rfl | rfl | rfl | rfl | rfl | rfl | rfl
            · exact ⟨Ne.symm (hoff _ (.tail _ (.tail _ (.tail _ (.tail _ (.tail _ (.tail _ (.tail _ (.tail _ (.tail _ (hl9))))))))))).1, _, hU5 _ (.tail _ (.head _)) (Ne.symm (hoff _ (.tail _ (.tail _ (.tail _ (.tail _ (.tail _ (.tail _ (.tail _ (.tail _ (.tail _ (hl9))))))))))).1), .inl ⟨by rw [hec]; decide, by rw [hec]; decide, by rw [hec]; intro e; cases e⟩⟩
            · exact ⟨Ne.symm (hoff _ (.tail _ (.tail _ (.tail _ (.tail _ (.tail _ (.tail _ (.tail _ (.tail _ (.tail _ (hl9))))))))))).2, _, hU5 _ (.tail _ (.tail _ (.head _))) (Ne.symm (hoff _ (.tail _ (.tail _ (.tail _ (.tail _ (.tail _ (.tail _ (.tail _ (.tail _ (.tail _ (hl9))))))))))).2), .inl ⟨by rw [hic]; decide, by rw [hic]; decide, by rw [hic]; intro e; cases e⟩⟩
            · exact ⟨Ne.symm (off _ hl9).1, _, hU5 _ (.tail _ (.tail _ (.tail _ (.head _)))) (Ne.symm (off _ hl9).1), .inl ⟨(by show Value.type "list" ≠ Value.type "tuple"; decide), (by show Value.type "list" ≠ Value.type "dict"; decide), (fun e => by cases e)⟩⟩
            · exact ⟨Ne.symm (off _ hl9).2.1, _, hU5 _ (.tail _ (.tail _ (.tail _ (.tail _ (.head _))))) (Ne.symm (off _ hl9).2.1), .inl ⟨(by show Value.type "list" ≠ Value.type "tuple"; decide), (by show Value.type "list" ≠ Value.type "dict"; decide), (fun e => by cases e)⟩⟩
            · exact ⟨Ne.symm (off _ hl9).2.2.1, _, hU5 _ (.tail _ (.tail _ (.tail _ (.tail _ (.tail _ (.head _)))))) (Ne.symm (off _ hl9).2.2.1), .inl ⟨(by show Value.type "list" ≠ Value.type "tuple"; decide), (by show Value.type "list" ≠ Value.type "dict"; decide), (fun e => by cases e)⟩⟩
            · exact ⟨Ne.symm (off _ hl9).2.2.2.1, _, hU5 _ (.tail _ (.tail _ (.tail _ (.tail _ (.tail _ (.tail _ (.head _))))))) (Ne.symm (off _ hl9).2.2.2.1), .inl ⟨(by show Value.type "list" ≠ Value.type "tuple"; decide), (by show Value.type "list" ≠ Value.type "dict"; decide), (fun e => by cases e)⟩⟩
            · exact ⟨Ne.symm (off _ hl9).2.2.2.2.1, _, hU5 _ (.tail _ (.tail _ (.tail _ (.tail _ (.tail _ (.tail _ (.tail _ (.head _)))))))) (Ne.symm (off _ hl9).2.2.2.2.1), .inl ⟨(by show Value.type "list" ≠ Value.type "tuple"; decide), (by show Value.type "list" ≠ Value.type "dict"; decide), (fun e => by cases e)⟩⟩
            · exact ⟨Ne.symm (off _ hl9).2.2.2.2.2.1, _, hU5 _ (.tail _ (.tail _ (.tail _ (.tail _ (.tail _ (.tail _ (.tail _ (.tail _ (.head _))))))))) (Ne.symm (off _ hl9).2.2.2.2.2.1), .inr ⟨_, dW2⟩⟩
            · exact ⟨Ne.symm (off _ hl9).2.2.2.2.2.2.1, _, hU5 _ (.tail _ (.tail _ (.tail _ (.tail _ (.tail _ (.tail _ (.tail _ (.tail _ (.tail _ (.head _)))))))))) (Ne.symm (off _ hl9).2.2.2.2.2.2.1), .inr ⟨_, dM2⟩⟩
            · exact ⟨Ne.symm (off _ hl9).2.2.2.2.2.2.2.1, _, hU5 _ (.tail _ (.tail _ (.tail _ (.tail _ (.tail _ (.tail _ (.tail _ (.tail _ (.tail _ (.tail _ (.head _))))))))))) (Ne.symm (off _ hl9).2.2.2.2.2.2.2.1), .inr ⟨_, dL⟩⟩
            · exact ⟨Ne.symm (off _ hl9).2.2.2.2.2.2.2.2, _, hU5 _ (.tail _ (.tail _ (.tail _ (.tail _ (.tail _ (.tail _ (.tail _ (.tail _ (.tail _ (.tail _ (.tail _ (.head _)))))))))))) (Ne.symm (off _ hl9).2.2.2.2.2.2.2.2), .inr ⟨_, dD⟩⟩)
        have N8 : News g1 L1 h' ((E1, oe) :: (I9, oi) :: (du, PySem.W.listOf (List.toArray dvs) e3) :: (tl, PySem.W.listOf (List.toArray tvs) e2) :: (bk, PySem.W.listOf (List.toArray bvs) e1) :: (lm, PySem.W.listOf (List.toArray mvs) 0) :: (D1, lsO ls) :: (L1 + 1 + 1 + 1 + 1, oW2) :: (L1 + 1 + 1 + 1, oM2) :: (L1 + 1 + 1, oL) :: (L1 + 1, oD) :: lessL [E1, I9, du, tl, bk, lm, D1, L1 + 1 + 1 + 1 + 1, L1 + 1 + 1 + 1, L1 + 1 + 1, L1 + 1] n') := hG.1
        have hU8 : ∀ p ∈ rest, p.1 ≠ l → p ∈ lessL [E1, I9, du, tl, bk, lm, D1, L1 + 1 + 1 + 1 + 1, L1 + 1 + 1 + 1, L1 + 1 + 1, L1 + 1] n' := hG.2.1
        have hoff8 : ∀ p ∈ lessL [E1, I9, du, tl, bk, lm, D1, L1 + 1 + 1 + 1 + 1, L1 + 1 + 1 + 1, L1 + 1 + 1, L1 + 1] n', p.1 ∉ ([E1, I9, du, tl, bk, lm, D1, L1 + 1 + 1 + 1 + 1, L1 + 1 + 1 + 1, L1 + 1 + 1, L1 + 1] : List Addr) := hG.2.2
        clear hG
        generalize hR2 : lessL [E1, I9, du, tl, bk, lm, D1, L1 + 1 + 1 + 1 + 1, L1 + 1 + 1 + 1, L1 + 1 + 1, L1 + 1] n' = rest2 at N8 hU8 hoff8 hT8
        clear hT5 hU5 N' hR2
        have hbk8 : A2 (BRow l rest2) bvs (bookAt ns i) := hbk.mono fun _ _ x => x.mono hU8
        k_steps
        unfold Hold
        refine appendN (l := tl) F' N8 (.tail _ (.tail _ (.tail _ (.head _)))) (by have := strs_len htl; rw [toldAt_len] at this; omega) fun h7 F7 N7 => ?_
        generalize htv : tvs ++ [Value.str (toldOf (bookAt ns i) wd nu) t5] = tvs2 at N7
        have htl2 : StrsAre tvs2 (toldAt ns i ++ [toldOf (bookAt ns i) wd nu]) := htv ▸ strs_app htl (.cons _ _ .nil)
        have N9 : News g1 L1 h7 ((E1, oe) :: (I9, oi) :: (du, PySem.W.listOf (List.toArray dvs) e3) :: (tl, PySem.W.listOf (List.toArray tvs2) (e2 + 1)) :: (bk, PySem.W.listOf (List.toArray bvs) e1) :: (lm, PySem.W.listOf (List.toArray mvs) 0) :: (D1, lsO ls) :: (L1 + 1 + 1 + 1 + 1, oW2) :: (L1 + 1 + 1 + 1, oM2) :: (L1 + 1 + 1, oL) :: (L1 + 1, oD) :: rest2) := putOwn (A1 := [(E1, oe), (I9, oi), (du, PySem.W.listOf (List.toArray dvs) e3)]) (A2 := [(bk, PySem.W.listOf (List.toArray bvs) e1), (lm, PySem.W.listOf (List.toArray mvs) 0), (D1, lsO ls), (L1 + 1 + 1 + 1 + 1, oW2), (L1 + 1 + 1 + 1, oM2), (L1 + 1 + 1, oL), (L1 + 1, oD)]) hnd hoff8 N7
        clear N8 F' N7
        dsimp only
        refine tokGen ?_
        intro kz2
        have mk12 : Mk 12 := .mk 12
        k_steps
        unfold Hold
        clear mk12
        (rename Fr _ _ _ _ => lF')
        refine seq_merge (σ := Unit) (fun _ => []) [] (fun _ nx => ∃ bvs2 e12 rest3, nx = (E1, oe) :: (I9, oi) :: (du, PySem.W.listOf (List.toArray dvs) e3) :: (tl, PySem.W.listOf (List.toArray tvs2) (e2 + 1)) :: (bk, PySem.W.listOf (List.toArray bvs2) e12) :: (lm, PySem.W.listOf (List.toArray mvs) 0) :: (D1, lsO ls) :: (L1 + 1 + 1 + 1 + 1, oW2) :: (L1 + 1 + 1 + 1, oM2) :: (L1 + 1 + 1, oL) :: (L1 + 1, oD) :: rest3 ∧ (∀ p ∈ rest3, p.1 ∉ ([E1, I9, du, tl, bk, lm, D1, L1 + 1 + 1 + 1 + 1, L1 + 1 + 1 + 1, L1 + 1 + 1, L1 + 1] : List Addr)) ∧ A2 (BRow l rest3) bvs2 (bookStep (bookAt ns i) wd nu) ∧ HT rest3 t d l ((bookStep (bookAt ns i) wd nu).map rowS) ∧ ∀ p ∈ rest2, p ∈ rest3) lF' ?_ ?_
        · refine s_gen ?_
          intro PS hPS
          k_steps
          unfold Hold
          (rename Fr _ _ _ _ => lF')
          k_dflt (refine' c_eval (emit := fun C D => emit1 _ (.ref D) (compEnvC _ _ C _)) lF' (fun C D I => turn_one _ _ _ _ _ _ _ _ _) ?hclos ?hcell ?hkind ?hnames ?hs ?_; (case hclos => with_unfolding_all rfl); (case hcell => decide); (case hkind => rfl); (case hnames => decide); (case hs => intro _; rfl))
          k_steps
          unfold Hold
          (rename Fr _ _ _ _ => lF'); (rename News _ _ _ _ => lN')
          refine Or.inl (srcL0 (vs := bvs) (nn := e1) (fun k ys => A2 (BRow l rest2) ys (((bookAt ns i).take k).filter (key wd))) rfl lF' lN' (by k_mem) .nil ?_ ?_)
          · intro k v ys I oI C oC D m₂ h tk E' hv hJ hz off5 hne F₁ N₁ hN₁
            obtain ⟨r, hri, a7, n7, tk7, tx7, rfl, ha7, hm7⟩ := hbk8.get hv
            have hrL := (bookAt_ok ns i).lw r (List.mem_of_getElem? hri)
            have hr5 := (bookAt_ok ns i).len r (List.mem_of_getElem? hri)
            have hr6 : (S r.1).length ≤ 100 := by rw [S_len]; omega
            refine casg1 F₁ N₁ hN₁ hne off5 (by rfl) rfl fun oC' mN h' tk' hN₂ hkv hoth F₂ N₂ => ?_
            dsimp only
            refine tests1 ?_
            k_steps
            unfold Hold
            (rename News _ _ _ _ => lN7)
            refine item0 (v₀ := Value.str (S r.1) tk7) (v₁ := Value.int r.2 tx7) (lN7.isList (show (a7, PySem.W.listOf #[Value.str (S r.1) tk7, Value.int r.2 tx7] n7) ∈ _ from by (repeat (first | assumption | refine List.Mem.tail _ ?_)))) ?_
            k_steps
            · refine emit_one hne ?_
              k_steps
              have hq : (Txt.lower (S r.1) == Txt.lower (S wd)) = true := by assumption
              rw [S_key hrL hWL] at hq
              exact elt_end (by k_asm) (by k_asm) off5 hN₂ trivial (by have h1 := hJ.length; have h2 := List.length_filter_le (key wd) ((bookAt ns i).take k); have h3 := bookAt_len ns i; rw [List.length_take] at h2; omega) ⟨rfl, by
                rw [take_one hri, List.filter_append, List.filter_cons_of_pos hq, List.filter_nil]
                exact hJ.append (.cons ⟨a7, n7, tk7, tx7, rfl, ha7, hm7⟩ .nil)⟩
            · have hq : (Txt.lower (S r.1) == Txt.lower (S wd)) = false := by assumption
              rw [S_key hrL hWL] at hq
              exact no_end (by k_asm) (by k_asm) off5 hN₂ trivial hz ⟨rfl, by
                rw [take_one hri, List.filter_append, List.filter_cons_of_neg (by rw [hq]; exact Bool.false_ne_true), List.filter_nil, List.append_nil]
                exact hJ⟩
          · intro D3 ys h tk hJ hD3 F₁ N₁
            rw [hbk8.length, List.take_length] at hJ
            dsimp only
            k_steps
            unfold Hold
            (rename Fr _ _ _ _ => lF'); (rename News _ _ _ _ => lN')
            refine kqd_eq (n₁ := rest2) (n₂ := []) (xs := ys) (ys := []) (ka := ys.length) (kb := 0) lN' (by k_mem) rfl rfl (datRows hJ) (fun p hp => .tail _ (.tail _ (.tail _ (.tail _ (.tail _ (.tail _ (.tail _ (.tail _ (.tail _ (.tail _ (.tail _ (.tail _ (.tail _ hp))))))))))))) (.head _) rfl rfl .nil (fun _ h => nomatch h) (datRow_ok fun r hr => (bookAt_ok ns i).lw r (List.mem_filter.mp hr).1) (fun _ h => nomatch h) (by ke_room) ?_
            refine tokGen ?_
            intro kz3
            k_steps
            · rename_i hcond nl hnl Fz1 Nz1 lr
              have hfe : List.map datRow (List.filter (key wd) (bookAt ns i)) = [] := of_decide_eq_true hcond
              have hnone := filter_none.mp (List.map_eq_nil_iff.mp hfe)
              have hbs : bookStep (bookAt ns i) wd nu = bookAt ns i ++ [(wd, nu)] := by unfold bookStep; rw [hnone]
              have hnlA : nl ∉ ([E1, I9, du, tl, bk, lm, D1, L1 + 1 + 1 + 1 + 1, L1 + 1 + 1 + 1, L1 + 1 + 1, L1 + 1] : List Addr) := fun hm => by
                simp only [List.mem_cons, List.not_mem_nil, or_false] at hm
                rcases hm with hm | hm | hm | hm | hm | hm | hm | hm | hm | hm | hm
                · exact Nat.ne_of_lt (lr.2.2.1) hm.symm
                · exact Nat.ne_of_lt (lr.2.2.2.1) hm.symm
                · exact Nat.ne_of_lt (lr.2.2.2.2.1) hm.symm
                · exact Nat.ne_of_lt (lr.2.2.2.2.2.1) hm.symm
                · exact Nat.ne_of_lt (lr.2.2.2.2.2.2.1) hm.symm
                · exact Nat.ne_of_lt (lr.2.2.2.2.2.2.2.1) hm.symm
                · exact Nat.ne_of_lt (lr.2.2.2.2.2.2.2.2.1) hm.symm
                · exact Nat.ne_of_lt (lr.2.2.2.2.2.2.2.2.2.1) hm.symm
                · exact Nat.ne_of_lt (lr.2.2.2.2.2.2.2.2.2.2.1) hm.symm
                · exact Nat.ne_of_lt (lr.2.2.2.2.2.2.2.2.2.2.2.1) hm.symm
                · exact Nat.ne_of_lt (lr.2.2.2.2.2.2.2.2.2.2.2.2.1) hm.symm
              have hll : nl ≠ l := fun e => by
                have hli8 := hT8.li
                obtain ⟨vs8, ep8, hl8, hr8⟩ := hli8
                have := allLt_mem lr.2.2.2.2.2.2.2.2.2.2.2.2.2 _ hl8
                exact Nat.ne_of_lt this e.symm
              generalize hrow : PySem.W.listOf #[Value.str (S wd) t6, Value.int nu tn] 0 = orow at Nz1
              have off9 : ∀ p ∈ (nl, orow) :: rest2, p.1 ∉ ([E1, I9, du, tl, bk, lm, D1, L1 + 1 + 1 + 1 + 1, L1 + 1 + 1 + 1, L1 + 1 + 1, L1 + 1] : List Addr) := List.forall_mem_cons.mpr ⟨hnlA, hoff8⟩
              have Nz2 : News g1 L1 hnl ((E1, oe) :: (I9, oi) :: (du, PySem.W.listOf (List.toArray dvs) e3) :: (tl, PySem.W.listOf (List.toArray tvs2) (e2 + 1)) :: (bk, PySem.W.listOf (List.toArray bvs) e1) :: (lm, PySem.W.listOf (List.toArray mvs) 0) :: (D1, lsO ls) :: (L1 + 1 + 1 + 1 + 1, oW2) :: (L1 + 1 + 1 + 1, oM2) :: (L1 + 1 + 1, oL) :: (L1 + 1, oD) :: (nl, orow) :: rest2) := fun p hp => Nz1 p (by
                rcases List.mem_cons.mp hp with rfl | hp
                · exact .tail _ (.tail _ (.tail _ (.head _)))
                rcases List.mem_cons.mp hp with rfl | hp
                · exact .tail _ (.tail _ (.tail _ (.tail _ (.head _))))
                rcases List.mem_cons.mp hp with rfl | hp
                · exact .tail _ (.tail _ (.tail _ (.tail _ (.tail _ (.head _)))))
                rcases List.mem_cons.mp hp with rfl | hp
                · exact .tail _ (.tail _ (.tail _ (.tail _ (.tail _ (.tail _ (.head _))))))
                rcases List.mem_cons.mp hp with rfl | hp
                · exact .tail _ (.tail _ (.tail _ (.tail _ (.tail _ (.tail _ (.tail _ (.head _)))))))
                rcases List.mem_cons.mp hp with rfl | hp
                · exact .tail _ (.tail _ (.tail _ (.tail _ (.tail _ (.tail _ (.tail _ (.tail _ (.head _))))))))
                rcases List.mem_cons.mp hp with rfl | hp
                · exact .tail _ (.tail _ (.tail _ (.tail _ (.tail _ (.tail _ (.tail _ (.tail _ (.tail _ (.head _)))))))))
                rcases List.mem_cons.mp hp with rfl | hp
                · exact .tail _ (.tail _ (.tail _ (.tail _ (.tail _ (.tail _ (.tail _ (.tail _ (.tail _ (.tail _ (.head _))))))))))
                rcases List.mem_cons.mp hp with rfl | hp
                · exact .tail _ (.tail _ (.tail _ (.tail _ (.tail _ (.tail _ (.tail _ (.tail _ (.tail _ (.tail _ (.tail _ (.head _)))))))))))
                rcases List.mem_cons.mp hp with rfl | hp
                · exact .tail _ (.tail _ (.tail _ (.tail _ (.tail _ (.tail _ (.tail _ (.tail _ (.tail _ (.tail _ (.tail _ (.tail _ (.head _))))))))))))
                rcases List.mem_cons.mp hp with rfl | hp
                · exact .tail _ (.tail _ (.tail _ (.tail _ (.tail _ (.tail _ (.tail _ (.tail _ (.tail _ (.tail _ (.tail _ (.tail _ (.tail _ (.head _)))))))))))))
                rcases List.mem_cons.mp hp with rfl | hp
                · exact .head _
                exact .tail _ (.tail _ (.tail _ (.tail _ (.tail _ (.tail _ (.tail _ (.tail _ (.tail _ (.tail _ (.tail _ (.tail _ (.tail _ (.tail _ (hp)))))))))))))))
              refine appendN (l := bk) Fz1 Nz2 (.tail _ (.tail _ (.tail _ (.tail _ (.head _))))) (by have h1 := hbk8.length; have h2 := bookAt_len ns i; omega) fun h9 F9 N9 => ?_
              have N10 : News g1 L1 h9 ((E1, oe) :: (I9, oi) :: (du, PySem.W.listOf (List.toArray dvs) e3) :: (tl, PySem.W.listOf (List.toArray tvs2) (e2 + 1)) :: (bk, PySem.W.listOf (List.toArray (bvs ++ [Value.ref nl])) (e1 + 1)) :: (lm, PySem.W.listOf (List.toArray mvs) 0) :: (D1, lsO ls) :: (L1 + 1 + 1 + 1 + 1, oW2) :: (L1 + 1 + 1 + 1, oM2) :: (L1 + 1 + 1, oL) :: (L1 + 1, oD) :: (nl, orow) :: rest2) := putOwn (A1 := [(E1, oe), (I9, oi), (du, PySem.W.listOf (List.toArray dvs) e3), (tl, PySem.W.listOf (List.toArray tvs2) (e2 + 1))]) (A2 := [(lm, PySem.W.listOf (List.toArray mvs) 0), (D1, lsO ls), (L1 + 1 + 1 + 1 + 1, oW2), (L1 + 1 + 1 + 1, oM2), (L1 + 1 + 1, oL), (L1 + 1, oD)]) hnd off9 N9
              clear Nz1 Nz2 Fz1 N9 lr
              dsimp only
              k_steps
              refine hPS _ _ ?_; exact s_out () _ (by k_asm) N10 (fun _ h => nomatch h) (by first | (intro z h2 h3; (try simp only [List.forall_mem_cons, List.not_mem_nil, false_implies, implies_true, and_true] at h2); (repeat (refine (if_neg (by first | exact ne_ct h3 (by decide) | exact h2 | exact h2.1 | exact h2.2 | exact h2.2.1 | exact h2.2.2 | exact h2.2.2.1 | exact h2.2.2.2 | (rw [h3]; exact Bool.false_ne_true))).trans ?_)); (first | rfl | ((try simp only [kstB, h2, h3, Bool.false_eq_true, if_false, List.contains_nil]); done) | ((try simp only [kstB, h2, h3, Bool.false_eq_true, if_false, List.contains_nil]); rfl))) | ksw_same) ⟨bvs ++ [Value.ref nl], e1 + 1, (nl, orow) :: rest2, rfl, off9, by
                rw [hbs]
                exact (hbk8.mono fun _ _ x => x.mono fun p hp _ => .tail _ hp).append (.cons ⟨nl, 0, t6, tn, rfl, hll, hrow ▸ .head _⟩ .nil), hT8.mono fun p hp => .tail _ hp, fun p hp => .tail _ hp⟩
            · rename_i hcond
              have hfe : ¬ List.map datRow (List.filter (key wd) (bookAt ns i)) = [] := of_decide_eq_false hcond
              have hbs : bookStep (bookAt ns i) wd nu = bookAt ns i := by
                unfold bookStep
                cases e : (bookAt ns i).find? (key wd) with
                | none => exact absurd (List.map_eq_nil_iff.mpr (filter_none.mpr e)) hfe
                | some r => rfl
              refine hPS _ _ ?_; exact s_out () ((E1, oe) :: (I9, oi) :: (du, PySem.W.listOf (List.toArray dvs) e3) :: (tl, PySem.W.listOf (List.toArray tvs2) (e2 + 1)) :: (bk, PySem.W.listOf (List.toArray bvs) e1) :: (lm, PySem.W.listOf (List.toArray mvs) 0) :: (D1, lsO ls) :: (L1 + 1 + 1 + 1 + 1, oW2) :: (L1 + 1 + 1 + 1, oM2) :: (L1 + 1 + 1, oL) :: (L1 + 1, oD) :: rest2) (by k_asm) (fun p hp => lN' p (.tail _ (.tail _ hp))) (fun _ h => nomatch h) (by first | (intro z h2 h3; (try simp only [List.forall_mem_cons, List.not_mem_nil, false_implies, implies_true, and_true] at h2); (repeat (refine (if_neg (by first | exact ne_ct h3 (by decide) | exact h2 | exact h2.1 | exact h2.2 | exact h2.2.1 | exact h2.2.2 | exact h2.2.2.1 | exact h2.2.2.2 | (rw [h3]; exact Bool.false_ne_true))).trans ?_)); (first | rfl | ((try simp only [kstB, h2, h3, Bool.false_eq_true, if_false, List.contains_nil]); done) | ((try simp only [kstB, h2, h3, Bool.false_eq_true, if_false, List.contains_nil]); rfl))) | ksw_same) ⟨bvs, e1, rest2, rfl, hoff8, by rw [hbs]; exact hbk8, hT8, fun p hp => hp⟩
        · rintro ⟨⟩ w₁ _ h tk ⟨bvs2, e12, rest3, rfl, off3, hbk3, hT3, hsub3⟩ F₃ N₃
          dsimp only [kstB] at F₃
          have hbok : BOk (bookStep (bookAt ns i) wd nu) := bookStep_ok (bookAt_ok ns i) hWL hW5 hn0 hn1
          have hbl : (bookStep (bookAt ns i) wd nu).length ≤ 13 := by have h1 := bookStep_len (bookAt ns i) wd nu; have h2 := bookAt_len ns i; omega
          k_steps
          unfold Hold
          (rename Fr _ _ _ _ => lF')
          k_dflt (refine' c_eval (emit := fun C D => emit1 _ (.ref D) (compEnvC _ _ C _)) lF' (fun C D I => turn_one _ _ _ _ _ _ _ _ _) ?hclos ?hcell ?hkind ?hnames ?hs ?_; (case hclos => with_unfolding_all rfl); (case hcell => decide); (case hkind => rfl); (case hnames => decide); (case hs => intro _; rfl))
          k_steps
          unfold Hold
          (rename Fr _ _ _ _ => lF'); (rename News _ _ _ _ => lN')
          refine Or.inl (srcL0 (vs := bvs2) (nn := e12) (fun k ys => StrsAre ys ((((bookStep (bookAt ns i) wd nu).take k).filter (key wd)).map fun r => numS r.2)) rfl lF' lN' (by k_mem) .nil ?_ ?_)
          · intro k v ys I oI C oC D m₂ h tk E' hv hJ hz off5 hne F₁ N₁ hN₁
            obtain ⟨r, hri, a7, n7, tk7, tx7, rfl, ha7, hm7⟩ := hbk3.get hv
            have hrL := hbok.lw r (List.mem_of_getElem? hri)
            have hr5 := hbok.len r (List.mem_of_getElem? hri)
            have hr6 : (S r.1).length ≤ 100 := by rw [S_len]; omega
            have hr7 := hbok.lo r (List.mem_of_getElem? hri)
            have hr8 := hbok.hi r (List.mem_of_getElem? hri)
            refine casg1 F₁ N₁ hN₁ hne off5 (by rfl) rfl fun oC' mN h' tk' hN₂ hkv hoth F₂ N₂ => ?_
            dsimp only
            refine tests1 ?_
            k_steps
            unfold Hold
            (rename News _ _ _ _ => lN7)
            refine item0 (v₀ := Value.str (S r.1) tk7) (v₁ := Value.int r.2 tx7) (lN7.isList (show (a7, PySem.W.listOf #[Value.str (S r.1) tk7, Value.int r.2 tx7] n7) ∈ _ from by (repeat (first | assumption | refine List.Mem.tail _ ?_)))) ?_
            k_steps
            · refine emit_one hne ?_
              k_steps
              unfold Hold
              (rename News _ _ _ _ => lN7)
              refine item1 (v₀ := Value.str (S r.1) tk7) (v₁ := Value.int r.2 tx7) (lN7.isList (show (a7, PySem.W.listOf #[Value.str (S r.1) tk7, Value.int r.2 tx7] n7) ∈ _ from by (repeat (first | assumption | refine List.Mem.tail _ ?_)))) ?_
              k_steps
              have hq : (Txt.lower (S r.1) == Txt.lower (S wd)) = true := by assumption
              rw [S_key hrL hWL] at hq
              exact elt_end (by k_asm) (by k_asm) off5 hN₂ trivial (by have h1 := strs_len hJ; rw [List.length_map] at h1; have h2 := List.length_filter_le (key wd) ((bookStep (bookAt ns i) wd nu).take k); rw [List.length_take] at h2; omega) ⟨rfl, by
                rw [take_one hri, List.filter_append, List.filter_cons_of_pos hq, List.filter_nil, List.map_append]
                exact strs_app hJ (.cons _ _ .nil)⟩
            · have hq : (Txt.lower (S r.1) == Txt.lower (S wd)) = false := by assumption
              rw [S_key hrL hWL] at hq
              exact no_end (by k_asm) (by k_asm) off5 hN₂ trivial hz ⟨rfl, by
                rw [take_one hri, List.filter_append, List.filter_cons_of_neg (by rw [hq]; exact Bool.false_ne_true), List.filter_nil, List.append_nil]
                exact hJ⟩
          · intro D4 ys h tk hJ hD4 F₁ N₁
            rw [hbk3.length, List.take_length, due_step (bookAt_ok ns i)] at hJ
            dsimp only
            k_steps
            unfold Hold
            (rename Fr _ _ _ _ => lF'); (rename News _ _ _ _ => lN')
            refine extendN (l := du) (b := D4) (vs := dvs) (xs := ys) lF' lN' (.tail _ (.tail _ (.tail _ (.head _)))) (.head _) (by have h1 := strs_len hdu; rw [toldAt_len] at h1; have h2 := strs_len hJ; simp only [List.length_cons, List.length_nil] at h2; omega) fun h9 n9 F9 N9 => ?_
            generalize hdv : dvs ++ ys = dvs2 at N9
            have hdu2 : StrsAre dvs2 (toldAt ns i ++ [toldOf (bookAt ns i) wd nu]) := hdv ▸ strs_app hdu hJ
            have N10 : News g1 L1 h9 ((E1, oe) :: (I9, oi) :: (du, PySem.W.listOf (List.toArray dvs2) n9) :: (tl, PySem.W.listOf (List.toArray tvs2) (e2 + 1)) :: (bk, PySem.W.listOf (List.toArray bvs2) e12) :: (lm, PySem.W.listOf (List.toArray mvs) 0) :: (D1, lsO ls) :: (L1 + 1 + 1 + 1 + 1, oW2) :: (L1 + 1 + 1 + 1, oM2) :: (L1 + 1 + 1, oL) :: (L1 + 1, oD) :: rest3) := putOwn (A1 := [(E1, oe), (I9, oi)]) (A2 := [(tl, PySem.W.listOf (List.toArray tvs2) (e2 + 1)), (bk, PySem.W.listOf (List.toArray bvs2) e12), (lm, PySem.W.listOf (List.toArray mvs) 0), (D1, lsO ls), (L1 + 1 + 1 + 1 + 1, oW2), (L1 + 1 + 1 + 1, oM2), (L1 + 1 + 1, oL), (L1 + 1, oD)]) hnd off3 (fun nx hnx => N9 nx fun p hp => ⟨.tail _ (hnx p hp).1, (hnx p hp).2⟩)
            dsimp only
            k_steps
            refine hPP _ ?_
            refine en_end ((du, PySem.W.listOf (List.toArray dvs2) n9) :: (tl, PySem.W.listOf (List.toArray tvs2) (e2 + 1)) :: (bk, PySem.W.listOf (List.toArray bvs2) e12) :: (lm, PySem.W.listOf (List.toArray mvs) 0) :: (D1, lsO ls) :: (L1 + 1 + 1 + 1 + 1, oW2) :: (L1 + 1 + 1 + 1, oM2) :: (L1 + 1 + 1, oL) :: (L1 + 1, oD) :: rest3) (by k_asm) N10 (.head _) (.tail _ (.head _)) ?_ (.tail _ (.tail _ (.tail _ (.head _)))) ?_ ?_
            · intro p hp
              have h1 := List.nodup_cons.mp hnd
              have h2 := List.nodup_cons.mp h1.2
              refine ⟨.tail _ (.tail _ hp), ?_⟩
              rcases List.mem_append.mp (show p ∈ [(du, PySem.W.listOf (List.toArray dvs2) n9), (tl, PySem.W.listOf (List.toArray tvs2) (e2 + 1)), (bk, PySem.W.listOf (List.toArray bvs2) e12), (lm, PySem.W.listOf (List.toArray mvs) 0), (D1, lsO ls), (L1 + 1 + 1 + 1 + 1, oW2), (L1 + 1 + 1 + 1, oM2), (L1 + 1 + 1, oL), (L1 + 1, oD)] ++ rest3 from hp) with hp | hp
              · have hm : p.1 ∈ ([du, tl, bk, lm, D1, L1 + 1 + 1 + 1 + 1, L1 + 1 + 1 + 1, L1 + 1 + 1, L1 + 1] : List Addr) := List.mem_map_of_mem (f := (·.1)) hp
                exact ⟨fun e => h1.1 (.tail _ ((show p.1 = E1 from e) ▸ hm)), fun e => h2.1 ((show p.1 = I9 from e) ▸ hm)⟩
              · have q := off3 p hp
                exact ⟨fun e => q (e ▸ .head _), fun e => q (e ▸ .tail _ (.head _))⟩
            · intro z h3
              have z1 : z ≠ PySem.Str.ofString "number" := ne_ct h3 (by decide)
              have z2 : z ≠ PySem.Str.ofString "place" := ne_ct h3 (by decide)
              simp only [List.contains_nil, Bool.false_eq_true, if_false, if_neg z1, if_neg z2, h3]
            · have hw9 := hwdH
              have hn9 := hnuH
              unfold Hold at hw9 hn9
              refine ⟨dvs2, n9, tvs2, e2 + 1, bvs2, e12, oW2, oM2, rest3, rfl, ⟨_, dW2⟩, ⟨_, dM2⟩, fun p hp => ?_, ?_, ?_, ?_, ?_, fun p hp hl => hsub3 p (hU8 p (hU9 p hp hl) hl)⟩
              · have q := off3 p hp
                simp only [List.mem_cons, List.not_mem_nil, or_false, not_or] at q
                exact q.2.2
              · show A2 (BRow l rest3) bvs2 (bookStep (bookAt ns i) (wordAt ns (masks.getD i 0)) (numAt ns i))
                rw [hw9, hn9]; exact hbk3
              · show StrsAre tvs2 (toldAt ns i ++ [toldOf (bookAt ns i) (wordAt ns (masks.getD i 0)) (numAt ns i)])
                rw [hw9, hn9]; exact htl2
              · show StrsAre dvs2 (toldAt ns i ++ [toldOf (bookAt ns i) (wordAt ns (masks.getD i 0)) (numAt ns i)])
                rw [hw9, hn9]; exact hdu2
              · show HT rest3 t d l ((bookStep (bookAt ns i) (wordAt ns (masks.getD i 0)) (numAt ns i)).map rowS)
                rw [hw9, hn9]; exact hT3
    · rintro u _ h9 tk9 ⟨dvs, e3, tvs, e2, bvs, e1, oW, oM, rest, rfl, ⟨xW, hoW⟩, ⟨xM, hoM⟩, off, hbk, htl, hdu, hT9, hU9⟩ hlm F₁ N₁
      have hl12 : mvs.length = 12 := by have := hmI.length; simpa [masks] using this
      rw [hl12] at hbk htl hdu hT9
      have hbl : bk ≠ l := by
        have hli := hT9.li
        obtain ⟨vs9, ep9, hl9, hr9⟩ := hli
        exact Ne.symm (off _ hl9).2.2.1
      have offB : ∀ p ∈ rest, p.1 ≠ bk := fun p hp => (off p hp).2.2.1
      clear off
      k_steps
      unfold Hold
      (rename Fr _ _ _ _ => lF'); (rename News _ _ _ _ => lN')
      refine kqd_eq (n₁ := []) (n₂ := []) (xs := tvs) (ys := dvs) (ka := e2) (kb := e3) lN' (.tail _ (.head _)) rfl rfl (datStrs htl) (fun _ h => nomatch h) (.head _) rfl rfl (datStrs hdu) (fun _ h => nomatch h) (datStr_ok (toldAt_clean ns 12)) (datStr_ok (toldAt_clean ns 12)) (by ke_room) ?_
      simp only [eq_self, decide_true]
      k_steps
      (rename News _ _ _ _ => lN9)
      refine hret _ _ _ _ (by k_asm) (cb_drop lN9 ?_) ⟨_, 0, bk, bvs, e1, rest, rfl, rfl, hbl, offB, hbk, hT9, hU9⟩
      intro p hp
      rcases List.mem_cons.mp hp with rfl | hp
      · exact .head _
      rcases List.mem_cons.mp hp with rfl | hp
      · exact .tail _ (.tail _ (.tail _ (.head _)))
      · exact .tail _ (.tail _ (.tail _ (.tail _ (.tail _ (.tail _ (.tail _ (.tail _ (.tail _ (.tail _ (hp))))))))))
end
section
local macro_rules | `(tactic| walk_at "binaryOp Add ref ref") => `(tactic| refine Hold.out ?_)
local macro_rules | `(tactic| walk_at "exec For Name Call cons nil") => `(tactic| refine Hold.out ?_)
local macro_rules | `(tactic| walk_at "exec Assign cons ListComp") => `(tactic| refine Hold.out ?_)
local macro_rules | `(tactic| walk_at "eval ListComp List cons") => `(tactic| refine Hold.out ?_)
local macro_rules | `(tactic| k_all) => `(tactic| (with_reducible assumption))
noncomputable def lessStep (w : List Nat) (told : List (List Nat × Int)) (k : Nat) : List (List Nat × Int) :=
  if k = 0 ∨ ¬ w.getD k 0 = w.getD (k - 1) 0 then (told.map fun r => (r.1 ++ [w.getD k 0], r.2)) ++ told.map fun r => (r.1, -r.2)
  else told.map fun r => (r.1 ++ [w.getD k 0], r.2)
noncomputable def lessAt (w : List Nat) : Nat → List (List Nat × Int)
  | 0 => [([], 1)]
  | k + 1 => lessStep w (lessAt w k) k
theorem lessStep_t {w : List Nat} {t : List (List Nat × Int)} {k : Nat} (h : k = 0 ∨ ¬ w.getD k 0 = w.getD (k - 1) 0) : lessStep w t k = (t.map fun r => (r.1 ++ [w.getD k 0], r.2)) ++ t.map fun r => (r.1, -r.2) := if_pos h
theorem lessStep_f {w : List Nat} {t : List (List Nat × Int)} {k : Nat} (h : ¬ (k = 0 ∨ ¬ w.getD k 0 = w.getD (k - 1) 0)) : lessStep w t k = t.map fun r => (r.1 ++ [w.getD k 0], r.2) := if_neg h
theorem S_item2 {x : List Nat} {i : Nat} (h0 : i ≠ 0) (h : i < x.length) : Txt.item (S x) ((i : Int) - 1) = S [x.getD (i - 1) 0] := by
  rw [show (i : Int) - 1 = ((i - 1 : Nat) : Int) by omega]
  exact S_item (by omega)
theorem lessStep_len (w : List Nat) (t : List (List Nat × Int)) (k : Nat) : (lessStep w t k).length ≤ 2 * t.length := by
  unfold lessStep
  split
  · rw [List.length_append, List.length_map, List.length_map]; omega
  · rw [List.length_map]; omega
theorem lessAt_len (w : List Nat) : ∀ k, (lessAt w k).length ≤ 2 ^ k
  | 0 => Nat.le_refl _
  | k + 1 => Nat.le_trans (lessStep_len _ _ _) (by have := lessAt_len w k; rw [Nat.pow_succ]; omega)
theorem lessStep_txt {w : List Nat} {t : List (List Nat × Int)} {k n : Nat} (h : ∀ r ∈ t, r.1.length ≤ n) : ∀ r ∈ lessStep w t k, r.1.length ≤ n + 1 := by
  have h1 : ∀ r ∈ t.map (fun r => (r.1 ++ [w.getD k 0], r.2)), r.1.length ≤ n + 1 := by
    intro r hr
    obtain ⟨q, hq, rfl⟩ := List.mem_map.mp hr
    have := h q hq
    simp; omega
  unfold lessStep
  split
  · intro r hr
    rcases List.mem_append.mp hr with hr | hr
    · exact h1 r hr
    · obtain ⟨q, hq, rfl⟩ := List.mem_map.mp hr
      have := h q hq
      show q.1.length ≤ n + 1
      omega
  · exact h1
theorem lessAt_txt (w : List Nat) : ∀ k, ∀ r ∈ lessAt w k, r.1.length ≤ k
  | 0, r, h => by rw [List.mem_singleton.mp h]; exact Nat.le_refl _
  | k + 1, r, h => lessStep_txt (lessAt_txt w k) r h
theorem c_less (W w) (x : List Nat) (tx : Tok) (news : Led) (hx : x.length ≤ 3) :
    Ctr W w 277 ⟨[.str (S x) tx], []⟩ news 6 60 (fun v news' => ∃ D vs n rest, v = Value.ref D ∧ news' = (D, PySem.W.listOf (List.toArray vs) n) :: rest ∧ (∀ p ∈ news, p ∈ rest) ∧ A2 (DRow rest) vs (lessAt x x.length)) := by
  unfold Ctr
  intro dp ut gd cn nms ig ic mo a ccd cl outer A₀ base h₀ L m s R B F X N T hdp hup hret
  k_dflt k_enter
  rename_i g1 L1 hz0 tkz FG1 Fz Bz Xz Tz l1z oA oB dA dB lN0
  replace dA := dA.trans (congrArg Data.cell (a₂ := none) (by kernel_rfl))
  replace dB := dB.trans (congrArg Data.cell (a₂ := some (Value.str (S x) tx)) (by kernel_rfl))
  replace Fz := Fr.eqm Fz (fun _ => none) (by kernel_rfl)
  have hS3 : (S x).length ≤ 3 := by rw [S_len]; exact hx
  k_steps
  unfold Hold
  rename_i ra h2 lA ta h1 lB h0 Fq Nq
  have e0 : PySem.Str.ofString "" = S [] := by decide
  have hI : ∃ t1 t2, News g1 L1 h0 ((ta, PySem.W.listOf (List.toArray [Value.ref ra]) 0) :: (ra, PySem.W.listOf #[Value.str (S []) t1, Value.int 1 t2] 0) :: (L1 + 1 + 1, oA) :: (L1 + 1, oB) :: news) := by
    rw [e0] at Nq
    exact ⟨_, _, Nq⟩
  obtain ⟨t1, t2, Nq2⟩ := hI
  clear Nq
  refine For_turns Fq ?_ (fun _ => rfl) (by first | passes_own | with_unfolding_all passes_own)
  k_steps
  unfold Hold
  (rename Fr _ _ _ _ => lF'); (rename News _ _ _ _ => lN'); (rename IsRange _ _ _ _ _ _ _ _ => rgX)
  refine r_loop (σ := Addr) (n := x.length) (fun c => [(PySem.Str.ofString "told", Value.ref c)]) [PySem.Str.ofString "kept"]
    (fun i c nx => ∃ oK rest vs n, nx = (L1 + 1 + 1, oK) :: (L1 + 1, oB) :: rest ∧ (∃ z, oK.data = Data.cell z) ∧ (∀ p ∈ rest, p.1 ≠ L1 + 1 + 1) ∧ (c, PySem.W.listOf (List.toArray vs) n) ∈ rest ∧ A2 (DRow rest) vs (lessAt x i) ∧ ∀ p ∈ news, p ∈ rest)
    ta rfl rgX (by rw [S_len]; exact small_one (by omega) (by omega) (by omega) (by omega)) (by rw [rangeSize_nat, S_len]; omega) lF' (news := (L1 + 1 + 1, oA) :: (L1 + 1, oB) :: (ta, PySem.W.listOf (List.toArray [Value.ref ra]) 0) :: (ra, PySem.W.listOf #[Value.str (S []) t1, Value.int 1 t2] 0) :: news) ?_ (by intro p hp; cases hp with | head => rfl | tail _ h => cases h) ?_ ?_ ?_ (fun _ _ _ _ _ q => wpAny_pure q)
  · intro p hp
    refine lN' p ?_
    rcases List.mem_cons.mp hp with rfl | hp
    · exact .tail _ (.tail _ (.head _))
    rcases List.mem_cons.mp hp with rfl | hp
    · exact .tail _ (.tail _ (.tail _ (.head _)))
    rcases List.mem_cons.mp hp with rfl | hp
    · exact .head _
    rcases List.mem_cons.mp hp with rfl | hp
    · exact .tail _ (.head _)
    · exact .tail _ (.tail _ (.tail _ (.tail _ hp)))
  · refine ⟨oA, (ta, PySem.W.listOf (List.toArray [Value.ref ra]) 0) :: (ra, PySem.W.listOf #[Value.str (S []) t1, Value.int 1 t2] 0) :: news, [Value.ref ra], 0, rfl, ⟨_, dA⟩, ?_, .head _, .cons ⟨ra, 0, t1, t2, rfl, .tail _ (.head _)⟩ .nil, fun p hp => .tail _ (.tail _ hp)⟩
    intro p hp
    rcases List.mem_cons.mp hp with rfl | hp
    · exact Ne.symm (Nat.ne_of_lt lB.2.1)
    rcases List.mem_cons.mp hp with rfl | hp
    · exact Ne.symm (Nat.ne_of_lt lA.1)
    · have z := ltN (l1z p hp)
      refine neN ?_
      omega
  · rintro i tki c w₁ _ I8 it h8 tk8 hi8 ⟨oK, rest, vs, n, rfl, ⟨zK, hoK⟩, off, hc, hv, hsub⟩ hit hnI F8 N8
    dsimp only [kstB] at F8 ⊢
    refine m_gen ?_
    intro PP hPP _
    rw [show (0 : Int) + (i : Int) * 1 = (i : Int) by omega]
    have q1 := neN (hnI _ (.head _))
    dsimp only at q1
    k_steps
    unfold Hold
    rename_i hK oK2 FK NK dK2
    (rename Fr _ _ _ _ => lF')
    k_dflt (refine' c_assign (emit := fun C D => emit1 _ (.ref D) (compEnvC _ _ C _)) lF' rfl ?hsw (fun C D I => turn_one _ _ _ _ _ _ _ _ _) ?hclos ?hcell ?hkind ?hnames ?hs ?hy ?hp ?_; (case hsw => with_unfolding_all rfl); (case hclos => with_unfolding_all rfl); (case hcell => decide); (case hkind => rfl); (case hnames => decide); (case hs => intro _; rfl); (case hy => rfl); (case hp => rfl))
    k_steps
    unfold Hold
    (rename Fr _ _ _ _ => lF'); (rename News _ _ _ _ => lN')
    have hlen := lessAt_len x i
    have hlen8 : (lessAt x i).length ≤ 8 := Nat.le_trans hlen (Nat.pow_le_pow_right (by decide) (by omega : i ≤ 3))
    refine Or.inl (srcL (vs := vs) (nn := n) (fun j ys nx => A2 (DRow nx) ys (((lessAt x i).take j).map fun r => (r.1 ++ [x.getD i 0], r.2))) rfl lF' lN' (.tail _ (.tail _ (.tail _ hc))) .nil ?_ ?_)
    · intro j v ys nx I oI C oC D m₂ h tk E' hv2 hsub2 hJ hz off5 hne F₁ N₁ hN₁
      obtain ⟨r, hri, a7, n7, tk7, tx7, rfl, hm7⟩ := hv.get hv2
      have hmx := hsub2 _ (.tail _ (.tail _ (.tail _ hm7)))
      have hcw := hsub2 _ (.tail _ (.tail _ (.head _)))
      have hck := hsub2 _ (.tail _ (.head _))
      have hr5 := lessAt_txt x i r (List.mem_of_getElem? hri)
      have hr6 : (⟨r.1.toArray⟩ : PySem.Str).length ≤ 3 := by have := S_len r.1; unfold S at this; omega
      have hS4 : (S x).length = x.length := S_len x
      refine casg2 rfl F₁ N₁ hN₁ hne off5 (by rfl) (by rfl) rfl hmx ⟨_, .inr rfl⟩ (by decide) fun oC' mN h' tk' hN₂ e1 e2 hoth F₂ N₂ => ?_
      dsimp only
      refine tests0 ?_
      rw [if_pos rfl]
      refine emit_one hne ?_
      k_steps
      rename_i nl hnl Fn Nn ln
      have e9 : (⟨r.1.toArray⟩ : PySem.Str) ++ Txt.item (S x) (i : Int) = S (r.1 ++ [x.getD i 0]) := txt_app hi8
      rw [e9] at Nn
      exact elt_new Fn Nn ⟨Ne.symm (Nat.ne_of_lt ln.1), Ne.symm (Nat.ne_of_lt ln.2.1), Ne.symm (Nat.ne_of_lt ln.2.2.1)⟩ off5 hN₂ trivial (by have := hJ.length; rw [List.length_map, List.length_take] at this; omega) ⟨fun p hp => .tail _ (hsub2 p hp), by
        rw [take_one hri, List.map_append]
        exact (hJ.mono fun _ _ x => x.mono fun p hp => .tail _ hp).append (.cons ⟨nl, 0, _, _, rfl, .head _⟩ .nil)⟩
    · intro D3 ys nx h tk hJ hsub2 hD3 F₁ N₁ h' tk' F₂ N₂
      rw [hv.length, List.take_length] at hJ
      have hck := hsub2 (L1 + 1 + 1, oK2) (.tail _ (.head _))
      have hcw := hsub2 (L1 + 1, oB) (.tail _ (.tail _ (.head _)))
      have hcl := hsub2 _ (.tail _ (.tail _ (.tail _ hc)))
      have hS4 : (S x).length = x.length := S_len x
      dsimp only
      k_steps
      · rename_i ci
        have hst : i = 0 ∨ ¬ x.getD i 0 = x.getD (i - 1) 0 := .inl (by omega)
        unfold Hold
        (rename Fr _ _ _ _ => lF')
        k_dflt (refine' c_eval (emit := fun C D => emit1 _ (.ref D) (compEnvC _ _ C _)) lF' (fun C D I => turn_one _ _ _ _ _ _ _ _ _) ?hclos ?hcell ?hkind ?hnames ?hs ?_; (case hclos => with_unfolding_all rfl); (case hcell => decide); (case hkind => rfl); (case hnames => decide); (case hs => intro _; rfl))
        k_steps
        unfold Hold
        (rename Fr _ _ _ _ => lF'); (rename News _ _ _ _ => lN')
        refine Or.inl (srcL (vs := vs) (nn := n) (fun j zs nx9 => A2 (DRow nx9) zs (((lessAt x i).take j).map fun r => (r.1, -r.2))) rfl lF' lN' (.tail _ hcl) .nil ?_ ?_)
        · intro j v zs nx9 I oI C oC D m₂ h tk E' hv2 hsub3 hJ3 hz off5 hne F₁ N₁ hN₁
          obtain ⟨r, hri, a7, n7, tk7, tx7, rfl, hm7⟩ := hv.get hv2
          have hmx := hsub3 _ (.tail _ (hsub2 _ (.tail _ (.tail _ (.tail _ hm7)))))
          refine casg2 rfl F₁ N₁ hN₁ hne off5 (by rfl) (by rfl) rfl hmx ⟨_, .inr rfl⟩ (by decide) fun oC' mN h' tk' hN₂ e1 e2 hoth F₂ N₂ => ?_
          dsimp only
          refine tests0 ?_
          rw [if_pos rfl]
          refine emit_one hne ?_
          k_steps
          rename_i nl hnl Fn Nn ln
          exact elt_new Fn Nn ⟨Ne.symm (Nat.ne_of_lt ln.1), Ne.symm (Nat.ne_of_lt ln.2.1), Ne.symm (Nat.ne_of_lt ln.2.2.1)⟩ off5 hN₂ trivial (by have := hJ3.length; rw [List.length_map, List.length_take] at this; omega) ⟨fun p hp => .tail _ (hsub3 p hp), by
            rw [take_one hri, List.map_append]
            exact (hJ3.mono fun _ _ x => x.mono fun p hp => .tail _ hp).append (.cons ⟨nl, 0, _, _, rfl, .head _⟩ .nil)⟩
        · intro D5 zs nx2 h tk hJ3 hsub3 hD5 F₁ N₁
          rw [hv.length, List.take_length] at hJ3
          dsimp only
          k_steps
          unfold Hold
          (rename Fr _ _ _ _ => lF'); (rename News _ _ _ _ => lN')
          have zY := lN' _ (.tail _ (hsub3 _ (.head _)))
          have zZ := lN' _ (.head _)
          refine kmk_add_lit (its := List.toArray ys) (its2 := List.toArray zs) (zs := ys ++ zs) lF' lN' ⟨_, zY.1, rfl, _, rfl⟩ ⟨_, zZ.1, rfl, _, rfl⟩ rfl (fun D6 h7 F7 N7 hD6 => ?_) (by have h1 := hJ.length; have h2 := hJ3.length; rw [List.length_map] at h1 h2; rw [sizeLine_eq]; simp only [List.length_append]; show ys.length + zs.length ≤ _; omega)
          dsimp only
          k_steps
          rename_i h8' Ff lNf
          have q1i : I8 ≠ L1 + 1 + 1 := Ne.symm (hnI _ (.head _))
          have q2i : L1 + 1 ≠ I8 := hnI _ (.tail _ (.head _))
          have offN : ∀ p ∈ news, p.1 ∉ ([I8, L1 + 1 + 1, L1 + 1] : List Addr) := fun p hp hm => by
            simp only [List.mem_cons, List.not_mem_nil, or_false] at hm
            rcases hm with hm | hm | hm
            · exact hnI p (.tail _ (.tail _ (hsub p hp))) hm
            · exact off p (hsub p hp) hm
            · exact absurd hm (Nat.ne_of_lt (Nat.lt_of_lt_of_le (l1z p hp) (Nat.le_succ _)))
          have LL : ∀ nz : Led, (∀ p ∈ (I8, it) :: (L1 + 1 + 1, oK2) :: (L1 + 1, oB) :: rest, p ∈ nz) → ∀ a ∈ ([I8, L1 + 1 + 1, L1 + 1] : List Addr), ∃ o, (a, o) ∈ nz ∧ (o.cls ≠ .type "list" ∨ ∃ x, o.data = Data.cell x) := fun nz hs a ha => by
            simp only [List.mem_cons, List.not_mem_nil, or_false] at ha
            rcases ha with rfl | rfl | rfl
            · exact ⟨it, hs _ (.head _), .inl (by rw [hit]; decide)⟩
            · exact ⟨oK2, hs _ (.tail _ (.head _)), .inr ⟨_, dK2⟩⟩
            · exact ⟨oB, hs _ (.tail _ (.tail _ (.head _))), .inr ⟨_, dB⟩⟩
          have hHS : ∀ p ∈ (I8, it) :: (L1 + 1 + 1, oK2) :: (L1 + 1, oB) :: rest, p ∈ (D6, PySem.W.listOf (List.toArray (ys ++ zs)) 0) :: (D5, lsO zs) :: nx2 := fun p hp => .tail _ (.tail _ (hsub3 _ (.tail _ (hsub2 p hp))))
          have hHA : A2 (DRow ((D6, PySem.W.listOf (List.toArray (ys ++ zs)) 0) :: (D5, lsO zs) :: nx2)) (ys ++ zs) (lessAt x (i + 1)) := by
            show A2 _ _ (lessStep x (lessAt x i) i)
            rw [lessStep_t hst]
            exact (hJ.mono fun _ _ x => x.mono fun p hp => .tail _ (.tail _ (hsub3 _ (.tail _ hp)))).append (hJ3.mono fun _ _ x => x.mono fun p hp => .tail _ (.tail _ hp))
          refine hPP _ ?_; exact r_end (D6) ((L1 + 1 + 1, oK2) :: (L1 + 1, oB) :: lessL [I8, L1 + 1 + 1, L1 + 1] ((D6, PySem.W.listOf (List.toArray (ys ++ zs)) 0) :: (D5, lsO zs) :: nx2)) (by k_asm) lNf (hHS _ (.head _)) (fun p hp => by
            rcases List.mem_cons.mp hp with rfl | hp
            · exact ⟨hHS _ (.tail _ (.head _)), .inl (Ne.symm q1i)⟩
            rcases List.mem_cons.mp hp with rfl | hp
            · exact ⟨hHS _ (.tail _ (.tail _ (.head _))), .inl q2i⟩
            · exact ⟨(mem_lessL.mp hp).1, .inl fun e => (mem_lessL.mp hp).2 (e ▸ .head _)⟩) (by intro p hp; cases hp with | head => rfl | tail _ h => cases h) (by first | (intro z h2 h3; (try simp only [List.forall_mem_cons, List.not_mem_nil, false_implies, implies_true, and_true] at h2); (repeat (refine (if_neg (by first | exact ne_ct h3 (by decide) | exact h2 | exact h2.1 | exact h2.2 | exact h2.2.1 | exact h2.2.2 | exact h2.2.2.1 | exact h2.2.2.2 | (rw [h3]; exact Bool.false_ne_true))).trans ?_)); (first | rfl | ((try simp only [kstB, h2, h3, Bool.false_eq_true, if_false, List.contains_nil]); done) | ((try simp only [kstB, h2, h3, Bool.false_eq_true, if_false, List.contains_nil]); rfl))) | ksw_same) ⟨oK2, lessL [I8, L1 + 1 + 1, L1 + 1] ((D6, PySem.W.listOf (List.toArray (ys ++ zs)) 0) :: (D5, lsO zs) :: nx2), (ys ++ zs), (0), rfl, ⟨_, dK2⟩, fun p hp e => (mem_lessL.mp hp).2 (e ▸ .tail _ (.head _)), mem_lessL.mpr ⟨(.head _), (fun hm => by
              simp only [List.mem_cons, List.not_mem_nil, or_false] at hm
              rcases hm with hm | hm | hm
              · exact Nat.ne_of_lt (hD6 _ (.tail _ (hsub3 _ (.tail _ (hsub2 _ (.head _)))))) hm.symm
              · exact Nat.ne_of_lt (hD6 _ (.tail _ (hsub3 _ (.tail _ (hsub2 _ (.tail _ (.head _))))))) hm.symm
              · exact Nat.ne_of_lt (hD6 _ (.tail _ (hsub3 _ (.tail _ (hsub2 _ (.tail _ (.tail _ (.head _)))))))) hm.symm)⟩, hHA.mono fun _ _ x => x.lessL lNf (LL ((D6, PySem.W.listOf (List.toArray (ys ++ zs)) 0) :: (D5, lsO zs) :: nx2) hHS), fun p hp => mem_lessL.mpr ⟨hHS _ (.tail _ (.tail _ (.tail _ (hsub p hp)))), offN p hp⟩⟩
      · rename_i ci l1a l1b cne
        have hi0 : i ≠ 0 := fun e => ci (by omega)
        rw [S_item hi8, S_item2 hi0 hi8] at cne
        have hst : i = 0 ∨ ¬ x.getD i 0 = x.getD (i - 1) 0 := .inr fun e => by
          rw [e] at cne
          simp at cne
        unfold Hold
        (rename Fr _ _ _ _ => lF')
        k_dflt (refine' c_eval (emit := fun C D => emit1 _ (.ref D) (compEnvC _ _ C _)) lF' (fun C D I => turn_one _ _ _ _ _ _ _ _ _) ?hclos ?hcell ?hkind ?hnames ?hs ?_; (case hclos => with_unfolding_all rfl); (case hcell => decide); (case hkind => rfl); (case hnames => decide); (case hs => intro _; rfl))
        k_steps
        unfold Hold
        (rename Fr _ _ _ _ => lF'); (rename News _ _ _ _ => lN')
        refine Or.inl (srcL (vs := vs) (nn := n) (fun j zs nx9 => A2 (DRow nx9) zs (((lessAt x i).take j).map fun r => (r.1, -r.2))) rfl lF' lN' (.tail _ hcl) .nil ?_ ?_)
        · intro j v zs nx9 I oI C oC D m₂ h tk E' hv2 hsub3 hJ3 hz off5 hne F₁ N₁ hN₁
          obtain ⟨r, hri, a7, n7, tk7, tx7, rfl, hm7⟩ := hv.get hv2
          have hmx := hsub3 _ (.tail _ (hsub2 _ (.tail _ (.tail _ (.tail _ hm7)))))
          refine casg2 rfl F₁ N₁ hN₁ hne off5 (by rfl) (by rfl) rfl hmx ⟨_, .inr rfl⟩ (by decide) fun oC' mN h' tk' hN₂ e1 e2 hoth F₂ N₂ => ?_
          dsimp only
          refine tests0 ?_
          rw [if_pos rfl]
          refine emit_one hne ?_
          k_steps
          rename_i nl hnl Fn Nn ln
          exact elt_new Fn Nn ⟨Ne.symm (Nat.ne_of_lt ln.1), Ne.symm (Nat.ne_of_lt ln.2.1), Ne.symm (Nat.ne_of_lt ln.2.2.1)⟩ off5 hN₂ trivial (by have := hJ3.length; rw [List.length_map, List.length_take] at this; omega) ⟨fun p hp => .tail _ (hsub3 p hp), by
            rw [take_one hri, List.map_append]
            exact (hJ3.mono fun _ _ x => x.mono fun p hp => .tail _ hp).append (.cons ⟨nl, 0, _, _, rfl, .head _⟩ .nil)⟩
        · intro D5 zs nx2 h tk hJ3 hsub3 hD5 F₁ N₁
          rw [hv.length, List.take_length] at hJ3
          dsimp only
          k_steps
          unfold Hold
          (rename Fr _ _ _ _ => lF'); (rename News _ _ _ _ => lN')
          have zY := lN' _ (.tail _ (hsub3 _ (.head _)))
          have zZ := lN' _ (.head _)
          refine kmk_add_lit (its := List.toArray ys) (its2 := List.toArray zs) (zs := ys ++ zs) lF' lN' ⟨_, zY.1, rfl, _, rfl⟩ ⟨_, zZ.1, rfl, _, rfl⟩ rfl (fun D6 h7 F7 N7 hD6 => ?_) (by have h1 := hJ.length; have h2 := hJ3.length; rw [List.length_map] at h1 h2; rw [sizeLine_eq]; simp only [List.length_append]; show ys.length + zs.length ≤ _; omega)
          dsimp only
          k_steps
          rename_i h8' Ff lNf
          have q1i : I8 ≠ L1 + 1 + 1 := Ne.symm (hnI _ (.head _))
          have q2i : L1 + 1 ≠ I8 := hnI _ (.tail _ (.head _))
          have offN : ∀ p ∈ news, p.1 ∉ ([I8, L1 + 1 + 1, L1 + 1] : List Addr) := fun p hp hm => by
            simp only [List.mem_cons, List.not_mem_nil, or_false] at hm
            rcases hm with hm | hm | hm
            · exact hnI p (.tail _ (.tail _ (hsub p hp))) hm
            · exact off p (hsub p hp) hm
            · exact absurd hm (Nat.ne_of_lt (Nat.lt_of_lt_of_le (l1z p hp) (Nat.le_succ _)))
          have LL : ∀ nz : Led, (∀ p ∈ (I8, it) :: (L1 + 1 + 1, oK2) :: (L1 + 1, oB) :: rest, p ∈ nz) → ∀ a ∈ ([I8, L1 + 1 + 1, L1 + 1] : List Addr), ∃ o, (a, o) ∈ nz ∧ (o.cls ≠ .type "list" ∨ ∃ x, o.data = Data.cell x) := fun nz hs a ha => by
            simp only [List.mem_cons, List.not_mem_nil, or_false] at ha
            rcases ha with rfl | rfl | rfl
            · exact ⟨it, hs _ (.head _), .inl (by rw [hit]; decide)⟩
            · exact ⟨oK2, hs _ (.tail _ (.head _)), .inr ⟨_, dK2⟩⟩
            · exact ⟨oB, hs _ (.tail _ (.tail _ (.head _))), .inr ⟨_, dB⟩⟩
          have hHS : ∀ p ∈ (I8, it) :: (L1 + 1 + 1, oK2) :: (L1 + 1, oB) :: rest, p ∈ (D6, PySem.W.listOf (List.toArray (ys ++ zs)) 0) :: (D5, lsO zs) :: nx2 := fun p hp => .tail _ (.tail _ (hsub3 _ (.tail _ (hsub2 p hp))))
          have hHA : A2 (DRow ((D6, PySem.W.listOf (List.toArray (ys ++ zs)) 0) :: (D5, lsO zs) :: nx2)) (ys ++ zs) (lessAt x (i + 1)) := by
            show A2 _ _ (lessStep x (lessAt x i) i)
            rw [lessStep_t hst]
            exact (hJ.mono fun _ _ x => x.mono fun p hp => .tail _ (.tail _ (hsub3 _ (.tail _ hp)))).append (hJ3.mono fun _ _ x => x.mono fun p hp => .tail _ (.tail _ hp))
          refine hPP _ ?_; exact r_end (D6) ((L1 + 1 + 1, oK2) :: (L1 + 1, oB) :: lessL [I8, L1 + 1 + 1, L1 + 1] ((D6, PySem.W.listOf (List.toArray (ys ++ zs)) 0) :: (D5, lsO zs) :: nx2)) (by k_asm) lNf (hHS _ (.head _)) (fun p hp => by
            rcases List.mem_cons.mp hp with rfl | hp
            · exact ⟨hHS _ (.tail _ (.head _)), .inl (Ne.symm q1i)⟩
            rcases List.mem_cons.mp hp with rfl | hp
            · exact ⟨hHS _ (.tail _ (.tail _ (.head _))), .inl q2i⟩
            · exact ⟨(mem_lessL.mp hp).1, .inl fun e => (mem_lessL.mp hp).2 (e ▸ .head _)⟩) (by intro p hp; cases hp with | head => rfl | tail _ h => cases h) (by first | (intro z h2 h3; (try simp only [List.forall_mem_cons, List.not_mem_nil, false_implies, implies_true, and_true] at h2); (repeat (refine (if_neg (by first | exact ne_ct h3 (by decide) | exact h2 | exact h2.1 | exact h2.2 | exact h2.2.1 | exact h2.2.2 | exact h2.2.2.1 | exact h2.2.2.2 | (rw [h3]; exact Bool.false_ne_true))).trans ?_)); (first | rfl | ((try simp only [kstB, h2, h3, Bool.false_eq_true, if_false, List.contains_nil]); done) | ((try simp only [kstB, h2, h3, Bool.false_eq_true, if_false, List.contains_nil]); rfl))) | ksw_same) ⟨oK2, lessL [I8, L1 + 1 + 1, L1 + 1] ((D6, PySem.W.listOf (List.toArray (ys ++ zs)) 0) :: (D5, lsO zs) :: nx2), (ys ++ zs), (0), rfl, ⟨_, dK2⟩, fun p hp e => (mem_lessL.mp hp).2 (e ▸ .tail _ (.head _)), mem_lessL.mpr ⟨(.head _), (fun hm => by
              simp only [List.mem_cons, List.not_mem_nil, or_false] at hm
              rcases hm with hm | hm | hm
              · exact Nat.ne_of_lt (hD6 _ (.tail _ (hsub3 _ (.tail _ (hsub2 _ (.head _)))))) hm.symm
              · exact Nat.ne_of_lt (hD6 _ (.tail _ (hsub3 _ (.tail _ (hsub2 _ (.tail _ (.head _))))))) hm.symm
              · exact Nat.ne_of_lt (hD6 _ (.tail _ (hsub3 _ (.tail _ (hsub2 _ (.tail _ (.tail _ (.head _)))))))) hm.symm)⟩, hHA.mono fun _ _ x => x.lessL lNf (LL ((D6, PySem.W.listOf (List.toArray (ys ++ zs)) 0) :: (D5, lsO zs) :: nx2) hHS), fun p hp => mem_lessL.mpr ⟨hHS _ (.tail _ (.tail _ (.tail _ (hsub p hp)))), offN p hp⟩⟩
      · rename_i ci l1a l1b cne h6 Ff lNf
        have q1i : I8 ≠ L1 + 1 + 1 := Ne.symm (hnI _ (.head _))
        have q2i : L1 + 1 ≠ I8 := hnI _ (.tail _ (.head _))
        have offN : ∀ p ∈ news, p.1 ∉ ([I8, L1 + 1 + 1, L1 + 1] : List Addr) := fun p hp hm => by
          simp only [List.mem_cons, List.not_mem_nil, or_false] at hm
          rcases hm with hm | hm | hm
          · exact hnI p (.tail _ (.tail _ (hsub p hp))) hm
          · exact off p (hsub p hp) hm
          · exact absurd hm (Nat.ne_of_lt (Nat.lt_of_lt_of_le (l1z p hp) (Nat.le_succ _)))
        have LL : ∀ nz : Led, (∀ p ∈ (I8, it) :: (L1 + 1 + 1, oK2) :: (L1 + 1, oB) :: rest, p ∈ nz) → ∀ a ∈ ([I8, L1 + 1 + 1, L1 + 1] : List Addr), ∃ o, (a, o) ∈ nz ∧ (o.cls ≠ .type "list" ∨ ∃ x, o.data = Data.cell x) := fun nz hs a ha => by
          simp only [List.mem_cons, List.not_mem_nil, or_false] at ha
          rcases ha with rfl | rfl | rfl
          · exact ⟨it, hs _ (.head _), .inl (by rw [hit]; decide)⟩
          · exact ⟨oK2, hs _ (.tail _ (.head _)), .inr ⟨_, dK2⟩⟩
          · exact ⟨oB, hs _ (.tail _ (.tail _ (.head _))), .inr ⟨_, dB⟩⟩
        have hHS : ∀ p ∈ (I8, it) :: (L1 + 1 + 1, oK2) :: (L1 + 1, oB) :: rest, p ∈ (D3, lsO ys) :: nx := fun p hp => .tail _ (hsub2 p hp)
        have hi0 : i ≠ 0 := fun e => ci (by omega)
        rw [S_item hi8, S_item2 hi0 hi8] at cne
        have heq : x.getD i 0 = x.getD (i - 1) 0 := by
          have q : S [x.getD i 0] = S [x.getD (i - 1) 0] := by simpa using cne
          exact (List.cons.inj (S_inj.mp q)).1
        have hHA : A2 (DRow ((D3, lsO ys) :: nx)) ys (lessAt x (i + 1)) := by
          show A2 _ _ (lessStep x (lessAt x i) i)
          rw [lessStep_f (fun h => h.elim hi0 fun h => h heq)]
          exact hJ.mono fun _ _ x => x.mono fun p hp => .tail _ hp
        refine hPP _ ?_; exact r_end (D3) ((L1 + 1 + 1, oK2) :: (L1 + 1, oB) :: lessL [I8, L1 + 1 + 1, L1 + 1] ((D3, lsO ys) :: nx)) (by k_asm) lNf (hHS _ (.head _)) (fun p hp => by
                rcases List.mem_cons.mp hp with rfl | hp
                · exact ⟨hHS _ (.tail _ (.head _)), .inl (Ne.symm q1i)⟩
                rcases List.mem_cons.mp hp with rfl | hp
                · exact ⟨hHS _ (.tail _ (.tail _ (.head _))), .inl q2i⟩
                · exact ⟨(mem_lessL.mp hp).1, .inl fun e => (mem_lessL.mp hp).2 (e ▸ .head _)⟩) (by intro p hp; cases hp with | head => rfl | tail _ h => cases h) (by first | (intro z h2 h3; (try simp only [List.forall_mem_cons, List.not_mem_nil, false_implies, implies_true, and_true] at h2); (repeat (refine (if_neg (by first | exact ne_ct h3 (by decide) | exact h2 | exact h2.1 | exact h2.2 | exact h2.2.1 | exact h2.2.2 | exact h2.2.2.1 | exact h2.2.2.2 | (rw [h3]; exact Bool.false_ne_true))).trans ?_)); (first | rfl | ((try simp only [kstB, h2, h3, Bool.false_eq_true, if_false, List.contains_nil]); done) | ((try simp only [kstB, h2, h3, Bool.false_eq_true, if_false, List.contains_nil]); rfl))) | ksw_same) ⟨oK2, lessL [I8, L1 + 1 + 1, L1 + 1] ((D3, lsO ys) :: nx), (ys), (ys.length), rfl, ⟨_, dK2⟩, fun p hp e => (mem_lessL.mp hp).2 (e ▸ .tail _ (.head _)), mem_lessL.mpr ⟨(.head _), (fun hm => by
                simp only [List.mem_cons, List.not_mem_nil, or_false] at hm
                rcases hm with hm | hm | hm
                · exact hD3 _ (hsub2 _ (.head _)) hm.symm
                · exact hD3 _ (hsub2 _ (.tail _ (.head _))) hm.symm
                · exact hD3 _ (hsub2 _ (.tail _ (.tail _ (.head _)))) hm.symm)⟩, hHA.mono fun _ _ x => x.lessL lNf (LL ((D3, lsO ys) :: nx) hHS), fun p hp => mem_lessL.mpr ⟨hHS _ (.tail _ (.tail _ (.tail _ (hsub p hp)))), offN p hp⟩⟩
  · rintro c w₁ _ h tk ⟨oK, rest, vs, n, rfl, hoK, off, hc, hv, hsub⟩ F₉ N₉
    dsimp only [kstB] at F₉ ⊢
    k_steps
    (rename News _ _ _ _ => lN9)
    refine hret _ _ _ _ (by k_asm) (cb_drop lN9 (news := (c, PySem.W.listOf (List.toArray vs) n) :: rest) fun p hp => ?_) ⟨c, vs, n, rest, rfl, rfl, hsub, hv⟩
    rcases List.mem_cons.mp hp with rfl | hp
    · exact .tail _ (.tail _ hc)
    · exact .tail _ (.tail _ hp)
end
section
theorem c_lessE (W w) (y : PySem.Str) (x : List Nat) (tx : Tok) (news : Led) (e : y = S x) (hx : x.length ≤ 3) :
    Ctr W w 277 ⟨[.str y tx], []⟩ news 6 60 (fun v news' => ∃ D vs n rest, v = Value.ref D ∧ news' = (D, PySem.W.listOf (List.toArray vs) n) :: rest ∧ (∀ p ∈ news, p ∈ rest) ∧ A2 (DRow rest) vs (lessAt x x.length)) := by
  subst e
  exact c_less W w x tx news hx
noncomputable def getR (R : Book) (t : List Nat) : Int := ((R.find? (key t)).map (·.2)).getD 0
noncomputable def undoTot (R : Book) (w : List Nat) (k : Nat) : Int := ((lessAt (lowW w) w.length).take k).foldl (fun acc r => if r.2 = 1 then acc + getR R r.1 else acc - getR R r.1) 0
noncomputable def undoStep (R : Book) (w : List Nat) : Book := (R.filter fun r => !(key w r)) ++ [(lowW w, undoTot R w (lessAt (lowW w) w.length).length)]
noncomputable def undoAt (R : Book) (ws : List (List Nat)) : Nat → Book
  | 0 => R
  | i + 1 => undoStep (undoAt R ws i) (ws.getD i [])
structure ROk (R : Book) : Prop where
  lw : ∀ r ∈ R, LW r.1
  len : ∀ r ∈ R, r.1.length ≤ 5
  lo : ∀ r ∈ R, -700 ≤ r.2
  hi : ∀ r ∈ R, r.2 ≤ 700
theorem undoTot_succ {R : Book} {w : List Nat} {k : Nat} {r : List Nat × Int} (h : (lessAt (lowW w) w.length)[k]? = some r) : undoTot R w (k + 1) = if r.2 = 1 then undoTot R w k + getR R r.1 else undoTot R w k - getR R r.1 := by
  unfold undoTot
  rw [take_one h, List.foldl_append]
  rfl
theorem lessAt_LW {w : List Nat} (h : LW w) : ∀ k, k ≤ w.length → ∀ r ∈ lessAt w k, LW r.1
  | 0, _, r, hr => by rw [List.mem_singleton.mp hr]; intro c hc; cases hc
  | k + 1, hk, r, hr => by
    have ih := lessAt_LW h k (by omega)
    have h1 : ∀ r ∈ (lessAt w k).map (fun r => (r.1 ++ [w.getD k 0], r.2)), LW r.1 := by
      intro r hr
      obtain ⟨q, hq, rfl⟩ := List.mem_map.mp hr
      intro c hc
      rcases List.mem_append.mp hc with hc | hc
      · exact ih q hq c hc
      · rw [List.mem_singleton.mp hc, List.getD_eq_getElem?_getD, List.getElem?_eq_getElem (show k < w.length by omega)]
        exact h _ (List.getElem_mem _)
    have hr' : r ∈ lessStep w (lessAt w k) k := hr
    unfold lessStep at hr'
    split at hr'
    · rcases List.mem_append.mp hr' with hr | hr
      · exact h1 r hr
      · obtain ⟨q, hq, rfl⟩ := List.mem_map.mp hr
        exact ih q hq
    · exact h1 r hr'
theorem set_rows {R : Book} (h : ∀ r ∈ R, LW r.1) {w v : List Nat} (hw : LW w) (hv : lowW v = lowW w) (hvl : LW v) (n : Int) : ((R.map rowS).filter fun r => Txt.lower r.1 != Txt.lower (S v)) ++ [(S v, numS n)] = ((R.filter fun r => !(key w r)) ++ [(v, n)]).map rowS := by
  rw [List.map_append, List.filter_map]
  congr 2
  refine List.filter_congr fun r hr => ?_
  have h1 : (Txt.lower (rowS r).1 == Txt.lower (S v)) = key v r := S_key (h r hr) hvl
  have h2 : key v r = key w r := by unfold key; rw [hv]
  show (!(Txt.lower (rowS r).1 == Txt.lower (S v))) = _
  rw [h1, h2]
theorem getV_find {R : Book} (h : ∀ r ∈ R, LW r.1) {t : List Nat} (ht : LW t) {v : Value} (hg : GetV (R.map rowS) (S t) v) (hf : (R.find? (key t)).isSome) : ∃ tk, v = .str (numS (getR R t)) tk := by
  unfold GetV at hg
  rw [find_rows h ht] at hg
  cases e : R.find? (key t) with
  | none => rw [e] at hf; cases hf
  | some r =>
    rw [e] at hg
    obtain ⟨tk, hg⟩ := hg
    refine ⟨tk, ?_⟩
    rw [hg]
    unfold getR
    rw [e]; rfl
theorem getR_bound {R : Book} (h : ROk R) (t : List Nat) : -700 ≤ getR R t ∧ getR R t ≤ 700 := by
  unfold getR
  cases e : R.find? (key t) with
  | none => exact ⟨by decide, by decide⟩
  | some r =>
    have hr := List.mem_of_find?_eq_some e
    exact ⟨h.lo r hr, h.hi r hr⟩
end
section
local macro_rules | `(tactic| walk_at "exec For Name Name cons nil") => `(tactic| refine Hold.out ?_)
local macro_rules | `(tactic| walk_at "exec For Tuple Call cons nil") => `(tactic| refine Hold.out ?_)
theorem c_undo (W w) (t d l na : Addr) (nvs : List Value) (nn : Nat) (ws : List (List Nat)) (R : Book) (news : Led) (hT : HT news t d l (R.map rowS)) (hna : (na, PySem.W.listOf (List.toArray nvs) nn) ∈ news) (hnl : na ≠ l) (hnv : StrsAre nvs (ws.map S))
    (hws : ∀ w ∈ ws, LW w ∧ w.length ≤ 3) (hwl : ws.length ≤ 12) (hR : ∀ i, i ≤ ws.length → ROk (undoAt R ws i) ∧ (undoAt R ws i).length ≤ 100)
    (hF : ∀ i (hi : i < ws.length), (∀ r ∈ lessAt (lowW ws[i]) ws[i].length, ((undoAt R ws i).find? (key r.1)).isSome) ∧ ∀ k, -9000 ≤ undoTot (undoAt R ws i) ws[i] k ∧ undoTot (undoAt R ws i) ws[i] k ≤ 9000) :
    Ctr W w 284 ⟨[.ref t, .ref na], []⟩ news 14 160 (fun v news' => v = .none ∧ HT news' t d l ((undoAt R ws ws.length).map rowS) ∧ Ups l news news') := by
  unfold Ctr
  intro dp ut gd cn nms ig ic mo a ccd cl outer A₀ base h₀ L m s R0 B F X N T hdp hup hret
  k_dflt k_enter
  (rename Fr _ _ _ _ => lF'); replace lF' := Fr.nm lF' [(PySem.Str.ofString "names", .ref na), (PySem.Str.ofString "table", .ref t)] (by kernel_rfl)
  k_steps
  unfold Hold
  (rename Fr _ _ _ _ => lF')
  refine For_turns lF' ?_ (fun _ => rfl) (by first | passes_own | with_unfolding_all passes_own)
  k_steps
  unfold Hold
  (rename Fr _ _ _ _ => lF'); (rename News _ _ _ _ => lN')
  refine m_loop (σ := Unit) (l := na) (vs := nvs) (nn := nn) (fun _ => []) [PySem.Str.ofString "name", PySem.Str.ofString "total", PySem.Str.ofString "text", PySem.Str.ofString "sign", PySem.Str.ofString "number"] (fun i _ nx => HT nx t d l ((undoAt R ws i).map rowS) ∧ Ups l news nx) () rfl hna lF' lN' (fun _ hp => (nomatch hp)) ⟨hT, fun p hp _ => hp⟩ ?_ ?_
  · rintro i v _ u nx I it h tk hv ⟨hT1, hU1⟩ hit hlx hnI F₁ N₁
    dsimp only [kstB] at F₁ ⊢
    refine m_gen ?_
    intro PP hPP _
    have hil : i < ws.length := by
      have h1 := (List.getElem?_eq_some_iff.mp hv).1
      have h2 := strs_len hnv
      rw [List.length_map] at h2
      omega
    have hvx : ∃ tv : Tok, v = Value.str (S ws[i]) tv := by
      obtain ⟨tv, hx⟩ := strs_get hnv i (S ws[i]) (by rw [List.getElem?_map, List.getElem?_eq_getElem hil]; rfl)
      exact ⟨tv, Option.some.inj (hv.symm.trans hx)⟩
    obtain ⟨tv, hvx⟩ := hvx
    subst hvx
    have hwi := hws ws[i] (List.getElem_mem _)
    have hFi := hF i hil
    have hRi := hR i (by omega)
    generalize hwe : ws[i] = wd at hwi hFi ⊢
    have hweH : Hold (ws.getD i [] = wd) := by
      show ws.getD i [] = wd
      rw [List.getD_eq_getElem?_getD, List.getElem?_eq_getElem hil, ← hwe]; rfl
    have hW := hwi.1
    have hW3 := hwi.2
    have hL3 : (lowW wd).length ≤ 3 := by rw [lowW_len]; exact hW3
    have he : Txt.lower (S wd) = S (lowW wd) := hW.low
    have hxS : (S wd).length ≤ 100 := by rw [S_len]; omega
    generalize hQ : undoAt R ws i = Q at hRi hFi hT1
    have hti := hT1.ti
    have hdi0 := hT1.di
    obtain ⟨hsd, tkd, nd, hdi⟩ := hdi0
    k_steps
    unfold Hold
    (rename Fr _ _ _ _ => lF')
    refine For_turns lF' ?_ (fun _ => rfl) (by first | passes_own | with_unfolding_all passes_own)
    k_steps
    unfold Hold
    k_dflt (refine Ctr.call ⟨by k_asm, by k_asm, by k_asm, by k_asm, by k_asm, by ktr_room, by ktr_units⟩ (c_lessE _ _ _ _ _ _ (by assumption) (by assumption)) ?_)
    intro v' n' h' tk' F' N' P'
    obtain ⟨D, vs, n, rest, rfl, rfl, hsub, hD⟩ := P'
    rw [lowW_len] at hD
    have hT2 : HT rest t d l (Q.map rowS) := hT1.mono fun p hp => hsub _ (.tail _ hp)
    have hti2 := hT2.ti
    have hdi2 := hsub _ (.tail _ hdi)
    have hk1 : ∀ q ∈ Q.map rowS, q.1.length ≤ 100 := by
      intro q hq
      obtain ⟨q9, hq9, rfl⟩ := List.mem_map.mp hq
      have := hRi.1.len q9 hq9
      show (S q9.1).length ≤ 100
      rw [S_len]; omega
    refine tokGen ?_
    intro kz1
    k_steps
    unfold Hold
    (rename Fr _ _ _ _ => lF'); (rename News _ _ _ _ => lN')
    refine m_loop (σ := Int × Tok) (l := D) (vs := vs) (nn := n) (fun c => [(PySem.Str.ofString "total", Value.int c.1 c.2)]) [PySem.Str.ofString "text", PySem.Str.ofString "sign", PySem.Str.ofString "number"] (fun k c nx9 => nx9 = (D, PySem.W.listOf (List.toArray vs) n) :: rest ∧ c.1 = undoTot Q wd k) (0, _) rfl (.head _) lF' lN' (by intro p hp; cases hp with | head => rfl | tail _ h => cases h) ⟨rfl, rfl⟩ ?_ ?_
    · rintro k v ⟨z, tz⟩ u2 _ I2 it2 h2 tk2 hv2 ⟨rfl, hz⟩ hit2 hlx2 hnI2 F₂ N₂
      dsimp only [kstB] at hz F₂ ⊢
      refine m_gen ?_
      intro PP2 hPP2 _
      obtain ⟨r, hri, a7, n7, tk7, tx7, rfl, hm7⟩ := hD.get hv2
      have hrm := List.mem_of_getElem? hri
      have hm8 : (a7, PySem.W.listOf #[Value.str (S r.1) tk7, Value.int r.2 tx7] n7) ∈ rest := hm7
      have hrL : LW r.1 := lessAt_LW hW.lowW _ (by rw [lowW_len]; omega) r hrm
      have hr5 := lessAt_txt _ _ r hrm
      have hx1 : (S r.1).length ≤ 100 := by rw [S_len]; omega
      have hc1 : Clean (Txt.lower (S r.1)) := by rw [hrL.low]; exact hrL.lowW.clean
      have hfound := hFi.1 r hrm
      have hgb := getR_bound hRi.1 r.1
      have hzH : Hold (z = undoTot Q wd k) := hz
      have hnb := num_back hgb.1 hgb.2
      have hi1 : PySem.intText? (numS (getR Q r.1)) = some (getR Q r.1) := hnb.1
      have hi2 : (numS (getR Q r.1)).length ≤ 4 := hnb.2.2
      clear hm7
      k_steps
      unfold Hold
      k_dflt (refine Ctr.call ⟨by k_asm, by k_asm, by k_asm, by k_asm, by k_asm, by ktr_room, by ktr_units⟩ (c_getH _ _ _ _ _ _ _ _ (by assumption) (by assumption) _ (by (refine HT.mono (by assumption) ?_; intro p9 h9; (repeat (first | exact h9 | refine List.Mem.tail _ ?_)))) (by assumption)) ?_)
      intro v' n' h' tk' F' N' P'
      obtain ⟨e1, gv⟩ := P'
      subst e1
      obtain ⟨tg, rfl⟩ := getV_find hRi.1.lw hrL gv hfound
      refine tokGen ?_
      intro kz2
      k_steps
      all_goals unfold Hold
      all_goals first | k_dflt (refine Ctr.call ⟨by k_asm, by k_asm, by k_asm, by k_asm, by k_asm, by ktr_room, by ktr_units⟩ (c_add _ _ _ _ _ _ _) ?_) | k_dflt (refine Ctr.call ⟨by k_asm, by k_asm, by k_asm, by k_asm, by k_asm, by ktr_room, by ktr_units⟩ (c_sub _ _ _ _ _ _ _) ?_)
      all_goals (intro v' n' h' tk' F' N' P'; obtain ⟨e1, t9, e2⟩ := P'; subst e1 e2; (try k_sweep))
      all_goals k_steps
      all_goals refine hPP2 _ ?_
      all_goals refine m_end (_, _) ((D, PySem.W.listOf (List.toArray vs) n) :: rest) (by k_asm) (by k_asm) (.head _) (fun p hp => ⟨.tail _ hp, .inl (hnI2 p hp)⟩) hlx2 (by intro p hp; cases hp with | head => rfl | tail _ h => cases h) (by first | (intro z h2 h3; (try simp only [List.forall_mem_cons, List.not_mem_nil, false_implies, implies_true, and_true] at h2); (repeat (refine (if_neg (by first | exact ne_ct h3 (by decide) | exact h2 | exact h2.1 | exact h2.2 | exact h2.2.1 | exact h2.2.2 | exact h2.2.2.1 | exact h2.2.2.2 | (rw [h3]; exact Bool.false_ne_true))).trans ?_)); (first | rfl | ((try simp only [kstB, h2, h3, Bool.false_eq_true, if_false, List.contains_nil]); done) | ((try simp only [kstB, h2, h3, Bool.false_eq_true, if_false, List.contains_nil]); rfl))) | ksw_same) ⟨rfl, ?_⟩
      all_goals (unfold Hold at hzH)
      · show z + getR Q r.1 = _
        rw [undoTot_succ hri, ← hzH]
        exact (if_pos (by assumption)).symm
      · show z - getR Q r.1 = _
        rw [undoTot_succ hri, ← hzH]
        exact (if_neg (by assumption)).symm
    · rintro ⟨z, tz⟩ u2 _ h2 tk2 ⟨rfl, hz⟩ hlx2 F₂ N₂
      dsimp only [kstB] at hz F₂ ⊢
      rw [hD.length] at hz
      have hst : undoAt R ws (i + 1) = undoStep Q wd := by
        show undoStep (undoAt R ws i) (ws.getD i []) = _
        have := hweH
        unfold Hold at this
        rw [this, hQ]
      have hRn := (hR (i + 1) (by omega)).1
      rw [hst] at hRn
      have hz2 : undoTot Q wd (lessAt (lowW wd) wd.length).length = z := hz.symm
      have hlast : (lowW wd, z) ∈ undoStep Q wd := by
        unfold undoStep
        rw [hz2]
        exact List.mem_append.mpr (.inr (.head _))
      have hb0 := hRn.lo _ hlast
      have hb1 := hRn.hi _ hlast
      dsimp only at hb0 hb1
      have hzH : Hold (undoStep Q wd = (Q.filter fun r => !(key wd r)) ++ [(lowW wd, z)]) := by
        unfold Hold undoStep
        rw [hz2]
      have hnb := num_back hb0 hb1
      have hx1 : (Txt.lower (S wd)).length ≤ 100 := by rw [he, S_len, lowW_len]; omega
      have hc1 : Clean (Txt.lower (S wd)) := by rw [he]; exact hW.lowW.clean
      have hc2 : Clean (Txt.lower (Txt.lower (S wd))) := by rw [he, hW.lowW.low]; exact hW.lowW.lowW.clean
      have hy1 : (PySem.Str.ofString (toString z)).length ≤ 100 := Nat.le_trans hnb.2.2 (by decide)
      have hy2 : Clean (PySem.Str.ofString (toString z)) := hnb.2.1
      have hz5 : (Q.map rowS).length ≤ 500 := by rw [List.length_map]; omega
      refine tokGen ?_
      intro kz2
      k_steps
      unfold Hold
      k_dflt (refine Ctr.call ⟨by k_asm, by k_asm, by k_asm, by k_asm, by k_asm, by ktr_room, by ktr_units⟩ (c_setitem _ _ _ _ _ _ _ _ _ _ (by assumption) (by assumption) (by assumption) (by assumption) (by assumption) _ (by (refine HT.mono (by assumption) ?_; intro p9 h9; (repeat (first | exact h9 | refine List.Mem.tail _ ?_)))) (by assumption) (by assumption)) ?_)
      intro v' n' h' tk' F' N' P'
      obtain ⟨rfl, hT5, hU5⟩ := P'
      rw [he] at hT5
      have hT6 : HT n' t d l ((undoAt R ws (i + 1)).map rowS) := by
        rw [hst]
        have := hzH
        unfold Hold at this
        rw [this]
        exact Eq.mp (congrArg (HT n' t d l) (set_rows hRi.1.lw hW hW.low_low hW.lowW z)) hT5
      have hIl : I ≠ l := by
        have hli := hT1.li
        obtain ⟨vs9, ep9, hl9, hr9⟩ := hli
        exact Ne.symm (hnI _ hl9)
      have hI6 : (I, it) ∈ n' := hU5 _ (.tail _ (hsub _ (.head _))) hIl
      have hT7 : HT (lessL [I] n') t d l ((undoAt R ws (i + 1)).map rowS) := HT.lessL (as := [I]) N' hT6 fun a9 ha9 => by
        rw [List.mem_singleton.mp ha9]
        exact ⟨hIl, it, hI6, .inl ⟨by rw [hit]; decide, by rw [hit]; decide, by rw [hit]; intro e; cases e⟩⟩
      dsimp only
      k_steps
      refine hPP _ ?_; exact m_end () (lessL [I] n') (by k_asm) (by k_asm) hI6 (fun p hp => ⟨(mem_lessL.mp hp).1, .inl fun e => (mem_lessL.mp hp).2 (e ▸ .head _)⟩) (mem_lessL.mpr ⟨hU5 _ (.tail _ (hsub _ (.tail _ hlx))) hnl, fun hm => hnI _ hlx (List.mem_singleton.mp hm)⟩) (fun _ hp => nomatch hp) (by first | (intro z h2 h3; (try simp only [List.forall_mem_cons, List.not_mem_nil, false_implies, implies_true, and_true] at h2); (repeat (refine (if_neg (by first | exact ne_ct h3 (by decide) | exact h2 | exact h2.1 | exact h2.2 | exact h2.2.1 | exact h2.2.2 | exact h2.2.2.1 | exact h2.2.2.2 | (rw [h3]; exact Bool.false_ne_true))).trans ?_)); (first | rfl | ((try simp only [kstB, h2, h3, Bool.false_eq_true, if_false, List.contains_nil]); done) | ((try simp only [kstB, h2, h3, Bool.false_eq_true, if_false, List.contains_nil]); rfl))) | ksw_same) ⟨hT7, fun p hp hl => mem_lessL.mpr ⟨hU5 _ (.tail _ (hsub _ (.tail _ (hU1 p hp hl)))) hl, fun hm => hnI _ (hU1 p hp hl) (List.mem_singleton.mp hm)⟩⟩
  · rintro _ u nx h tk ⟨hT1, hU1⟩ hlx F₁ N₁
    have hl12 : nvs.length = ws.length := by have := strs_len hnv; rwa [List.length_map] at this
    rw [hl12] at hT1
    dsimp only [kstB] at F₁ ⊢
    k_steps
    exact hret _ _ _ _ (by k_asm) (by k_asm) ⟨rfl, hT1, hU1⟩
end
section
noncomputable def sct (x y : List Nat) : Bool := scPlain (S x) (S y) == scMore (S x) (S y)
noncomputable def sumTot (R : Book) (ws : List (List Nat)) (w : List Nat) (k : Nat) : Int := (ws.take k).foldl (fun acc v => if v.length < w.length ∧ sct v w = true then acc + getR R (lowW v) else acc) (getR R (upW w))
noncomputable def sumStep (R : Book) (ws : List (List Nat)) (w : List Nat) : Book := (R.filter fun r => !(key w r)) ++ [(upW w, sumTot R ws w ws.length)]
noncomputable def sumAt (R : Book) (ws : List (List Nat)) : Nat → Book
  | 0 => R
  | i + 1 => sumStep (sumAt R ws i) ws (ws.getD i [])
theorem sumTot_succ {R : Book} {ws : List (List Nat)} {w v : List Nat} {k : Nat} (h : ws[k]? = some v) : sumTot R ws w (k + 1) = if v.length < w.length ∧ sct v w = true then sumTot R ws w k + getR R (lowW v) else sumTot R ws w k := by
  unfold sumTot
  rw [take_one h, List.foldl_append]
  rfl
theorem key_up {w : List Nat} (h : LW w) (r : List Nat × Int) : key (upW w) r = key w r := by unfold key; rw [h.low_up]
theorem key_low {w : List Nat} (h : LW w) (r : List Nat × Int) : key (lowW w) r = key w r := by unfold key; rw [h.low_low]
end
section
local macro_rules | `(tactic| walk_at "subscriptTail Name Constant ref int") => `(tactic| refine Hold.out ?_)
local macro_rules | `(tactic| walk_at "exec For Name Name cons nil") => `(tactic| refine Hold.out ?_)
theorem c_sum (W w) (t d l na : Addr) (nvs : List Value) (nn : Nat) (ws : List (List Nat)) (R : Book) (news : Led) (hT : HT news t d l (R.map rowS)) (hna : (na, PySem.W.listOf (List.toArray nvs) nn) ∈ news) (hnl : na ≠ l) (hnv : StrsAre nvs (ws.map S))
    (hws : ∀ w ∈ ws, LW w ∧ w.length ≤ 3) (hwl : ws.length ≤ 12) (hR : ∀ i, i ≤ ws.length → ROk (sumAt R ws i) ∧ (sumAt R ws i).length ≤ 100)
    (hF : ∀ i, i ≤ ws.length → ∀ v ∈ ws, ((sumAt R ws i).find? (key v)).isSome)
    (hS : ∀ x ∈ ws, ∀ y ∈ ws, x.length < y.length → scVs (S x) (S y) = [Value.bool (sct x y), Value.bool (sct x y), Value.bool true]) :
    Ctr W w 272 ⟨[.ref t, .ref na], []⟩ news 14 160 (fun v news' => v = .bool true ∧ HT news' t d l ((sumAt R ws ws.length).map rowS) ∧ Ups l news news') := by
  unfold Ctr
  intro dp ut gd cn nms ig ic mo a ccd cl outer A₀ base h₀ L m s R0 B F X N T hdp hup hret
  k_dflt k_enter
  (rename Fr _ _ _ _ => lF'); replace lF' := Fr.nm lF' [(PySem.Str.ofString "names", .ref na), (PySem.Str.ofString "table", .ref t)] (by kernel_rfl)
  k_steps
  unfold Hold
  (rename Fr _ _ _ _ => lF')
  refine For_turns lF' ?_ (fun _ => rfl) (by first | passes_own | with_unfolding_all passes_own)
  k_steps
  unfold Hold
  (rename Fr _ _ _ _ => lF'); (rename News _ _ _ _ => lN')
  refine m_loop (σ := Unit) (l := na) (vs := nvs) (nn := nn) (fun _ => [(PySem.Str.ofString "agree", Value.bool true)]) [PySem.Str.ofString "great", PySem.Str.ofString "total", PySem.Str.ofString "small", PySem.Str.ofString "signs", PySem.Str.ofString "laid"] (fun i _ nx => HT nx t d l ((sumAt R ws i).map rowS) ∧ Ups l news nx) () rfl hna lF' lN' (by intro p hp; cases hp with | head => rfl | tail _ h => cases h) ⟨hT, fun p hp _ => hp⟩ ?_ ?_
  · rintro i v _ u nx I it h tk hv ⟨hT1, hU1⟩ hit hlx hnI F₁ N₁
    dsimp only [kstB] at F₁ ⊢
    refine m_gen ?_
    intro PP hPP _
    have hil : i < ws.length := by
      have h1 := (List.getElem?_eq_some_iff.mp hv).1
      have h2 := strs_len hnv
      rw [List.length_map] at h2
      omega
    have hvx : ∃ tv : Tok, v = Value.str (S ws[i]) tv := by
      obtain ⟨tv, hx⟩ := strs_get hnv i (S ws[i]) (by rw [List.getElem?_map, List.getElem?_eq_getElem hil]; rfl)
      exact ⟨tv, Option.some.inj (hv.symm.trans hx)⟩
    obtain ⟨tv, hvx⟩ := hvx
    subst hvx
    have hwm : ws[i] ∈ ws := List.getElem_mem _
    have hwi := hws ws[i] hwm
    have hRi := hR i (by omega)
    have hFi := hF i (by omega)
    generalize hwe : ws[i] = wd at hwi hwm ⊢
    have hweH : Hold (ws.getD i [] = wd) := by
      show ws.getD i [] = wd
      rw [List.getD_eq_getElem?_getD, List.getElem?_eq_getElem hil, ← hwe]; rfl
    have hW := hwi.1
    have hW3 := hwi.2
    have he : Txt.upper (S wd) = S (upW wd) := hW.up
    have he2 : Txt.lower (S wd) = S (lowW wd) := hW.low
    have hy3 : (S wd).length ≤ 3 := by rw [S_len]; omega
    have hyl : (Txt.lower (S wd)).length ≤ 3 := by rw [he2, S_len, lowW_len]; omega
    have hyu : (Txt.upper (S wd)).length ≤ 3 := by rw [he, S_len, upW_len]; omega
    have hx1 : (Txt.upper (S wd)).length ≤ 100 := by omega
    have hc1 : Clean (Txt.upper (S wd)) := by rw [he]; exact hW.upW.clean
    have hc2 : Clean (Txt.lower (Txt.upper (S wd))) := by rw [he, hW.upW.low]; exact hW.upW.lowW.clean
    generalize hQ : sumAt R ws i = Q at hRi hFi hT1
    have hti := hT1.ti
    have hdi0 := hT1.di
    obtain ⟨hsd, tkd, nd, hdi⟩ := hdi0
    have hk1 : ∀ q ∈ Q.map rowS, q.1.length ≤ 100 := by
      intro q hq
      obtain ⟨q9, hq9, rfl⟩ := List.mem_map.mp hq
      have := hRi.1.len q9 hq9
      show (S q9.1).length ≤ 100
      rw [S_len]; omega
    k_steps
    unfold Hold
    k_dflt (refine Ctr.call ⟨by k_asm, by k_asm, by k_asm, by k_asm, by k_asm, by ktr_room, by ktr_units⟩ (c_getitem _ _ _ _ _ _ _ _ (by assumption) (by assumption) _ (by (refine HT.mono (by assumption) ?_; intro p9 h9; (repeat (first | exact h9 | refine List.Mem.tail _ ?_)))) (by assumption)) ?_)
    intro v' n' h' tk' F' N' P'
    obtain ⟨e1, gv⟩ := P'
    subst e1
    rw [he] at gv
    have hfu : (Q.find? (key (upW wd))).isSome := by
      have e9 : key (upW wd) = key wd := funext fun r => key_up hW r
      rw [e9]; exact hFi wd hwm
    obtain ⟨tg, rfl⟩ := getV_find hRi.1.lw hW.upW gv hfu
    have hgb := getR_bound hRi.1 (upW wd)
    have hnb := num_back hgb.1 hgb.2
    have hi1 : PySem.intText? (numS (getR Q (upW wd))) = some (getR Q (upW wd)) := hnb.1
    have hi2 : (numS (getR Q (upW wd))).length ≤ 4 := hnb.2.2
    refine tokGen ?_
    intro kz2
    k_steps
    unfold Hold
    (rename Fr _ _ _ _ => lF')
    refine For_turns lF' ?_ (fun _ => rfl) (by first | passes_own | with_unfolding_all passes_own)
    k_steps
    unfold Hold
    (rename Fr _ _ _ _ => lF'); (rename News _ _ _ _ => lN')
    refine m_loop (σ := Int × Tok) (l := na) (vs := nvs) (nn := nn) (fun c => [(PySem.Str.ofString "total", Value.int c.1 c.2), (PySem.Str.ofString "agree", Value.bool true)]) [PySem.Str.ofString "small", PySem.Str.ofString "signs"] (fun k c nx9 => (∀ p ∈ (I, it) :: nx, p ∈ nx9) ∧ c.1 = sumTot Q ws wd k) (_, _) rfl (.tail _ hlx) lF' lN' (by intro p hp; cases hp with | head => rfl | tail _ h => cases h with | head => rfl | tail _ h => cases h) ⟨fun p hp => hp, rfl⟩ ?_ ?_
    · rintro k v ⟨z, tz⟩ u2 nx9 I2 it2 h2 tk2 hv2 ⟨hsub, hz⟩ hit2 hlx2 hnI2 F₂ N₂
      dsimp only [kstB] at hz F₂ ⊢
      refine m_gen ?_
      intro PP2 hPP2 _
      have hkl : k < ws.length := by
        have h1 := (List.getElem?_eq_some_iff.mp hv2).1
        have h2 := strs_len hnv
        rw [List.length_map] at h2
        omega
      have hvx : ∃ tv : Tok, v = Value.str (S ws[k]) tv := by
        obtain ⟨tv, hx⟩ := strs_get hnv k (S ws[k]) (by rw [List.getElem?_map, List.getElem?_eq_getElem hkl]; rfl)
        exact ⟨tv, Option.some.inj (hv2.symm.trans hx)⟩
      obtain ⟨tv2, hvx⟩ := hvx
      subst hvx
      have hsm : ws[k] ∈ ws := List.getElem_mem _
      have hsi := hws ws[k] hsm
      have hsk : ws[k]? = some ws[k] := List.getElem?_eq_getElem hkl
      generalize hse : ws[k] = sd at hsi hsm hsk ⊢
      have hs1 := hsi.1
      have hs2 := hsi.2
      have hSc := hS sd hsm wd hwm
      have he3 : Txt.lower (S sd) = S (lowW sd) := hs1.low
      have he4 : Txt.upper (S sd) = S (upW sd) := hs1.up
      have hx3 : (S sd).length ≤ 3 := by rw [S_len]; omega
      have hxl : (Txt.lower (S sd)).length ≤ 3 := by rw [he3, S_len, lowW_len]; omega
      have hxu : (Txt.upper (S sd)).length ≤ 3 := by rw [he4, S_len, upW_len]; omega
      have hx4 : (Txt.lower (S sd)).length ≤ 100 := by omega
      have hc3 : Clean (Txt.lower (Txt.lower (S sd))) := by rw [he3, hs1.lowW.low]; exact hs1.lowW.lowW.clean
      have hfs : (Q.find? (key (lowW sd))).isSome := by
        have e9 : key (lowW sd) = key sd := funext fun r => key_low hs1 r
        rw [e9]; exact hFi sd hsm
      have hgb3 := getR_bound hRi.1 (lowW sd)
      have hnb3 := num_back hgb3.1 hgb3.2
      have hi3 : PySem.intText? (numS (getR Q (lowW sd))) = some (getR Q (lowW sd)) := hnb3.1
      have hi4 : (numS (getR Q (lowW sd))).length ≤ 4 := hnb3.2.2
      have hT3 : HT nx9 t d l (Q.map rowS) := hT1.mono fun p hp => hsub _ (.tail _ hp)
      have hti3 := hsub _ (.tail _ hti)
      have hdi3 := hsub _ (.tail _ hdi)
      have hS9 : Hold ((S sd).length = sd.length ∧ (S wd).length = wd.length) := ⟨S_len sd, S_len wd⟩
      have hzH : Hold (z = sumTot Q ws wd k ∧ ws[k]? = some sd) := ⟨hz, hsk⟩
      clear hi1 hi2 hx1 hc1 hc2 hsk
      k_steps
      · unfold Hold
        k_dflt (refine Ctr.call ⟨by k_asm, by k_asm, by k_asm, by k_asm, by k_asm, by ktr_room, by ktr_units⟩ (c_scat _ _ _ _ _ _ _ (by assumption) (by assumption) (by assumption) (by assumption) (by assumption) (by assumption)) ?_)
        intro v' n' h' tk' F' N' P'
        obtain ⟨D, nD, rfl, rfl⟩ := P'
        rw [hSc (by have := hS9.1; have := hS9.2; omega)] at N'
        cases hb : sct sd wd
        all_goals rw [hb] at N'
        all_goals refine tokGen ?_
        all_goals intro kz3
        all_goals k_steps
        all_goals (unfold Hold; (rename News _ _ _ _ => lN7); refine tri0 (lN7.isList (.head _)) ?_; k_steps)
        all_goals (unfold Hold; (rename News _ _ _ _ => lN7); refine tri0 (lN7.isList (.head _)) ?_; k_steps)
        all_goals (unfold Hold; (rename News _ _ _ _ => lN7); refine tri1 (lN7.isList (.head _)) ?_; k_steps)
        all_goals (unfold Hold; (rename News _ _ _ _ => lN7); refine tri2 (lN7.isList (.head _)) ?_; k_steps)
        all_goals (unfold Hold; (rename News _ _ _ _ => lN7); refine tri0 (lN7.isList (.head _)) ?_; k_steps)
        · refine hPP2 _ ?_; refine m_end (z, tz) nx9 (by k_asm) (by k_asm) (.tail _ (.head _)) (fun p hp => ⟨.tail _ (.tail _ hp), .inl (hnI2 p hp)⟩) hlx2 (by intro p hp; cases hp with | head => rfl | tail _ h => cases h with | head => rfl | tail _ h => cases h) (by first | (intro z h2 h3; (try simp only [List.forall_mem_cons, List.not_mem_nil, false_implies, implies_true, and_true] at h2); (repeat (refine (if_neg (by first | exact ne_ct h3 (by decide) | exact h2 | exact h2.1 | exact h2.2 | exact h2.2.1 | exact h2.2.2 | exact h2.2.2.1 | exact h2.2.2.2 | (rw [h3]; exact Bool.false_ne_true))).trans ?_)); (first | rfl | ((try simp only [kstB, h2, h3, Bool.false_eq_true, if_false, List.contains_nil]); done) | ((try simp only [kstB, h2, h3, Bool.false_eq_true, if_false, List.contains_nil]); rfl))) | ksw_same) ⟨hsub, ?_⟩
          rw [sumTot_succ hzH.2, ← hzH.1]
          exact (if_neg (fun e => by rw [hb] at e; exact Bool.false_ne_true e.2)).symm
        · unfold Hold
          k_dflt (refine Ctr.call ⟨by k_asm, by k_asm, by k_asm, by k_asm, by k_asm, by ktr_room, by ktr_units⟩ (c_getitem _ _ _ _ _ _ _ _ (by assumption) (by assumption) _ (by (refine HT.mono (by assumption) ?_; intro p9 h9; (repeat (first | exact h9 | refine List.Mem.tail _ ?_)))) (by assumption)) ?_)
          intro v' n' h' tk' F' N' P'
          obtain ⟨e1, gv⟩ := P'
          subst e1
          rw [he3] at gv
          obtain ⟨tg, rfl⟩ := getV_find hRi.1.lw hs1.lowW gv hfs
          refine tokGen ?_
          intro kz4
          k_steps
          unfold Hold
          k_dflt (refine Ctr.call ⟨by k_asm, by k_asm, by k_asm, by k_asm, by k_asm, by ktr_room, by ktr_units⟩ (c_add _ _ _ _ _ _ _) ?_)
          intro v' n' h' tk' F' N' P'
          obtain ⟨e1, t9, e2⟩ := P'
          subst e1 e2
          (try k_sweep)
          k_steps
          refine hPP2 _ ?_; refine m_end (_, _) nx9 (by k_asm) (by k_asm) (.tail _ (.head _)) (fun p hp => ⟨.tail _ (.tail _ hp), .inl (hnI2 p hp)⟩) hlx2 (by intro p hp; cases hp with | head => rfl | tail _ h => cases h with | head => rfl | tail _ h => cases h) (by first | (intro z h2 h3; (try simp only [List.forall_mem_cons, List.not_mem_nil, false_implies, implies_true, and_true] at h2); (repeat (refine (if_neg (by first | exact ne_ct h3 (by decide) | exact h2 | exact h2.1 | exact h2.2 | exact h2.2.1 | exact h2.2.2 | exact h2.2.2.1 | exact h2.2.2.2 | (rw [h3]; exact Bool.false_ne_true))).trans ?_)); (first | rfl | ((try simp only [kstB, h2, h3, Bool.false_eq_true, if_false, List.contains_nil]); done) | ((try simp only [kstB, h2, h3, Bool.false_eq_true, if_false, List.contains_nil]); rfl))) | ksw_same) ⟨hsub, ?_⟩
          rw [sumTot_succ hzH.2]
          show z + getR Q (lowW sd) = _
          rw [← hzH.1]
          exact (if_pos ⟨by have := hS9.1; have := hS9.2; omega, hb⟩).symm
      · refine hPP2 _ ?_; refine m_end (z, tz) nx9 (by k_asm) (by k_asm) (.head _) (fun p hp => ⟨.tail _ hp, .inl (hnI2 p hp)⟩) hlx2 (by intro p hp; cases hp with | head => rfl | tail _ h => cases h with | head => rfl | tail _ h => cases h) (by first | (intro z h2 h3; (try simp only [List.forall_mem_cons, List.not_mem_nil, false_implies, implies_true, and_true] at h2); (repeat (refine (if_neg (by first | exact ne_ct h3 (by decide) | exact h2 | exact h2.1 | exact h2.2 | exact h2.2.1 | exact h2.2.2 | exact h2.2.2.1 | exact h2.2.2.2 | (rw [h3]; exact Bool.false_ne_true))).trans ?_)); (first | rfl | ((try simp only [kstB, h2, h3, Bool.false_eq_true, if_false, List.contains_nil]); done) | ((try simp only [kstB, h2, h3, Bool.false_eq_true, if_false, List.contains_nil]); rfl))) | ksw_same) ⟨hsub, ?_⟩
        rw [sumTot_succ hzH.2, ← hzH.1]
        exact (if_neg (fun e => by have := hS9.1; have := hS9.2; have := e.1; omega)).symm
    · rintro ⟨z, tz⟩ u2 nx9 h2 tk2 ⟨hsub, hz⟩ hlx2 F₂ N₂
      dsimp only [kstB] at hz F₂ ⊢
      have hl12 : nvs.length = ws.length := by have := strs_len hnv; rwa [List.length_map] at this
      rw [hl12] at hz
      have hst : sumAt R ws (i + 1) = (Q.filter fun r => !(key wd r)) ++ [(upW wd, z)] := by
        show sumStep (sumAt R ws i) ws (ws.getD i []) = _
        have := hweH
        unfold Hold at this
        rw [this, hQ]
        unfold sumStep
        rw [← hz]
      have hRn := (hR (i + 1) (by omega)).1
      have hlast : (upW wd, z) ∈ sumAt R ws (i + 1) := by rw [hst]; exact List.mem_append.mpr (.inr (.head _))
      have hb0 := hRn.lo _ hlast
      have hb1 := hRn.hi _ hlast
      dsimp only at hb0 hb1
      have hnbz := num_back hb0 hb1
      have hy1 : (PySem.Str.ofString (toString z)).length ≤ 100 := Nat.le_trans hnbz.2.2 (by decide)
      have hy2 : Clean (PySem.Str.ofString (toString z)) := hnbz.2.1
      have hz5 : (Q.map rowS).length ≤ 500 := by rw [List.length_map]; omega
      have hT3 : HT nx9 t d l (Q.map rowS) := hT1.mono fun p hp => hsub _ (.tail _ hp)
      have hti3 := hsub _ (.tail _ hti)
      have hdi3 := hsub _ (.tail _ hdi)
      clear hi1 hi2
      refine tokGen ?_
      intro kz3
      k_steps
      unfold Hold
      k_dflt (refine Ctr.call ⟨by k_asm, by k_asm, by k_asm, by k_asm, by k_asm, by ktr_room, by ktr_units⟩ (c_setitem _ _ _ _ _ _ _ _ _ _ (by assumption) (by assumption) (by assumption) (by assumption) (by assumption) _ (by (refine HT.mono (by assumption) ?_; intro p9 h9; (repeat (first | exact h9 | refine List.Mem.tail _ ?_)))) (by assumption) (by assumption)) ?_)
      intro v' n' h' tk' F' N' P'
      obtain ⟨rfl, hT5, hU5⟩ := P'
      rw [he] at hT5
      have hT6 : HT n' t d l ((sumAt R ws (i + 1)).map rowS) := by
        rw [hst]
        exact Eq.mp (congrArg (HT n' t d l) (set_rows hRi.1.lw hW hW.low_up hW.upW z)) hT5
      have hIl : I ≠ l := by
        have hli := hT1.li
        obtain ⟨vs9, ep9, hl9, hr9⟩ := hli
        exact Ne.symm (hnI _ hl9)
      have hI6 : (I, it) ∈ n' := hU5 _ (hsub _ (.head _)) hIl
      have hT7 : HT (lessL [I] n') t d l ((sumAt R ws (i + 1)).map rowS) := HT.lessL (as := [I]) N' hT6 fun a9 ha9 => by
        rw [List.mem_singleton.mp ha9]
        exact ⟨hIl, it, hI6, .inl ⟨by rw [hit]; decide, by rw [hit]; decide, by rw [hit]; intro e; cases e⟩⟩
      dsimp only
      k_steps
      refine hPP _ ?_; exact m_end () (lessL [I] n') (by k_asm) (by k_asm) hI6 (fun p hp => ⟨(mem_lessL.mp hp).1, .inl fun e => (mem_lessL.mp hp).2 (e ▸ .head _)⟩) (mem_lessL.mpr ⟨hU5 _ hlx2 hnl, fun hm => hnI _ hlx (List.mem_singleton.mp hm)⟩) (by intro p hp; cases hp with | head => rfl | tail _ h => cases h) (by first | (intro z h2 h3; (try simp only [List.forall_mem_cons, List.not_mem_nil, false_implies, implies_true, and_true] at h2); (repeat (refine (if_neg (by first | exact ne_ct h3 (by decide) | exact h2 | exact h2.1 | exact h2.2 | exact h2.2.1 | exact h2.2.2 | exact h2.2.2.1 | exact h2.2.2.2 | (rw [h3]; exact Bool.false_ne_true))).trans ?_)); (first | rfl | ((try simp only [kstB, h2, h3, Bool.false_eq_true, if_false, List.contains_nil]); done) | ((try simp only [kstB, h2, h3, Bool.false_eq_true, if_false, List.contains_nil]); rfl))) | ksw_same) ⟨hT7, fun p hp hl => mem_lessL.mpr ⟨hU5 _ (hsub _ (.tail _ (hU1 p hp hl))) hl, fun hm => hnI _ (hU1 p hp hl) (List.mem_singleton.mp hm)⟩⟩
  · rintro _ u nx h tk ⟨hT1, hU1⟩ hlx F₁ N₁
    have hl12 : nvs.length = ws.length := by have := strs_len hnv; rwa [List.length_map] at this
    rw [hl12] at hT1
    dsimp only [kstB] at F₁ ⊢
    k_steps
    exact hret _ _ _ _ (by k_asm) (by k_asm) ⟨rfl, hT1, hU1⟩
end
section
noncomputable def wordsN : Nat → List (List Nat)
  | 0 => [[]]
  | n + 1 => [97, 98, 99].flatMap fun c => (wordsN n).map fun w => c :: w
noncomputable def isSub : List Nat → List Nat → Bool
  | [], _ => true
  | _ :: _, [] => false
  | a :: r, b :: t => if a == b then isSub r t else isSub (a :: r) t
noncomputable def scOk (x y : List Nat) : Bool :=
  let more : Int := 2 * ((y.length : Int) - (x.length : Int))
  let other : Int := more + x.length
  let p := levS (S x) (S y) more
  let q := if y.length = 3 then levS (S (upW y)) (S x) other else levS (S (upW x)) (S y) other
  ((p == more) == isSub x y) && ((other == q) == isSub x y) && decide (more ≤ p) && decide (other ≤ q)
theorem sc01 : (wordsN 0).all (fun x => (wordsN 1).all fun y => scOk x y) = true := by decide +kernel
theorem sc02 : (wordsN 0).all (fun x => (wordsN 2).all fun y => scOk x y) = true := by decide +kernel
theorem sc03 : (wordsN 0).all (fun x => (wordsN 3).all fun y => scOk x y) = true := by decide +kernel
theorem sc12 : (wordsN 1).all (fun x => (wordsN 2).all fun y => scOk x y) = true := by decide +kernel
theorem sc13 : (wordsN 1).all (fun x => (wordsN 3).all fun y => scOk x y) = true := by decide +kernel
theorem sc23 : (wordsN 2).all (fun x => (wordsN 3).all fun y => scOk x y) = true := by decide +kernel
end
section
theorem mem_wordsN : ∀ u : List Nat, (∀ c ∈ u, c = 97 ∨ c = 98 ∨ c = 99) → u ∈ wordsN u.length
  | [], _ => .head _
  | c :: u, h => by
    show c :: u ∈ List.flatMap _ _
    refine List.mem_flatMap.mpr ⟨c, ?_, List.mem_map.mpr ⟨u, mem_wordsN u fun d hd => h d (.tail _ hd), rfl⟩⟩
    rcases h c (.head _) with h | h | h <;> subst h
    · exact .head _
    · exact .tail _ (.head _)
    · exact .tail _ (.tail _ (.head _))
theorem LW.abc {w : List Nat} (h : LW w) : ∀ c ∈ Mine.lowW w, c = 97 ∨ c = 98 ∨ c = 99 := by
  intro c hc
  obtain ⟨d, hd, rfl⟩ := List.mem_map.mp hc
  rcases lc_cases (h d hd) with h | h | h | h | h | h <;> subst h <;> decide
theorem scOk_mem {x y : List Nat} (hx : x ∈ wordsN x.length) (hy : y ∈ wordsN y.length) (h3 : y.length ≤ 3) (hlt : x.length < y.length) : scOk x y = true := by
  have go : ∀ a b, x.length = a → y.length = b → (wordsN a).all (fun x => (wordsN b).all fun y => scOk x y) = true → scOk x y = true := by
    intro a b ha hb h
    rw [ha] at hx
    rw [hb] at hy
    exact List.all_eq_true.mp (List.all_eq_true.mp h x hx) y hy
  have : (x.length = 0 ∧ y.length = 1) ∨ (x.length = 0 ∧ y.length = 2) ∨ (x.length = 0 ∧ y.length = 3) ∨ (x.length = 1 ∧ y.length = 2) ∨ (x.length = 1 ∧ y.length = 3) ∨ (x.length = 2 ∧ y.length = 3) := by omega
  rcases this with ⟨a, b⟩ | ⟨a, b⟩ | ⟨a, b⟩ | ⟨a, b⟩ | ⟨a, b⟩ | ⟨a, b⟩
  · exact go 0 1 a b sc01
  · exact go 0 2 a b sc02
  · exact go 0 3 a b sc03
  · exact go 1 2 a b sc12
  · exact go 1 3 a b sc13
  · exact go 2 3 a b sc23
theorem sc_all {x y : List Nat} (hx : LW x) (hy : LW y) (h3 : y.length ≤ 3) (hlt : x.length < y.length) :
    scVs (S x) (S y) = [Value.bool (sct x y), Value.bool (sct x y), Value.bool true] ∧ sct x y = isSub (lowW x) (lowW y) := by
  have hxm := mem_wordsN _ hx.abc
  have hym := mem_wordsN _ hy.abc
  have hk := scOk_mem hxm hym (by rw [lowW_len]; exact h3) (by rw [lowW_len, lowW_len]; exact hlt)
  unfold scOk at hk
  simp only [lowW_len, hy.up_low, hx.up_low] at hk
  have e1 : scMore (S x) (S y) = 2 * ((y.length : Int) - (x.length : Int)) := by unfold scMore; rw [S_len, S_len]
  have e2 : scOther (S x) (S y) = 2 * ((y.length : Int) - (x.length : Int)) + (x.length : Int) := by unfold scOther; rw [e1, S_len]
  have e3 : scPlain (S x) (S y) = levS (S (lowW x)) (S (lowW y)) (2 * ((y.length : Int) - (x.length : Int))) := by unfold scPlain; rw [e1, hx.low, hy.low]
  have e4 : scMixed (S x) (S y) = if y.length = 3 then levS (S (upW y)) (S (lowW x)) (2 * ((y.length : Int) - (x.length : Int)) + (x.length : Int)) else levS (S (upW x)) (S (lowW y)) (2 * ((y.length : Int) - (x.length : Int)) + (x.length : Int)) := by
    unfold scMixed; rw [e2, hx.low, hy.low, hx.up, hy.up, S_len]
  rw [← e1] at e2 e3 e4 hk
  rw [← e2] at hk e4
  rw [← e3, ← e4] at hk
  simp only [Bool.and_eq_true, beq_iff_eq] at hk
  obtain ⟨⟨⟨h1, h2⟩, h4⟩, h5⟩ := hk
  refine ⟨?_, h1⟩
  unfold scVs sct
  rw [h1, h2, h4, h5]; rfl
end
section
noncomputable def wsOf (b : Book) : List (List Nat) := [3, 2, 1, 0].flatMap fun s => (b.filter fun r => r.1.length == s).map (·.1)
structure WsOk (b : Book) (ws : List (List Nat)) : Prop where
  bok : BOk b
  b3 : ∀ r ∈ b, r.1.length ≤ 3
  mem : ∀ w, w ∈ ws ↔ ∃ n, (w, n) ∈ b
  len : ws.length ≤ 12
  nd : (ws.map lowW).Nodup
  srt : ws.Pairwise fun x y => y.length ≤ x.length
theorem wsOf_len (b : Book) (h : ∀ r ∈ b, r.1.length ≤ 3) : (wsOf b).length = b.length := by
  unfold wsOf
  simp only [List.flatMap_cons, List.flatMap_nil, List.length_append, List.length_map, List.length_nil]
  induction b with
  | nil => rfl
  | cons r b ih =>
    have h1 := h r (.head _)
    have ih := ih fun r hr => h r (.tail _ hr)
    have : r.1.length = 0 ∨ r.1.length = 1 ∨ r.1.length = 2 ∨ r.1.length = 3 := by omega
    rcases this with e | e | e | e <;> simp [List.filter_cons, e] <;> omega
theorem pw_all {α : Type} {R : α → α → Prop} : ∀ {l : List α}, (∀ x ∈ l, ∀ y ∈ l, R x y) → l.Pairwise R
  | [], _ => .nil
  | x :: l, h => .cons (fun y hy => h x (.head _) y (.tail _ hy)) (pw_all fun x hx y hy => h x (.tail _ hx) y (.tail _ hy))
theorem wsOf_ok (b : Book) (h : BOk b) (h3 : ∀ r ∈ b, r.1.length ≤ 3) (hl : b.length ≤ 12) : WsOk b (wsOf b) where
  bok := h
  b3 := h3
  mem := fun w => by
    constructor
    · intro hw
      obtain ⟨s, _, hw⟩ := List.mem_flatMap.mp hw
      obtain ⟨r, hr, rfl⟩ := List.mem_map.mp hw
      exact ⟨r.2, (List.mem_filter.mp hr).1⟩
    · rintro ⟨n, hn⟩
      have h9 := h3 _ hn
      dsimp only at h9
      refine List.mem_flatMap.mpr ⟨w.length, ?_, List.mem_map.mpr ⟨(w, n), List.mem_filter.mpr ⟨hn, beq_self_eq_true _⟩, rfl⟩⟩
      have : w.length = 0 ∨ w.length = 1 ∨ w.length = 2 ∨ w.length = 3 := by omega
      rcases this with e | e | e | e <;> rw [e] <;> decide
  len := by rw [wsOf_len b h3]; exact hl
  nd := by
    unfold wsOf
    rw [List.map_flatMap]
    show List.Pairwise (· ≠ ·) _
    refine List.pairwise_flatMap.mpr ⟨fun s _ => ?_, ?_⟩
    · rw [List.map_map]
      have q : (((b.filter fun r => r.1.length == s).map fun r => lowW r.1)).Nodup := h.nd.sublist (List.filter_sublist.map _)
      exact q
    · have key : ∀ s t : Nat, s ≠ t → ∀ x ∈ (((b.filter fun r => r.1.length == s).map (·.1)).map lowW), ∀ y ∈ (((b.filter fun r => r.1.length == t).map (·.1)).map lowW), x ≠ y := by
        intro s t hst x hx y hy hxy
        subst hxy
        obtain ⟨u, hu, rfl⟩ := List.mem_map.mp hx
        obtain ⟨r, hr, rfl⟩ := List.mem_map.mp hu
        obtain ⟨v, hv, e⟩ := List.mem_map.mp hy
        obtain ⟨q, hq, rfl⟩ := List.mem_map.mp hv
        have e1 : r.1.length = s := eq_of_beq (List.mem_filter.mp hr).2
        have e2 : q.1.length = t := eq_of_beq (List.mem_filter.mp hq).2
        have e3 := congrArg List.length e
        rw [lowW_len, lowW_len] at e3
        omega
      refine List.Pairwise.imp (R := fun s t : Nat => s ≠ t) (fun {s t} hst => key s t hst) (by decide)
  srt := by
    unfold wsOf
    refine List.pairwise_flatMap.mpr ⟨fun s _ => ?_, ?_⟩
    · refine List.pairwise_map.mpr (pw_all fun r hr q hq => ?_)
      have e1 : r.1.length = s := eq_of_beq (List.mem_filter.mp hr).2
      have e2 : q.1.length = s := eq_of_beq (List.mem_filter.mp hq).2
      omega
    · refine List.Pairwise.imp (R := fun s t : Nat => t ≤ s) (fun {s t} hst => ?_) (by decide)
      intro x hx y hy
      obtain ⟨r, hr, rfl⟩ := List.mem_map.mp hx
      obtain ⟨q, hq, rfl⟩ := List.mem_map.mp hy
      have e1 : r.1.length = s := eq_of_beq (List.mem_filter.mp hr).2
      have e2 : q.1.length = t := eq_of_beq (List.mem_filter.mp hq).2
      omega
end
section
noncomputable def addW (b : Book) (w v : List Nat) : Int := if v.length < w.length ∧ sct v w = true then getR b v else 0
noncomputable def bigF (b : Book) (ws : List (List Nat)) (w : List Nat) : Int := getR b w + (ws.map (addW b w)).sum
noncomputable def doneA (b : Book) (ds : List (List Nat)) : Book := b.filter fun r => !(ds.any fun v => key v r)
theorem fold_sum {α : Type} (c : α → Prop) [DecidablePred c] (f : α → Int) : ∀ (l : List α) (a : Int), l.foldl (fun acc v => if c v then acc + f v else acc) a = a + (l.map fun v => if c v then f v else 0).sum
  | [], a => by simp
  | x :: l, a => by
    rw [List.foldl_cons, fold_sum c f l, List.map_cons, List.sum_cons]
    by_cases h : c x
    · rw [if_pos h, if_pos h]; omega
    · rw [if_neg h, if_neg h]; omega
theorem key_eq {t t' : List Nat} (h : lowW t = lowW t') : key t = key t' := funext fun r => by unfold key; rw [h]
theorem getR_key {R : Book} {t t' : List Nat} (h : lowW t = lowW t') : getR R t = getR R t' := by unfold getR; rw [key_eq h]
section
variable {b : Book} {ws : List (List Nat)}
theorem WsOk.lw (h : WsOk b ws) {w : List Nat} (hw : w ∈ ws) : LW w := by
  obtain ⟨n, hn⟩ := (h.mem w).mp hw
  exact h.bok.lw _ hn
theorem WsOk.l3 (h : WsOk b ws) {w : List Nat} (hw : w ∈ ws) : w.length ≤ 3 := by
  obtain ⟨n, hn⟩ := (h.mem w).mp hw
  exact h.b3 _ hn
theorem WsOk.inj (h : WsOk b ws) {v w : List Nat} (hv : v ∈ ws) (hw : w ∈ ws) (e : lowW v = lowW w) : v = w := by
  obtain ⟨i, hi, rfl⟩ := List.mem_iff_getElem.mp hv
  obtain ⟨j, hj, rfl⟩ := List.mem_iff_getElem.mp hw
  have := (List.getElem_inj h.nd (i := i) (j := j) (h₀ := by simpa using hi) (h₁ := by simpa using hj)).mp (by simpa using e)
  subst this
  rfl
theorem WsOk.findb (h : WsOk b ws) {v : List Nat} (hv : v ∈ ws) {t : List Nat} (e : lowW t = lowW v) : ∃ r, b.find? (key t) = some r := by
  obtain ⟨n, hn⟩ := (h.mem v).mp hv
  have : (b.find? (key t)).isSome := by
    rw [List.find?_isSome]
    exact ⟨_, hn, by unfold key; rw [e]; exact beq_self_eq_true _⟩
  exact Option.isSome_iff_exists.mp this
theorem getR_form (h : WsOk b ws) {ds : List (List Nat)} (hds : ∀ v ∈ ds, v ∈ ws) {v t : List Nat} (hv : v ∈ ws) (hn : v ∉ ds) (e : lowW t = lowW v) (X : Book) : getR (doneA b ds ++ X) t = getR b v := by
  obtain ⟨r, hr⟩ := h.findb hv e
  have q : (doneA b ds).find? (key t) = b.find? (key t) := by
    unfold doneA
    rw [List.find?_filter]
    refine congrArg (fun p => b.find? p) (funext fun r => ?_)
    by_cases hk : key t r = true
    · rw [hk]
      refine decide_eq_true ⟨?_, rfl⟩
      rw [Bool.not_eq_true']
      refine Bool.eq_false_iff.mpr fun ha => ?_
      obtain ⟨u, hu, hku⟩ := List.any_eq_true.mp ha
      have e1 : lowW r.1 = lowW t := eq_of_beq hk
      have e2 : lowW r.1 = lowW u := eq_of_beq hku
      have e3 : u = v := h.inj (hds u hu) hv (by rw [← e2, e1, e])
      exact hn (e3 ▸ hu)
    · have hk' : key t r = false := by simpa using hk
      rw [hk']
      exact decide_eq_false fun h => absurd h.2 Bool.false_ne_true
  rw [getR_key e.symm]
  unfold getR
  rw [List.find?_append, q, hr]
  rfl
theorem sum_bound (f : List Nat → Int) (hf : ∀ v, -50 ≤ f v ∧ f v ≤ 50) : ∀ l : List (List Nat), -50 * (l.length : Int) ≤ (l.map f).sum ∧ (l.map f).sum ≤ 50 * (l.length : Int)
  | [] => by simp
  | x :: l => by
    have := sum_bound f hf l
    have := hf x
    rw [List.map_cons, List.sum_cons, List.length_cons]
    constructor <;> push_cast <;> omega
theorem WsOk.getb (h : WsOk b ws) (t : List Nat) : -50 ≤ getR b t ∧ getR b t ≤ 50 := by
  unfold getR
  cases e : b.find? (key t) with
  | none => exact ⟨by decide, by decide⟩
  | some r =>
    have hr := List.mem_of_find?_eq_some e
    have h1 := h.bok.lo r hr
    have h2 := h.bok.hi r hr
    exact ⟨h1, by show r.2 ≤ 50; omega⟩
theorem WsOk.bigF_bound (h : WsOk b ws) (w : List Nat) : -700 ≤ bigF b ws w ∧ bigF b ws w ≤ 700 := by
  have h1 := sum_bound (addW b w) (fun v => by
    unfold addW
    split
    · exact h.getb v
    · exact ⟨by decide, by decide⟩) ws
  have h2 := h.getb w
  have h3 := h.len
  unfold bigF
  constructor <;> omega
theorem sumAt_form (h : WsOk b ws) : ∀ i, i ≤ ws.length → sumAt b ws i = doneA b (ws.take i) ++ (ws.take i).map fun w => (upW w, bigF b ws w)
  | 0, _ => by
    show b = _
    rw [List.take_zero, List.map_nil, List.append_nil]
    unfold doneA
    rw [List.filter_eq_self.mpr]
    intro r _; rfl
  | i + 1, hi => by
    have ih := sumAt_form h i (by omega)
    have hil : i < ws.length := by omega
    have hgd : ws.getD i [] = ws[i] := by rw [List.getD_eq_getElem?_getD, List.getElem?_eq_getElem hil]; rfl
    have hm : ws[i] ∈ ws := List.getElem_mem _
    have hds : ∀ v ∈ ws.take i, v ∈ ws := fun v hv => List.mem_of_mem_take hv
    have htk : ws.take (i + 1) = ws.take i ++ [ws[i]] := take_one (List.getElem?_eq_getElem hil)
    have hlow : ∀ v ∈ ws.take i, lowW v ≠ lowW ws[i] := by
      intro v hv e
      have e2 := h.inj (hds v hv) hm e
      obtain ⟨j, hj, hjv⟩ := List.mem_iff_getElem.mp hv
      rw [List.getElem_take] at hjv
      have hji : j < i := by rw [List.length_take] at hj; omega
      have := (List.getElem_inj h.nd (i := j) (j := i) (h₀ := by rw [List.length_map]; omega) (h₁ := by rw [List.length_map]; omega)).mp (by simp only [List.getElem_map]; rw [hjv, e])
      omega
    have hni : ws[i] ∉ ws.take i := fun hv => hlow _ hv rfl
    have hsrt : ∀ v ∈ ws, v.length < ws[i].length → v ∉ ws.take i := by
      intro v _ hlt hv
      obtain ⟨j, hj, hjv⟩ := List.mem_iff_getElem.mp hv
      rw [List.getElem_take] at hjv
      have hji : j < i := by rw [List.length_take] at hj; omega
      have := List.pairwise_iff_getElem.mp h.srt j i (by omega) hil hji
      rw [hjv] at this
      omega
    show sumStep (sumAt b ws i) ws (ws.getD i []) = _
    rw [hgd, ih]
    unfold sumStep
    have htot : sumTot (doneA b (ws.take i) ++ (ws.take i).map fun w => (upW w, bigF b ws w)) ws ws[i] ws.length = bigF b ws ws[i] := by
      unfold sumTot bigF
      rw [List.take_length, fold_sum (fun v => v.length < ws[i].length ∧ sct v ws[i] = true), getR_form h hds hm hni (h.lw hm).low_up]
      congr 2
      refine List.map_congr_left fun v hv => ?_
      unfold addW
      by_cases hc : v.length < ws[i].length ∧ sct v ws[i] = true
      · rw [if_pos hc, if_pos hc, getR_form h hds hv (hsrt v hv hc.1) (h.lw hv).low_low]
      · rw [if_neg hc, if_neg hc]
    rw [htot, htk, List.filter_append, List.map_append]
    have e1 : (doneA b (ws.take i)).filter (fun r => !(key ws[i] r)) = doneA b (ws.take i ++ [ws[i]]) := by
      unfold doneA
      rw [List.filter_filter]
      refine List.filter_congr fun r _ => ?_
      rw [List.any_append, List.any_cons, List.any_nil, Bool.or_false, Bool.not_or]
      first | rfl | exact Bool.and_comm _ _
    have e2 : ((ws.take i).map fun w => (upW w, bigF b ws w)).filter (fun r => !(key ws[i] r)) = (ws.take i).map fun w => (upW w, bigF b ws w) := by
      refine List.filter_eq_self.mpr fun r hr => ?_
      obtain ⟨v, hv, rfl⟩ := List.mem_map.mp hr
      have : key ws[i] (upW v, bigF b ws v) = false := by
        unfold key
        rw [beq_eq_false_iff_ne]
        show lowW (upW v) ≠ lowW ws[i]
        rw [(h.lw (hds v hv)).low_up]
        exact hlow v hv
      rw [this]; rfl
    rw [e1, e2, List.append_assoc]
    rfl
theorem sumAt_all (h : WsOk b ws) : sumAt b ws ws.length = ws.map fun w => (upW w, bigF b ws w) := by
  rw [sumAt_form h _ (Nat.le_refl _), List.take_length]
  have : doneA b ws = [] := by
    unfold doneA
    rw [List.filter_eq_nil_iff]
    intro r hr hq
    have hw : r.1 ∈ ws := (h.mem r.1).mpr ⟨r.2, hr⟩
    have : (ws.any fun v => key v r) = true := List.any_eq_true.mpr ⟨r.1, hw, by unfold key; exact beq_self_eq_true _⟩
    rw [this] at hq
    exact Bool.false_ne_true hq
  rw [this, List.nil_append]
theorem sumAt_ok (h : WsOk b ws) (hb : b.length ≤ 12) (i : Nat) (hi : i ≤ ws.length) : ROk (sumAt b ws i) ∧ (sumAt b ws i).length ≤ 100 := by
  rw [sumAt_form h i hi]
  have hA : ∀ r ∈ doneA b (ws.take i), r ∈ b := fun r hr => (List.mem_filter.mp hr).1
  have hB : ∀ r ∈ (ws.take i).map (fun w => (upW w, bigF b ws w)), ∃ w ∈ ws, r = (upW w, bigF b ws w) := by
    intro r hr
    obtain ⟨w, hw, rfl⟩ := List.mem_map.mp hr
    exact ⟨w, List.mem_of_mem_take hw, rfl⟩
  refine ⟨⟨?_, ?_, ?_, ?_⟩, ?_⟩
  · intro r hr
    rcases List.mem_append.mp hr with hr | hr
    · exact h.bok.lw r (hA r hr)
    · obtain ⟨w, hw, rfl⟩ := hB r hr
      exact (h.lw hw).upW
  · intro r hr
    rcases List.mem_append.mp hr with hr | hr
    · exact h.bok.len r (hA r hr)
    · obtain ⟨w, hw, rfl⟩ := hB r hr
      show (upW w).length ≤ 5
      rw [upW_len]; have := h.l3 hw; omega
  · intro r hr
    rcases List.mem_append.mp hr with hr | hr
    · have := h.bok.lo r (hA r hr); omega
    · obtain ⟨w, hw, rfl⟩ := hB r hr
      exact (h.bigF_bound w).1
  · intro r hr
    rcases List.mem_append.mp hr with hr | hr
    · have := h.bok.hi r (hA r hr); omega
    · obtain ⟨w, hw, rfl⟩ := hB r hr
      exact (h.bigF_bound w).2
  · rw [List.length_append, List.length_map, List.length_take]
    have : (doneA b (ws.take i)).length ≤ b.length := List.length_filter_le _ _
    have := h.len
    omega
theorem sumAt_find (h : WsOk b ws) (i : Nat) (hi : i ≤ ws.length) {v : List Nat} (hv : v ∈ ws) : ((sumAt b ws i).find? (key v)).isSome := by
  rw [sumAt_form h i hi, List.find?_isSome]
  by_cases hm : v ∈ ws.take i
  · exact ⟨(upW v, bigF b ws v), List.mem_append.mpr (.inr (List.mem_map.mpr ⟨v, hm, rfl⟩)), by unfold key; show (lowW (upW v) == lowW v) = true; rw [(h.lw hv).low_up]; exact beq_self_eq_true _⟩
  · obtain ⟨n, hn⟩ := (h.mem v).mp hv
    refine ⟨(v, n), List.mem_append.mpr (.inl (List.mem_filter.mpr ⟨hn, ?_⟩)), by unfold key; exact beq_self_eq_true _⟩
    rw [Bool.not_eq_true']
    refine Bool.eq_false_iff.mpr fun ha => ?_
    obtain ⟨u, hu, hku⟩ := List.any_eq_true.mp ha
    have e2 : lowW v = lowW u := eq_of_beq hku
    exact hm ((h.inj (List.mem_of_mem_take hu) hv e2.symm) ▸ hu)
end
end
section
noncomputable def coef (u t : List Nat) : Int := if u = t ∨ (u.length < t.length ∧ isSub u t = true) then 1 else 0
noncomputable def sg (r : List Nat × Int) : Int := if r.2 = 1 then 1 else -1
noncomputable def mob (u x : List Nat) : Int := ((lessAt x x.length).map fun r => sg r * coef u r.1).sum
noncomputable def mobOk (x u : List Nat) : Bool := mob u x == (if u = x then 1 else 0)
noncomputable def allW : List (List Nat) := wordsN 0 ++ (wordsN 1 ++ (wordsN 2 ++ wordsN 3))
theorem mob0 : (wordsN 0).all (fun x => allW.all fun u => mobOk x u) = true := by decide +kernel
theorem mob1 : (wordsN 1).all (fun x => allW.all fun u => mobOk x u) = true := by decide +kernel
theorem mob2 : (wordsN 2).all (fun x => allW.all fun u => mobOk x u) = true := by decide +kernel
theorem mob3 : (wordsN 3).all (fun x => allW.all fun u => mobOk x u) = true := by decide +kernel
theorem mem_allW {u : List Nat} (h : u ∈ wordsN u.length) (h3 : u.length ≤ 3) : u ∈ allW := by
  have go : ∀ n, u.length = n → u ∈ wordsN n := fun n e => e ▸ h
  have : u.length = 0 ∨ u.length = 1 ∨ u.length = 2 ∨ u.length = 3 := by omega
  unfold allW
  rcases this with e | e | e | e
  · exact List.mem_append.mpr (.inl (go 0 e))
  · exact List.mem_append.mpr (.inr (List.mem_append.mpr (.inl (go 1 e))))
  · exact List.mem_append.mpr (.inr (List.mem_append.mpr (.inr (List.mem_append.mpr (.inl (go 2 e))))))
  · exact List.mem_append.mpr (.inr (List.mem_append.mpr (.inr (List.mem_append.mpr (.inr (go 3 e))))))
theorem mob_eq {x u : List Nat} (hx : x ∈ wordsN x.length) (hx3 : x.length ≤ 3) (hu : u ∈ wordsN u.length) (hu3 : u.length ≤ 3) : mob u x = if u = x then 1 else 0 := by
  have ha := mem_allW hu hu3
  have go : ∀ n, x.length = n → (wordsN n).all (fun x => allW.all fun u => mobOk x u) = true → mob u x = if u = x then 1 else 0 := fun n e h => by
    rw [e] at hx
    exact eq_of_beq (List.all_eq_true.mp (List.all_eq_true.mp h x hx) u ha)
  have : x.length = 0 ∨ x.length = 1 ∨ x.length = 2 ∨ x.length = 3 := by omega
  rcases this with e | e | e | e
  · exact go 0 e mob0
  · exact go 1 e mob1
  · exact go 2 e mob2
  · exact go 3 e mob3
theorem fold_pm (g : List Nat → Int) : ∀ (l : List (List Nat × Int)) (a : Int), l.foldl (fun acc r => if r.2 = 1 then acc + g r.1 else acc - g r.1) a = a + (l.map fun r => sg r * g r.1).sum
  | [], a => by simp
  | r :: l, a => by
    rw [List.foldl_cons, fold_pm g l, List.map_cons, List.sum_cons]
    unfold sg
    by_cases h : r.2 = 1
    · rw [if_pos h, if_pos h]; omega
    · rw [if_neg h, if_neg h]; omega
theorem sum_add {α : Type} (f g : α → Int) : ∀ l : List α, (l.map fun v => f v + g v).sum = (l.map f).sum + (l.map g).sum
  | [] => rfl
  | x :: l => by
    simp only [List.map_cons, List.sum_cons, sum_add f g l]; omega
theorem sum_mul {α : Type} (c : Int) (f : α → Int) : ∀ l : List α, c * (l.map f).sum = (l.map fun v => c * f v).sum
  | [] => by simp
  | x :: l => by
    simp only [List.map_cons, List.sum_cons, ← sum_mul c f l, Int.mul_add]
theorem sum_zero {α : Type} : ∀ l : List α, (l.map fun _ => (0 : Int)).sum = 0
  | [] => rfl
  | x :: l => by simp only [List.map_cons, List.sum_cons, sum_zero l]; rfl
theorem sum_swap {α β : Type} (o : β → Int) (s : α → Int) (c : β → α → Int) (ws : List β) : ∀ l : List α, (l.map fun r => s r * (ws.map fun v => o v * c v r).sum).sum = (ws.map fun v => o v * (l.map fun r => s r * c v r).sum).sum
  | [] => by
    simp only [List.map_nil, List.sum_nil, Int.mul_zero]
    exact (sum_zero ws).symm
  | r :: l => by
    rw [List.map_cons, List.sum_cons, sum_swap o s c ws l, sum_mul, ← sum_add]
    refine congrArg List.sum (List.map_congr_left fun v _ => ?_)
    rw [List.map_cons, List.sum_cons, Int.mul_add, Int.mul_left_comm]
section
variable {b : Book} {ws : List (List Nat)}
theorem WsOk.pick (h : WsOk b ws) (f : List Nat → Int) {w : List Nat} (hw : w ∈ ws) : (ws.map fun v => if lowW v = lowW w then f v else 0).sum = f w := by
  have go : ∀ l : List (List Nat), (l.map lowW).Nodup → (∀ v ∈ l, lowW v = lowW w → v = w) → w ∈ l → (l.map fun v => if lowW v = lowW w then f v else 0).sum = f w := by
    intro l
    induction l with
    | nil => intro _ _ hw; cases hw
    | cons x l ih =>
      intro hnd hinj hw
      rw [List.map_cons, List.nodup_cons] at hnd
      rw [List.map_cons, List.sum_cons]
      by_cases hx : lowW x = lowW w
      · have hxw := hinj x (.head _) hx
        subst hxw
        rw [if_pos rfl]
        have : (l.map fun v => if lowW v = lowW x then f v else 0) = l.map fun _ => (0 : Int) := List.map_congr_left fun v hv => if_neg (fun (e : lowW v = lowW x) => hnd.1 (e ▸ List.mem_map_of_mem (f := lowW) hv))
        rw [this, sum_zero]; omega
      · rw [if_neg hx]
        have hwl : w ∈ l := by
          rcases List.mem_cons.mp hw with e | hw
          · exact absurd (by rw [e]) hx
          · exact hw
        rw [ih hnd.2 (fun v hv => hinj v (.tail _ hv)) hwl]; omega
  exact go ws h.nd (fun v hv e => h.inj hv hw e) hw
theorem WsOk.bigF_eq (h : WsOk b ws) {w : List Nat} (hw : w ∈ ws) : bigF b ws w = (ws.map fun v => getR b v * coef (lowW v) (lowW w)).sum := by
  unfold bigF
  have e1 := h.pick (fun v => getR b v) hw
  rw [← e1, ← sum_add]
  refine congrArg List.sum (List.map_congr_left fun v hv => ?_)
  unfold addW coef
  by_cases h1 : lowW v = lowW w
  · have := h.inj hv hw h1
    subst this
    rw [if_pos rfl, if_neg (fun e => Nat.lt_irrefl _ e.1), if_pos (.inl rfl)]; omega
  · rw [if_neg h1]
    by_cases h2 : v.length < w.length
    · have hs := (sc_all (h.lw hv) (h.lw hw) (h.l3 hw) h2).2
      by_cases h3 : isSub (lowW v) (lowW w) = true
      · rw [if_pos ⟨h2, hs.trans h3⟩, if_pos (.inr ⟨by rw [lowW_len, lowW_len]; exact h2, h3⟩)]; omega
      · rw [if_neg (fun e => h3 (hs ▸ e.2)), if_neg (fun e => e.elim h1 fun e => h3 e.2)]; omega
    · rw [if_neg (fun e => h2 e.1), if_neg (fun e => e.elim h1 fun e => h2 (by have := e.1; rw [lowW_len, lowW_len] at this; exact this))]; omega
noncomputable def Closed (ws : List (List Nat)) : Prop := ∀ w ∈ ws, ∀ r ∈ lessAt (lowW w) w.length, ∃ v ∈ ws, lowW v = r.1 ∧ (v = w ∨ v.length < w.length)
theorem mob_sum (h : WsOk b ws) {w : List Nat} (hw : w ∈ ws) (g : List Nat → Int) (hg : ∀ r ∈ lessAt (lowW w) w.length, ∃ v ∈ ws, lowW v = r.1 ∧ g r.1 = bigF b ws v) : ((lessAt (lowW w) w.length).map fun r => sg r * g r.1).sum = getR b w := by
  have e1 : ((lessAt (lowW w) w.length).map fun r => sg r * g r.1) = (lessAt (lowW w) w.length).map fun r => sg r * (ws.map fun v => getR b v * coef (lowW v) r.1).sum := by
    refine List.map_congr_left fun r hr => ?_
    obtain ⟨v, hv, e, eg⟩ := hg r hr
    rw [eg, h.bigF_eq hv, e]
  rw [e1, sum_swap (fun v => getR b v) sg (fun v r => coef (lowW v) r.1)]
  have e2 : (ws.map fun v => getR b v * ((lessAt (lowW w) w.length).map fun r => sg r * coef (lowW v) r.1).sum) = ws.map fun v => if lowW v = lowW w then getR b v else 0 := by
    refine List.map_congr_left fun v hv => ?_
    have hm : ((lessAt (lowW w) w.length).map fun r => sg r * coef (lowW v) r.1).sum = mob (lowW v) (lowW w) := by unfold mob; rw [lowW_len]
    rw [hm, mob_eq (mem_wordsN _ (h.lw hw).abc) (by rw [lowW_len]; exact h.l3 hw) (mem_wordsN _ (h.lw hv).abc) (by rw [lowW_len]; exact h.l3 hv)]
    by_cases e : lowW v = lowW w
    · rw [if_pos e, if_pos e]; omega
    · rw [if_neg e, if_neg e]; omega
  rw [e2]
  exact h.pick (fun v => getR b v) hw
end
end
section
section
variable {b : Book} {ws : List (List Nat)}
noncomputable def upF (b : Book) (ws : List (List Nat)) (w : List Nat) : List Nat × Int := (upW w, bigF b ws w)
noncomputable def low0 (w : List Nat) : List Nat × Int := (lowW w, 0)
noncomputable def ownR (b : Book) (w : List Nat) : List Nat × Int := (lowW w, getR b w)
noncomputable def tab2 (b : Book) (ws : List (List Nat)) : Book := ws.map (upF b ws) ++ ws.map low0
theorem WsOk.nodup (h : WsOk b ws) : ws.Nodup := List.Pairwise.of_map (S := (· ≠ ·)) lowW (fun a b hab e => hab (by rw [e])) h.nd
theorem filter_map_ne (h : WsOk b ws) (f : List Nat → List Nat × Int) (hf : ∀ v ∈ ws, lowW (f v).1 = lowW v) {w : List Nat} (hw : w ∈ ws) {l : List (List Nat)} (hl : ∀ v ∈ l, v ∈ ws) (hn : w ∉ l) : (l.map f).filter (fun r => !(key w r)) = l.map f := by
  refine List.filter_eq_self.mpr fun r hr => ?_
  obtain ⟨v, hv, rfl⟩ := List.mem_map.mp hr
  have : key w (f v) = false := by
    unfold key
    rw [beq_eq_false_iff_ne, hf v (hl v hv)]
    exact fun e => hn (h.inj (hl v hv) hw e ▸ hv)
  rw [this]; rfl
theorem filter_map_hd (h : WsOk b ws) (f : List Nat → List Nat × Int) (hf : ∀ v ∈ ws, lowW (f v).1 = lowW v) {w : List Nat} (hw : w ∈ ws) {l : List (List Nat)} (hl : ∀ v ∈ l, v ∈ ws) (hn : w ∉ l) : ((w :: l).map f).filter (fun r => !(key w r)) = l.map f := by
  have : key w (f w) = true := by unfold key; rw [hf w hw]; exact beq_self_eq_true _
  rw [List.map_cons, List.filter_cons_of_neg (by rw [this]; exact Bool.false_ne_true)]
  exact filter_map_ne h f hf hw hl hn
theorem find_up (h : WsOk b ws) {v t : List Nat} (hv : v ∈ ws) (ht : lowW t = lowW v) : ∀ {l : List (List Nat)}, (∀ u ∈ l, u ∈ ws) → v ∈ l → (l.map (upF b ws)).find? (key t) = some (upF b ws v)
  | [], _, hm => nomatch hm
  | x :: l, hl, hm => by
    have hx := hl x (.head _)
    have hk : key t (upF b ws x) = (lowW x == lowW v) := by
      unfold key
      show (lowW (upW x) == lowW t) = _
      rw [(h.lw hx).low_up, ht]
    by_cases e : lowW x = lowW v
    · have := h.inj hx hv e
      subst this
      rw [List.map_cons, List.find?_cons_of_pos (by rw [hk]; exact beq_self_eq_true _)]
    · rw [List.map_cons, List.find?_cons_of_neg (by rw [hk, beq_eq_false_iff_ne.mpr e]; exact Bool.false_ne_true)]
      refine find_up h hv ht (fun u hu => hl u (.tail _ hu)) ?_
      rcases List.mem_cons.mp hm with e2 | hm
      · exact absurd (by rw [e2]) e
      · exact hm
noncomputable def undoForm (b : Book) (ws : List (List Nat)) (i : Nat) : Book := (ws.drop i).map (upF b ws) ++ ((ws.drop i).map low0 ++ (ws.take i).map (ownR b))
theorem getR_up (h : WsOk b ws) {v t : List Nat} (hv : v ∈ ws) (ht : lowW t = lowW v) {i : Nat} (hd : v ∈ ws.drop i) : (undoForm b ws i).find? (key t) = some (upF b ws v) := by
  unfold undoForm
  rw [List.find?_append, find_up h hv ht (fun u hu => List.mem_of_mem_drop hu) hd]
  rfl
theorem in_drop (h : WsOk b ws) {i : Nat} (hi : i < ws.length) {v : List Nat} (hv : v ∈ ws) (hle : v = ws[i] ∨ v.length < ws[i].length) : v ∈ ws.drop i := by
  rcases hle with e | hlt
  · rw [List.drop_eq_getElem_cons hi, e]; exact .head _
  · rw [← List.take_append_drop i ws] at hv
    rcases List.mem_append.mp hv with hv | hv
    · obtain ⟨j, hj, hjv⟩ := List.mem_iff_getElem.mp hv
      rw [List.getElem_take] at hjv
      have hji : j < i := by rw [List.length_take] at hj; omega
      have := List.pairwise_iff_getElem.mp h.srt j i (by omega) hi hji
      rw [hjv] at this
      omega
    · exact hv
theorem less_low {w : List Nat} (hw : LW w) {r : List Nat × Int} (hr : r ∈ lessAt (lowW w) w.length) {v : List Nat} (hv : LW v) (e : lowW v = r.1) : lowW r.1 = lowW v := by
  rw [← e, hv.low_low]
theorem undoTot_eq (h : WsOk b ws) (hc : Closed ws) {i : Nat} (hi : i < ws.length) : undoTot (undoForm b ws i) ws[i] (lessAt (lowW ws[i]) ws[i].length).length = getR b ws[i] := by
  unfold undoTot
  rw [List.take_length, fold_pm]
  have hm : ws[i] ∈ ws := List.getElem_mem _
  have := mob_sum h hm (getR (undoForm b ws i)) (fun r hr => by
    obtain ⟨v, hv, e, hle⟩ := hc _ hm r hr
    refine ⟨v, hv, e, ?_⟩
    have hq := getR_up h hv (less_low (h.lw hm) hr (h.lw hv) e) (in_drop h hi hv hle)
    unfold getR
    rw [hq]; rfl)
  omega
theorem undoAt_form (h : WsOk b ws) (hc : Closed ws) : ∀ i, i ≤ ws.length → undoAt (tab2 b ws) ws i = undoForm b ws i
  | 0, _ => by
    show tab2 b ws = _
    unfold undoForm tab2
    rw [List.drop_zero, List.take_zero, List.map_nil, List.append_nil]
  | i + 1, hi => by
    have ih := undoAt_form h hc i (by omega)
    have hil : i < ws.length := by omega
    have hgd : ws.getD i [] = ws[i] := by rw [List.getD_eq_getElem?_getD, List.getElem?_eq_getElem hil]; rfl
    have hm : ws[i] ∈ ws := List.getElem_mem _
    have hnd := h.nodup
    rw [← List.take_append_drop i ws, List.drop_eq_getElem_cons hil, List.nodup_append] at hnd
    obtain ⟨_, hn2, hn3⟩ := hnd
    have hnD : ws[i] ∉ ws.drop (i + 1) := (List.nodup_cons.mp hn2).1
    have hnT : ws[i] ∉ ws.take i := fun hv => hn3 _ hv _ (.head _) rfl
    show undoStep (undoAt (tab2 b ws) ws i) (ws.getD i []) = _
    rw [hgd, ih]
    unfold undoStep
    rw [undoTot_eq h hc hil]
    unfold undoForm
    rw [List.drop_eq_getElem_cons hil, take_one (List.getElem?_eq_getElem hil), List.filter_append, List.filter_append,
      filter_map_hd h (upF b ws) (fun v hv => (h.lw hv).low_up) hm (fun v hv => List.mem_of_mem_drop hv) hnD,
      filter_map_hd h low0 (fun v hv => (h.lw hv).low_low) hm (fun v hv => List.mem_of_mem_drop hv) hnD,
      filter_map_ne h (ownR b) (fun v hv => (h.lw hv).low_low) hm (fun v hv => List.mem_of_mem_take hv) hnT]
    rw [List.map_append, List.append_assoc, List.append_assoc]
    rfl
theorem undoAt_all (h : WsOk b ws) (hc : Closed ws) : undoAt (tab2 b ws) ws ws.length = ws.map (ownR b) := by
  rw [undoAt_form h hc _ (Nat.le_refl _)]
  unfold undoForm
  rw [List.drop_length, List.take_length]
  rfl
theorem undo_ok (h : WsOk b ws) (hc : Closed ws) (i : Nat) (hi : i ≤ ws.length) : ROk (undoAt (tab2 b ws) ws i) ∧ (undoAt (tab2 b ws) ws i).length ≤ 100 := by
  rw [undoAt_form h hc i hi]
  have hall : ∀ r ∈ undoForm b ws i, ∃ w ∈ ws, r = upF b ws w ∨ r = low0 w ∨ r = ownR b w := by
    intro r hr
    unfold undoForm at hr
    rcases List.mem_append.mp hr with hr | hr
    · obtain ⟨w, hw, rfl⟩ := List.mem_map.mp hr
      exact ⟨w, List.mem_of_mem_drop hw, .inl rfl⟩
    · rcases List.mem_append.mp hr with hr | hr
      · obtain ⟨w, hw, rfl⟩ := List.mem_map.mp hr
        exact ⟨w, List.mem_of_mem_drop hw, .inr (.inl rfl)⟩
      · obtain ⟨w, hw, rfl⟩ := List.mem_map.mp hr
        exact ⟨w, List.mem_of_mem_take hw, .inr (.inr rfl)⟩
  refine ⟨⟨fun r hr => ?_, fun r hr => ?_, fun r hr => ?_, fun r hr => ?_⟩, ?_⟩
  · obtain ⟨w, hw, e⟩ := hall r hr
    rcases e with rfl | rfl | rfl
    · exact (h.lw hw).upW
    · exact (h.lw hw).lowW
    · exact (h.lw hw).lowW
  · obtain ⟨w, hw, e⟩ := hall r hr
    have := h.l3 hw
    rcases e with rfl | rfl | rfl
    · show (upW w).length ≤ 5
      rw [upW_len]; omega
    · show (lowW w).length ≤ 5
      rw [lowW_len]; omega
    · show (lowW w).length ≤ 5
      rw [lowW_len]; omega
  · obtain ⟨w, hw, e⟩ := hall r hr
    rcases e with rfl | rfl | rfl
    · exact (h.bigF_bound w).1
    · show -700 ≤ (0 : Int); decide
    · have := (h.getb w).1
      show -700 ≤ getR b w
      omega
  · obtain ⟨w, hw, e⟩ := hall r hr
    rcases e with rfl | rfl | rfl
    · exact (h.bigF_bound w).2
    · show (0 : Int) ≤ 700; decide
    · have := (h.getb w).2
      show getR b w ≤ 700
      omega
  · unfold undoForm
    simp only [List.length_append, List.length_map, List.length_drop, List.length_take]
    have := h.len
    omega
theorem sum_bound7 {α : Type} (f : α → Int) (hf : ∀ v, -700 ≤ f v ∧ f v ≤ 700) : ∀ l : List α, -700 * (l.length : Int) ≤ (l.map f).sum ∧ (l.map f).sum ≤ 700 * (l.length : Int)
  | [] => by simp
  | x :: l => by
    have := sum_bound7 f hf l
    have := hf x
    rw [List.map_cons, List.sum_cons, List.length_cons]
    constructor <;> push_cast <;> omega
theorem undo_find (h : WsOk b ws) (hc : Closed ws) (i : Nat) (hi : i < ws.length) : (∀ r ∈ lessAt (lowW ws[i]) ws[i].length, ((undoAt (tab2 b ws) ws i).find? (key r.1)).isSome) ∧ ∀ k, -9000 ≤ undoTot (undoAt (tab2 b ws) ws i) ws[i] k ∧ undoTot (undoAt (tab2 b ws) ws i) ws[i] k ≤ 9000 := by
  have hm : ws[i] ∈ ws := List.getElem_mem _
  have hok := (undo_ok h hc i (by omega)).1
  refine ⟨fun r hr => ?_, fun k => ?_⟩
  · rw [undoAt_form h hc i (by omega)]
    obtain ⟨v, hv, e, hle⟩ := hc _ hm r hr
    rw [getR_up h hv (less_low (h.lw hm) hr (h.lw hv) e) (in_drop h hi hv hle)]
    rfl
  · unfold undoTot
    rw [fold_pm]
    have hb := sum_bound7 (fun r : List Nat × Int => sg r * getR (undoAt (tab2 b ws) ws i) r.1) (fun r => by
      have := getR_bound hok r.1
      unfold sg
      split <;> constructor <;> omega) ((lessAt (lowW ws[i]) ws[i].length).take k)
    have h1 := lessAt_len (lowW ws[i]) ws[i].length
    have h2 := h.l3 hm
    have h3 : 2 ^ ws[i].length ≤ 2 ^ 3 := Nat.pow_le_pow_right (by decide) h2
    have h4 : ((lessAt (lowW ws[i]) ws[i].length).take k).length ≤ 8 := by
      rw [List.length_take]; omega
    constructor <;> omega
end
end
section
noncomputable def subs {α : Type} : List α → List (List α)
  | [] => [[]]
  | a :: l => subs l ++ (subs l).map fun s => a :: s
theorem mem_subs {α : Type} {s l : List α} (h : s.Sublist l) : s ∈ subs l := by
  induction h with
  | slnil => exact .head _
  | cons a _ ih => exact List.mem_append.mpr (.inl ih)
  | cons_cons a _ ih => exact List.mem_append.mpr (.inr (List.mem_map.mpr ⟨_, ih, rfl⟩))
noncomputable def idx (m : Nat) : List Nat := (List.range 5).filter (bitOf m)
theorem masks_closed : masks.all (fun m => (subs (idx m)).all fun s => masks.any fun m' => idx m' == s) = true := by decide +kernel
theorem masks_len : masks.all (fun m => decide ((idx m).length ≤ 3)) = true := by decide +kernel
theorem wordAt_len3 (ns : List Int) {m : Nat} (hm : m ∈ masks) : (wordAt ns m).length ≤ 3 := by
  have := of_decide_eq_true (List.all_eq_true.mp masks_len m hm)
  unfold wordAt
  rw [List.length_map]
  exact this
theorem less_sub (x : List Nat) : ∀ k, k ≤ x.length → ∀ r ∈ lessAt x k, r.1.Sublist (x.take k)
  | 0, _, r, hr => by rw [List.mem_singleton.mp hr]; exact List.nil_sublist _
  | k + 1, hk, r, hr => by
    have ih := less_sub x k (by omega)
    have hx : x.take (k + 1) = x.take k ++ [x.getD k 0] := by
      rw [take_one (List.getElem?_eq_getElem (show k < x.length by omega)), List.getD_eq_getElem?_getD, List.getElem?_eq_getElem (show k < x.length by omega)]
      rfl
    have h1 : ∀ r ∈ (lessAt x k).map (fun r => (r.1 ++ [x.getD k 0], r.2)), r.1.Sublist (x.take (k + 1)) := by
      intro r hr
      obtain ⟨q, hq, rfl⟩ := List.mem_map.mp hr
      rw [hx]
      exact (ih q hq).append (List.Sublist.refl _)
    have hr' : r ∈ lessStep x (lessAt x k) k := hr
    unfold lessStep at hr'
    split at hr'
    · rcases List.mem_append.mp hr' with hr | hr
      · exact h1 r hr
      · obtain ⟨q, hq, rfl⟩ := List.mem_map.mp hr
        rw [hx]
        exact (ih q hq).trans (List.sublist_append_left _ _)
    · exact h1 r hr'
theorem bookStep_sub {b : Book} {wd : List Nat} {nu : Int} : ∀ r ∈ b, r ∈ bookStep b wd nu := by
  intro r hr
  unfold bookStep
  split
  · exact hr
  · exact List.mem_append.mpr (.inl hr)
theorem bookStep_has (b : Book) (wd : List Nat) (nu : Int) : ∃ r ∈ bookStep b wd nu, key wd r = true := by
  unfold bookStep
  split
  · rename_i r e
    exact ⟨r, List.mem_of_find?_eq_some e, List.find?_some e⟩
  · exact ⟨(wd, nu), List.mem_append.mpr (.inr (.head _)), by unfold key; exact beq_self_eq_true _⟩
theorem bookAt_has (ns : List Int) : ∀ i j, j < i → ∃ r ∈ bookAt ns i, key (wordAt ns (masks.getD j 0)) r = true
  | 0, j, h => absurd h (Nat.not_lt_zero _)
  | i + 1, j, h => by
    by_cases e : j = i
    · subst e
      exact bookStep_has _ _ _
    · obtain ⟨r, hr, hk⟩ := bookAt_has ns i j (by omega)
      exact ⟨r, bookStep_sub r hr, hk⟩
theorem bookAt_from (ns : List Int) : ∀ i, ∀ r ∈ bookAt ns i, ∃ j, j < i ∧ r.1 = wordAt ns (masks.getD j 0)
  | 0, r, h => nomatch h
  | i + 1, r, h => by
    have h' : r ∈ bookStep (bookAt ns i) (wordAt ns (masks.getD i 0)) (numAt ns i) := h
    unfold bookStep at h'
    split at h'
    · obtain ⟨j, hj, e⟩ := bookAt_from ns i r h'
      exact ⟨j, by omega, e⟩
    · rcases List.mem_append.mp h' with h' | h'
      · obtain ⟨j, hj, e⟩ := bookAt_from ns i r h'
        exact ⟨j, by omega, e⟩
      · rw [List.mem_singleton.mp h']
        exact ⟨i, by omega, rfl⟩
theorem mask_mem {j : Nat} (h : j < 12) : masks.getD j 0 ∈ masks := by
  rw [List.getD_eq_getElem?_getD, List.getElem?_eq_getElem (show j < masks.length from h)]
  exact List.getElem_mem _
theorem book3 (ns : List Int) : ∀ r ∈ bookAt ns 12, r.1.length ≤ 3 := by
  intro r hr
  obtain ⟨j, hj, e⟩ := bookAt_from ns 12 r hr
  rw [e]
  exact wordAt_len3 ns (mask_mem hj)
theorem book_ws (ns : List Int) : WsOk (bookAt ns 12) (wsOf (bookAt ns 12)) := wsOf_ok _ (bookAt_ok ns 12) (book3 ns) (bookAt_len ns 12)
theorem book_closed (ns : List Int) : Closed (wsOf (bookAt ns 12)) := by
  intro w hw r hr
  have h := book_ws ns
  obtain ⟨n, hn⟩ := (h.mem w).mp hw
  obtain ⟨j, hj, e⟩ := bookAt_from ns 12 _ hn
  dsimp only at e
  have hs0 := less_sub (lowW w) (lowW w).length (Nat.le_refl _) r (by rw [lowW_len]; exact hr)
  rw [List.take_length] at hs0
  have hs := hs0
  rw [e] at hs
  have hs1 : r.1.Sublist ((idx (masks.getD j 0)).map fun k => lo1 (letAt ns k)) := by
    have : lowW (wordAt ns (masks.getD j 0)) = (idx (masks.getD j 0)).map fun k => lo1 (letAt ns k) := by
      unfold lowW wordAt idx
      rw [List.map_map]; rfl
    rw [← this]; exact hs
  obtain ⟨s, hsub, hse⟩ := List.sublist_map_iff.mp hs1
  have hc := List.all_eq_true.mp (List.all_eq_true.mp masks_closed _ (mask_mem hj)) s (mem_subs hsub)
  obtain ⟨m', hm', he'⟩ := List.any_eq_true.mp hc
  have he2 : idx m' = s := eq_of_beq he'
  obtain ⟨j', hj', hjm⟩ := List.mem_iff_getElem.mp hm'
  have hgd : masks.getD j' 0 = m' := by rw [List.getD_eq_getElem?_getD, List.getElem?_eq_getElem hj', ← hjm]; rfl
  obtain ⟨q, hq, hk⟩ := bookAt_has ns 12 j' hj'
  rw [hgd] at hk
  have hlow : lowW q.1 = r.1 := by
    have h1 : lowW q.1 = lowW (wordAt ns m') := eq_of_beq hk
    rw [h1, hse, ← he2]
    unfold lowW wordAt idx
    rw [List.map_map]; rfl
  have hqw : q.1 ∈ wsOf (bookAt ns 12) := (h.mem q.1).mpr ⟨q.2, hq⟩
  refine ⟨q.1, hqw, hlow, ?_⟩
  have hll := hs0.length_le
  rw [lowW_len, ← hlow, lowW_len] at hll
  rcases Nat.lt_or_ge q.1.length w.length with hlt | hge
  · exact .inr hlt
  · refine .inl (h.inj hqw hw ?_)
    rw [hlow]
    exact hs0.eq_of_length (by rw [← hlow, lowW_len, lowW_len]; omega)
theorem book_sct (ns : List Int) : ∀ x ∈ wsOf (bookAt ns 12), ∀ y ∈ wsOf (bookAt ns 12), x.length < y.length → scVs (S x) (S y) = [Value.bool (sct x y), Value.bool (sct x y), Value.bool true] := by
  intro x hx y hy hlt
  have h := book_ws ns
  exact (sc_all (h.lw hx) (h.lw hy) (h.l3 hy) hlt).1
end
section
noncomputable def fdB : Stmt → List Stmt
  | .FunctionDef _ _ b _ _ _ _ _ _ _ => b
  | _ => []
noncomputable def fdS : Stmt → Scope → Scope
  | .FunctionDef _ _ _ _ _ _ s _ _ _, _ => s
  | _, d => d
noncomputable def lastOf : List Stmt → Stmt → Stmt
  | [], d => d
  | a :: t, _ => lastOf t a
noncomputable def lawF : Stmt := lastOf PySem.Challenge.pw_ti0060_01.main.body (.Pass ⟨0, 0, 0, 0⟩)
noncomputable def lawBody : List Stmt := fdB lawF
noncomputable def lawScope : Scope := fdS lawF (fsc [] false false [])
noncomputable abbrev lawE (sc : Scope) (L fa : Addr) (ccd : Value) : Env := envOfC (PySem.Str.ofString "law") sc L fa ccd
noncomputable def outR (b : Book) (w : List Nat) : List (PySem.Str × PySem.Str) := (b.filter fun r => r.1 == w).map fun r => (S (lowW w), numS r.2)
theorem one_of {b : Book} (hnd : (b.map fun r => lowW r.1).Nodup) {w : List Nat} {n : Int} (hm : (w, n) ∈ b) : (b.filter fun r => r.1 == w) = [(w, n)] ∧ b.find? (key w) = some (w, n) := by
  induction b with
  | nil => cases hm
  | cons r b ih =>
    rw [List.map_cons, List.nodup_cons] at hnd
    rcases List.mem_cons.mp hm with e | hm
    · subst e
      refine ⟨?_, ?_⟩
      · rw [List.filter_cons_of_pos (by exact beq_self_eq_true _), List.filter_eq_nil_iff.mpr]
        intro q hq e
        refine hnd.1 (List.mem_map.mpr ⟨q, hq, ?_⟩)
        rw [eq_of_beq e]
      · rw [List.find?_cons_of_pos]
        unfold key; exact beq_self_eq_true _
    · obtain ⟨h1, h2⟩ := ih hnd.2 hm
      have hne : lowW r.1 ≠ lowW w := fun e => hnd.1 (e ▸ List.mem_map.mpr ⟨(w, n), hm, rfl⟩)
      refine ⟨?_, ?_⟩
      · rw [List.filter_cons_of_neg, h1]
        intro e
        exact hne (by rw [eq_of_beq e])
      · rw [List.find?_cons_of_neg, h2]
        unfold key
        intro e
        exact hne (eq_of_beq e)
theorem outR_one {b : Book} {ws : List (List Nat)} (h : WsOk b ws) {w : List Nat} (hw : w ∈ ws) : outR b w = [rowS (ownR b w)] := by
  obtain ⟨n, hn⟩ := (h.mem w).mp hw
  obtain ⟨h1, h2⟩ := one_of h.bok.nd hn
  unfold outR ownR getR rowS
  rw [h1, h2]
  rfl
theorem TwoJ.new {I : Addr} {oI : Obj} {news nx : List (Addr × Obj)} {q : Addr × Obj} {K : List Value → List (Addr × Obj) → Prop} {ys : List Value} (hn : ∀ p ∈ news, p ∈ nx) (hI : ∀ p ∈ nx, p.1 ≠ I) (hq : q.1 ≠ I) (hK : K ys (q :: nx)) : TwoJ (I, oI) news K ys (q :: (I, oI) :: nx) :=
  ⟨q :: nx, .tail _ (.head _), fun p hp => by
    rcases List.mem_cons.mp hp with rfl | hp
    · exact ⟨.head _, hq⟩
    · exact ⟨.tail _ (.tail _ hp), hI p hp⟩, fun p hp => .tail _ (hn p hp), hK⟩
theorem TwoJ.same {I : Addr} {oI : Obj} {news nx : List (Addr × Obj)} {K : List Value → List (Addr × Obj) → Prop} {ys : List Value} (hn : ∀ p ∈ news, p ∈ nx) (hI : ∀ p ∈ nx, p.1 ≠ I) (hK : K ys nx) : TwoJ (I, oI) news K ys ((I, oI) :: nx) :=
  ⟨nx, .head _, fun p hp => ⟨.tail _ hp, hI p hp⟩, hn, hK⟩
noncomputable def datT (r : PySem.Str × PySem.Str) : Dat := .tuple [.str r.1, .str r.2]
theorem datTups {news : List (Addr × Obj)} {vs : List Value} {rows : List (PySem.Str × PySem.Str)} (h : A2 (RowAt news) vs rows) : DatAll news vs (rows.map datT) := by
  induction h with
  | nil => exact .nil
  | cons r _ ih =>
    obtain ⟨a, n, tk, tx, e, hm⟩ := r
    subst e
    exact .cons (.tuple hm (.cons (.str _ _) (.cons (.str _ _) .nil))) ih
theorem datTup_ok {rows : List (PySem.Str × PySem.Str)} (h : ∀ r ∈ rows, Clean r.1 ∧ Clean r.2) : ∀ e ∈ rows.map datT, kqdOk 8 e = true := by
  intro e he
  obtain ⟨r, hr, rfl⟩ := List.mem_map.mp he
  simp [datT, kqdOk, strOk_clean (h r hr).1, strOk_clean (h r hr).2]
theorem rows_clean {b : Book} (h : ROk b) : ∀ r ∈ b.map rowS, Clean r.1 ∧ Clean r.2 := by
  intro r hr
  obtain ⟨q, hq, rfl⟩ := List.mem_map.mp hr
  exact ⟨LW.clean (h.lw q hq), (num_back (h.lo q hq) (h.hi q hq)).2.1⟩
theorem dec_yes {p : Prop} (hp : p) (i : Decidable p) : @decide p i = true := decide_eq_true hp
theorem name_at {nvs : List Value} {ws : List (List Nat)} (hnv : StrsAre nvs (ws.map S)) {i : Nat} {v : Value} (hv : nvs[i]? = some v) : ∃ (wd : List Nat) (tv : Tok), v = Value.str (S wd) tv ∧ wd ∈ ws ∧ ws[i]? = some wd := by
  have h1 := (List.getElem?_eq_some_iff.mp hv).1
  have h2 := strs_len hnv
  rw [List.length_map] at h2
  have hil : i < ws.length := by omega
  obtain ⟨tv, hx⟩ := strs_get hnv i (S ws[i]) (by rw [List.getElem?_map, List.getElem?_eq_getElem hil]; rfl)
  exact ⟨ws[i], tv, Option.some.inj (hv.symm.trans hx), List.getElem_mem _, List.getElem?_eq_getElem hil⟩
theorem names_len {nvs : List Value} {ws : List (List Nat)} (hnv : StrsAre nvs (ws.map S)) : nvs.length = ws.length := by
  have h2 := strs_len hnv
  rwa [List.length_map] at h2
theorem a2_strs {ys : List Value} {rows : List (PySem.Str × PySem.Str)} (h : A2 (fun v r => ∃ tk, v = Value.str r.1 tk) ys rows) : StrsAre ys (rows.map (·.1)) := by
  induction h with
  | nil => exact .nil
  | cons r _ ih =>
    obtain ⟨tk, e⟩ := r
    subst e
    exact .cons _ _ ih
theorem HT.ups {h₀ h : Heap} {L t d l l2 : Addr} {o2 : Obj} {news news' : List (Addr × Obj)} {rows : List (PySem.Str × PySem.Str)} (N : News h₀ L h news) (hT : HT news t d l rows) (h2 : (l2, o2) ∈ news) (hc : o2.cls = .type "list") (hne : l ≠ l2) (hU : Ups l2 news news') : HT news' t d l rows := by
  obtain ⟨ht, ⟨hs, tk, n, hd⟩, vs, ep, hl, hr⟩ := hT
  have off : ∀ p ∈ news, p.2.cls ≠ .type "list" → p ∈ news' := fun p hp hk => hU p hp (ne_cls N hp h2 (by rw [hc]; exact hk))
  refine ⟨off _ ht ?_, ⟨hs, tk, n, off _ hd ?_⟩, vs, ep, hU _ hl hne, hr.mono ?_⟩
  · show Value.ref 242 ≠ Value.type "list"
    intro e; cases e
  · show Value.type "dict" ≠ Value.type "list"
    decide
  · rintro v r ⟨a, n, tk, tx, e, hm⟩
    exact ⟨a, n, tk, tx, e, off _ hm (by show Value.type "tuple" ≠ Value.type "list"; decide)⟩
theorem brow_ne {h₀ h : Heap} {L a l2 : Addr} {x : PySem.Str} {k : Int} {tk tx : Tok} {n e : Nat} {vs : List Value} {news : List (Addr × Obj)} {rows : List (PySem.Str × PySem.Str)} (N : News h₀ L h news) (h2 : (l2, PySem.W.listOf (List.toArray vs) e) ∈ news) (hr : A2 (RowAt news) vs rows) (ha : (a, PySem.W.listOf #[Value.str x tk, Value.int k tx] n) ∈ news) : a ≠ l2 := by
  refine ne_obj N ha h2 (.inr ?_)
  intro e
  have e1 : #[Value.str x tk, Value.int k tx] = List.toArray vs := by
    injection e
  have e2 : [Value.str x tk, Value.int k tx] = vs := by
    have := congrArg Array.toList e1
    simpa using this
  subst e2
  cases hr with
  | cons r _ =>
    obtain ⟨a, _, _, _, e, _⟩ := r
    cases e
theorem aaaa_len : (PySem.Str.ofString "aaaa").length ≤ 100 := by decide +kernel
theorem aaaa_S : PySem.Str.ofString "aaaa" = S [97, 97, 97, 97] := by decide +kernel
theorem aaaa_LW : LW [97, 97, 97, 97] := by intro c hc; simp at hc; subst hc; decide
theorem aaaa_clean : Clean (Txt.lower (PySem.Str.ofString "aaaa")) := by
  rw [aaaa_S, aaaa_LW.low]
  exact aaaa_LW.lowW.clean
theorem up_len {b : Book} {ws : List (List Nat)} (h : WsOk b ws) : ∀ r ∈ (ws.map (upF b ws)).map rowS, r.1.length ≤ 100 := by
  intro r hr
  rw [List.map_map] at hr
  obtain ⟨w, hw, rfl⟩ := List.mem_map.mp hr
  show (S (upW w)).length ≤ 100
  have := h.l3 hw
  rw [S_len]
  unfold upW
  rw [List.length_map]
  omega
theorem up_off {b : Book} {ws : List (List Nat)} (h : WsOk b ws) : ∀ r ∈ (ws.map (upF b ws)).map rowS, (Txt.lower r.1 == Txt.lower (PySem.Str.ofString "aaaa")) = false := by
  intro r hr
  rw [List.map_map] at hr
  obtain ⟨w, hw, rfl⟩ := List.mem_map.mp hr
  show (Txt.lower (S (upW w)) == _) = false
  have h3 := h.l3 hw
  rw [aaaa_S, aaaa_LW.low, (h.lw hw).upW.low, S_beq, beq_eq_false_iff_ne]
  intro e
  have e2 := congrArg List.length e
  unfold lowW upW at e2
  simp at e2
  omega
theorem up_none {b : Book} {ws : List (List Nat)} (h : WsOk b ws) {v : Value} (g : GetV ((ws.map (upF b ws)).map rowS) (PySem.Str.ofString "aaaa") v) : v = .none := by
  unfold GetV at g
  rw [List.find?_eq_none.mpr (fun r hr => by rw [up_off h r hr]; exact Bool.false_ne_true)] at g
  exact g
theorem up_del {b : Book} {ws : List (List Nat)} (h : WsOk b ws) : (((ws.map (upF b ws)).map rowS).filter fun r => Txt.lower r.1 != Txt.lower (PySem.Str.ofString "aaaa")) = (ws.map (upF b ws)).map rowS := by
  refine List.filter_eq_self.mpr fun r hr => ?_
  have e : (Txt.lower r.1 != Txt.lower (PySem.Str.ofString "aaaa")) = !(Txt.lower r.1 == Txt.lower (PySem.Str.ofString "aaaa")) := rfl
  rw [e, up_off h r hr]
  rfl
theorem rows_small {b : Book} (h : ROk b) {r : PySem.Str × PySem.Str} (hr : r ∈ b.map rowS) : Clean r.1 ∧ Clean r.2 ∧ r.1.length ≤ 1000 ∧ r.2.length ≤ 1000 := by
  obtain ⟨q, hq, rfl⟩ := List.mem_map.mp hr
  have h1 := num_back (h.lo q hq) (h.hi q hq)
  have h2 := h.len q hq
  refine ⟨LW.clean (h.lw q hq), h1.2.1, ?_, Nat.le_trans h1.2.2 (by decide)⟩
  show (S q.1).length ≤ 1000
  rw [S_len]
  omega
noncomputable def namesTo (b : Book) (i : Nat) : List (List Nat) := ([3, 2, 1, 0].take i).flatMap fun s => (b.filter fun r => r.1.length == s).map (·.1)
noncomputable def namesIn (b : Book) (i j : Nat) : List (List Nat) := namesTo b i ++ ((b.take j).filter fun r => r.1.length == 3 - i).map (·.1)
theorem namesTo_succ {b : Book} {i : Nat} (hi : i < 4) : namesTo b i ++ (b.filter fun r => r.1.length == 3 - i).map (·.1) = namesTo b (i + 1) := by
  unfold namesTo
  have h : i = 0 ∨ i = 1 ∨ i = 2 ∨ i = 3 := by omega
  rcases h with rfl | rfl | rfl | rfl <;> simp
theorem namesTo_len {b : Book} : ∀ i : Nat, i ≤ 4 → (namesTo b i).length ≤ i * b.length
  | 0, _ => by simp [namesTo]
  | i + 1, h => by
    have ih := namesTo_len (b := b) i (by omega)
    rw [← namesTo_succ (by omega), List.length_append, List.length_map, Nat.succ_mul]
    have := List.length_filter_le (fun r : List Nat × Int => r.1.length == 3 - i) b
    omega
theorem q_gen {M : Model} {A : Around} {c : Sem Flow} {Q : Flow → Shared → Prop} {E : Value → Shared → Prop} {s : Shared} (H : ∀ (QQ : Flow → Shared → Prop) (EE : Value → Shared → Prop), (∀ f s', Q f s' → QQ f s') → wpAny M A c QQ EE s) : wpAny M A c Q E s := H Q E fun _ _ h => h
end
section
local macro_rules | `(tactic| walk_at "eval ListComp Subscript cons") => `(tactic| refine Hold.out ?_)
local macro_rules | `(tactic| walk_at "exec Assign cons ListComp") => `(tactic| refine Hold.out ?_)
local macro_rules | `(tactic| k_all) => `(tactic| (with_reducible assumption))
local macro_rules | `(tactic| walk_at "eval ListComp Tuple cons cons nil") => `(tactic| refine Hold.out ?_)
local macro_rules | `(tactic| walk_at "eval ListComp Tuple cons") => `(tactic| refine Hold.out ?_)
local macro_rules | `(tactic| walk_at "compareOp NotEq ref ref") => `(tactic| refine Hold.out ?_)
local macro_rules | `(tactic| walk_at "execs cons") => `(tactic| refine Hold.m 6 (by with_reducible assumption) ?_)
local macro_rules | `(tactic| walk_at "subscriptTail Name Constant ref int") => `(tactic| refine Hold.out ?_)
local macro_rules | `(tactic| walk_at "compareOp Eq ref ref") => `(tactic| refine Hold.out ?_)
local macro_rules | `(tactic| walk_at "eval ListComp Name cons") => `(tactic| refine Hold.out ?_)
local macro_rules | `(tactic| walk_at "eval ListComp Call cons") => `(tactic| refine Hold.out ?_)
local macro_rules | `(tactic| walk_at "call builtin:list.extend") => `(tactic| refine Hold.out ?_)
theorem law11 (W : Wd) (w : World) (fa : Addr) (ccd : Value) (base h₀ : Heap) (L : Addr) (s : Shared) (Q : Flow → Shared → Prop) (E : Value → Shared → Prop) (sc : Scope) (body : List Stmt) (hsc : sc = lawScope) (hb : body = lawBody.drop 11)
    (B : Below callerA base [] h₀) (X : (hd.heap_39 w.params).In h₀) (T : Top W.p W.loose W.mean W.mg W.mb h₀)
    (h : Heap) (tk : Tok) (led : Led) (oc : Obj) (bk t d l na  rw t2 d2 l2 : Addr) (kv sv : Value) (nvs bvs : List Value) (nn eb : Nat) (BB : Book) (ws : List (List Nat)) (hW : WsOk BB ws) (hbl : BB.length ≤ 12)
    (F : Fr h₀ L h (fun y => if y = PySem.Str.ofString "other" then some (.ref t2) else if y = PySem.Str.ofString "rows" then some (.ref rw) else if y = PySem.Str.ofString "names" then some (.ref na) else if y = PySem.Str.ofString "kept" then some (kv) else if y = PySem.Str.ofString "table" then some (.ref t) else if y = PySem.Str.ofString "script" then some (sv) else none)) (N : News h₀ L h led) (hoc : oc.data = .cell (some (.ref bk))) (hcl : (L + 1, oc) ∈ led)
    (hna : (na, PySem.W.listOf (List.toArray nvs) nn) ∈ led) (hnv : StrsAre nvs (ws.map S)) (hbk : (bk, PySem.W.listOf (List.toArray bvs) eb) ∈ led) (hbv : A2 (BRow l led) bvs BB)
    (hT2 : HT led t2 d2 l2 ((ws.map (ownR BB)).map rowS)) (hRk : ROk (ws.map (ownR BB)))
    (hret : ∀ h' tk' m', Fr h₀ L h' m' → Q (.ret (.bool true)) { s with heap := h', toks := tk' }) :
    wpAny (model W.prog w) (callerA.deeper (lawE sc L fa ccd)) (execs body (lawE sc L fa ccd)) Q E { s with heap := h, toks := tk } := by
  conv at hsc => rhs; whnf
  conv at hb => rhs; whnf
  subst hsc
  subst hb
  unfold lawE
  obtain ⟨ht2, ⟨hs2, tkd2, nd2, hd2⟩, _⟩ := id hT2
  have hwz : (List.map rowS (List.map (ownR BB) ws)).length ≤ 500 := by rw [List.length_map, List.length_map]; have := hW.len; omega
  k_steps
  unfold Hold
  refine wpAny_call ?_
  k_dflt (refine' Ctr.use (c_items ⟨_, _, _, _, _, _⟩ _ _ _ _ _ _ hT2 hwz) ?B ?F ?X ?N ?T ?d ?u ?_)
  case B => k_asm
  case F => k_asm
  case X => k_asm
  case N => k_asm
  case T => k_asm
  case d => ktr_room
  case u => ktr_units
  intro v' n' h' tk' F' N' P'
  obtain ⟨D1, ys1, n1, rest, rfl, rfl, hsub, hD1, _⟩ := P'
  refine tokGen ?_
  intro kz1
  have hcl1 := hsub _ hcl
  have hna1 := hsub _ hna
  have hbk1 := hsub _ hbk
  have hbv1 : A2 (BRow l rest) bvs BB := hbv.mono fun v r hr => hr.mono fun p hp _ => hsub p hp
  clear hcl hna hbk hbv F N hT2 ht2 hd2
  k_steps
  unfold Hold
  (rename Fr _ _ _ _ => lF')
  k_dflt (refine' c_eval (emit := fun C D => emit2 _ _ (.ref D) (compEnvC _ _ C _)) lF' (fun C D I => turn_two0 _ _ _ _ _ _ _ _ _ _ _ _) ?hclos ?hcell ?hkind ?hnames ?hs ?_; (case hclos => with_unfolding_all rfl); (case hcell => decide); (case hkind => rfl); (case hnames => decide); (case hs => intro _; rfl))
  k_steps
  (try unfold Hold)
  (rename Fr _ _ _ _ => lF'); (rename News _ _ _ _ => lN')
  refine Or.inl (srcL (fun i ys nx => A2 (RowAt nx) ys ((ws.take i).map fun w => rowS (ownR BB w))) rfl lF' lN' (.tail _ hna1) .nil ?_ ?_)
  · intro i v ys nx I oI C oC D m₂ h tk E' hv hsub2 hJ hz off hne F₁ N₁ hN₁
    obtain ⟨wd, tv, rfl, hwi, hig⟩ := name_at hnv hv
    have hwL := hW.lw hwi
    have hw3 := hW.l3 hwi
    have hxS : (S wd).length ≤ 100 := by rw [S_len]; omega
    refine casg1 F₁ N₁ hN₁ hne off (by rfl) rfl fun oC' mN h' tk' hN₂ hkv hoth F₂ N₂ => ?_
    dsimp only
    refine tests0 ?_
    rw [if_pos rfl]
    refine emit_twoG (M := fun mm => mm (PySem.Str.ofString "name") = some (Value.str (S wd) tv)) (l := bk) (vs := bvs) (nn := eb) (fun j ys nx => A2 (RowAt nx) ys (((ws.take i).map fun w => rowS (ownR BB w)) ++ (((BB.take j).filter fun r => r.1 == wd).map fun r => (S (lowW wd), numS r.2)))) (fun _ _ => trivial) ?hh hne off F₂ N₂ hN₂ hkv (hsub2 _ (.tail _ hbk1)) hz ?_ ?_ ?_ ?_ ?_
    case hh => rfl
    · rw [List.take_zero, List.filter_nil, List.map_nil, List.append_nil]; exact hJ
    · intro Q9 E9 hq
      have hcl2 := hsub2 _ (.tail _ hcl1)
      k_steps
      exact hq
    · intro _; rfl
    · intro j v ys nx2 I2 oI2 oC3 m₃ h3 tk3 E3 hv hK hsub3 hz3 off3 hI3 hne3 F₃ N₃ hN₃
      obtain ⟨r, hri, a7, n7, tk7, tx7, rfl, ha7, hm7⟩ := hbv1.get hv
      have hrb := List.mem_of_getElem? hri
      have hrL := hW.bok.lw r hrb
      have hr5 := hW.bok.len r hrb
      have hr6 : (S r.1).length ≤ 100 := by rw [S_len]; omega
      have hr7 := hW.bok.lo r hrb
      have hr8 := hW.bok.hi r hrb
      have hm8 := hsub3 _ (hsub2 _ (.tail _ hm7))
      refine casg1 F₃ N₃ hN₃.1 hne3 off3 (by rfl) rfl fun oC' mN h' tk' hN₂ hkv hoth F₂ N₂ => ?_
      have hnm : mN (PySem.Str.ofString "name") = some (Value.str (S wd) tv) := (hoth _ (by decide)).trans hN₃.2
      dsimp only
      refine tests1 ?_
      k_steps
      unfold Hold
      (rename News _ _ _ _ => lN7)
      refine item0 (v₀ := Value.str (S r.1) tk7) (v₁ := Value.int r.2 tx7) (lN7.isList (show (a7, PySem.W.listOf #[Value.str (S r.1) tk7, Value.int r.2 tx7] n7) ∈ _ from by (repeat (first | assumption | refine List.Mem.tail _ ?_)))) ?_
      k_steps
      · refine emit_one hne3 ?_
        k_steps
        unfold Hold
        (rename News _ _ _ _ => lN7)
        refine item1 (v₀ := Value.str (S r.1) tk7) (v₁ := Value.int r.2 tx7) (lN7.isList (show (a7, PySem.W.listOf #[Value.str (S r.1) tk7, Value.int r.2 tx7] n7) ∈ _ from by (repeat (first | assumption | refine List.Mem.tail _ ?_)))) ?_
        k_steps
        rename_i Dn hn9 Fn Nn ln
        have hq : (S r.1 == S wd) = true := by assumption
        rw [S_beq] at hq
        have hQ : ∃ (t1 t2 : Tok) (n9 : Nat), News h₀ L hn9 ((Dn, tupO [Value.str (S (lowW wd)) t1, Value.str (numS r.2) t2] n9) :: (I2, oI2) :: (C, oC') :: (D, lsO ys) :: (I, oI) :: nx2) := by
          rw [← hwL.low]
          exact ⟨_, _, _, Nn⟩
        clear Nn
        obtain ⟨t1, t2, n9, Nn⟩ := hQ
        exact elt_new Fn Nn ⟨Ne.symm (Nat.ne_of_lt ln.1), Ne.symm (Nat.ne_of_lt ln.2.1), Ne.symm (Nat.ne_of_lt ln.2.2.1)⟩ off3 hN₂ hnm (by have h1 := hK.length; have h2 := hW.len; have h3 := List.length_filter_le (fun r => r.1 == wd) (BB.take j); rw [List.length_append, List.length_map, List.length_map, List.length_take] at h1; rw [List.length_take] at h3; omega) (TwoJ.new hsub3 hI3 (Ne.symm (Nat.ne_of_lt ln.2.2.2.1)) (by
          rw [take_one hri, List.filter_append, List.filter_cons_of_pos (p := fun r : List Nat × Int => r.1 == wd) hq, List.filter_nil, List.map_append, ← List.append_assoc]
          exact (hK.mono fun v q hq => hq.mono fun _ h => .tail _ h).append (.cons ⟨Dn, n9, t1, t2, rfl, .head _⟩ .nil)))
      · have hq : (S r.1 == S wd) = false := by assumption
        rw [S_beq] at hq
        exact no_end (by k_asm) (by k_asm) off3 hN₂ hnm hz3 (TwoJ.same hsub3 hI3 (by
          rw [take_one hri, List.filter_append, List.filter_cons_of_neg (p := fun r : List Nat × Int => r.1 == wd) (by rw [hq]; exact Bool.false_ne_true), List.filter_nil, List.append_nil]
          exact hK))
    · intro ys nx2 hK hsub3
      refine ⟨fun p hp => hsub3 p (hsub2 p hp), ?_⟩
      have h1 := outR_one hW hwi
      unfold outR at h1
      rw [hbv1.length, List.take_length, h1] at hK
      rw [take_one hig, List.map_append]
      exact hK
  · intro D ys nx h tk9 hJ hsub2 hD F₁ N₁
    have hl9 : nvs.length = ws.length := by have h2 := strs_len hnv; rwa [List.length_map] at h2
    rw [hl9, List.take_length] at hJ
    dsimp only
    refine tokGen ?_
    intro kz2
    k_steps
    unfold Hold
    (rename News _ _ _ _ => lN')
    have hok := datTup_ok (rows_clean hRk)
    have e9 : (ws.map fun w => rowS (ownR BB w)) = (ws.map (ownR BB)).map rowS := by rw [List.map_map]; rfl
    rw [e9] at hJ
    refine kqd_eq (n₁ := led) (n₂ := nx) (xs := ys1) (ys := ys) (ka := n1) (kb := ys.length) lN' (.tail _ (hsub2 _ (.head _))) rfl rfl (datTups hD1) (fun p hp => .tail _ (hsub2 _ (.tail _ (hsub p hp)))) (.head _) rfl rfl (datTups hJ) (fun p hp => .tail _ hp) hok hok (by ke_room) ?_
    rw [dec_yes rfl]
    (rename Fr _ _ _ _ => lF')
    exact hret _ _ _ lF'
theorem law10 (W : Wd) (w : World) (fa : Addr) (ccd : Value) (base h₀ : Heap) (L : Addr) (s : Shared) (Q : Flow → Shared → Prop) (E : Value → Shared → Prop) (sc : Scope) (body : List Stmt) (hsc : sc = lawScope) (hb : body = lawBody.drop 10)
    (B : Below callerA base [] h₀) (X : (hd.heap_39 w.params).In h₀) (T : Top W.p W.loose W.mean W.mg W.mb h₀)
    (h : Heap) (tk : Tok) (led : Led) (oc : Obj) (bk t d l na  rw t2 d2 l2 : Addr) (kv sv : Value) (nvs bvs : List Value) (nn eb : Nat) (BB : Book) (ws : List (List Nat)) (hW : WsOk BB ws) (hbl : BB.length ≤ 12)
    (F : Fr h₀ L h (fun y => if y = PySem.Str.ofString "other" then some (.ref t2) else if y = PySem.Str.ofString "rows" then some (.ref rw) else if y = PySem.Str.ofString "names" then some (.ref na) else if y = PySem.Str.ofString "kept" then some (kv) else if y = PySem.Str.ofString "table" then some (.ref t) else if y = PySem.Str.ofString "script" then some (sv) else none)) (N : News h₀ L h led) (hoc : oc.data = .cell (some (.ref bk))) (hcl : (L + 1, oc) ∈ led)
    (hna : (na, PySem.W.listOf (List.toArray nvs) nn) ∈ led) (hnv : StrsAre nvs (ws.map S)) (hbk : (bk, PySem.W.listOf (List.toArray bvs) eb) ∈ led) (hbv : A2 (BRow l led) bvs BB)
    (hT : HT led t d l ((ws.map (upF BB ws)).map rowS)) (hT2 : HT led t2 d2 l2 ((ws.map (ownR BB)).map rowS)) (hRk : ROk (ws.map (ownR BB)))
    (hret : ∀ h' tk' m', Fr h₀ L h' m' → Q (.ret (.bool true)) { s with heap := h', toks := tk' }) :
    wpAny (model W.prog w) (callerA.deeper (lawE sc L fa ccd)) (execs body (lawE sc L fa ccd)) Q E { s with heap := h, toks := tk } := by
  conv at hsc => rhs; whnf
  conv at hb => rhs; whnf
  subst hsc
  subst hb
  unfold lawE
  obtain ⟨ht1, ⟨hs1, tkd1, nd1, hd1⟩, _⟩ := id hT
  have hz : ((ws.map (upF BB ws)).map rowS).length ≤ 500 := by rw [List.length_map, List.length_map]; have := hW.len; omega
  k_steps
  unfold Hold
  refine wpAny_call ?_
  k_dflt (refine' Ctr.use (c_keys ⟨_, _, _, _, _, _⟩ _ _ _ _ _ _ hT hz) ?B ?F ?X ?N ?T ?d ?u ?_)
  case B => k_asm
  case F => k_asm
  case X => k_asm
  case N => k_asm
  case T => k_asm
  case d => ktr_room
  case u => ktr_units
  intro v' n' h' tk' F' N' P'
  obtain ⟨D1, ys1, rest, rfl, rfl, hsub, hK1⟩ := P'
  refine tokGen ?_
  intro kz1
  have mk6 : Mk 6 := .mk 6
  have hna1 := hsub _ hna
  clear N F
  k_steps
  unfold Hold
  (rename Fr _ _ _ _ => lF')
  k_dflt (refine' c_eval (emit := fun C D => emit1 _ (.ref D) (compEnvC _ _ C _)) lF' (fun C D I => turn_one _ _ _ _ _ _ _ _ _) ?hclos ?hcell ?hkind ?hnames ?hs ?_; (case hclos => with_unfolding_all rfl); (case hcell => decide); (case hkind => rfl); (case hnames => decide); (case hs => intro _; rfl))
  k_steps
  (try unfold Hold)
  (rename Fr _ _ _ _ => lF'); (rename News _ _ _ _ => lN')
  refine Or.inl (srcL0 (fun i ys => StrsAre ys ((ws.take i).map fun w => S (upW w))) rfl lF' lN' (.tail _ hna1) .nil ?_ ?_)
  · intro i v ys I oI C oC D m₂ h tk E' hv hJ hz off hne F₁ N₁ hN₁
    obtain ⟨wd, tv, rfl, hwi, hig⟩ := name_at hnv hv
    have hwL := hW.lw hwi
    have hw3 := hW.l3 hwi
    have hxS : (S wd).length ≤ 100 := by rw [S_len]; omega
    refine casg1 F₁ N₁ hN₁ hne off (by rfl) rfl fun oC' mN h' tk' hN₂ hkv hoth F₂ N₂ => ?_
    dsimp only
    refine tests0 ?_
    rw [if_pos rfl]
    refine emit_one hne ?_
    k_steps
    rw [hwL.up]
    exact elt_end (by k_asm) (by k_asm) off hN₂ trivial (by have h1 := strs_len hJ; have h2 := hW.len; rw [List.length_map, List.length_take] at h1; omega) ⟨rfl, by
      rw [take_one hig, List.map_append]
      exact strs_app hJ (.cons _ _ .nil)⟩
  · intro D ys h tk9 hJ hD F₁ N₁
    rw [names_len hnv, List.take_length] at hJ
    dsimp only
    refine tokGen ?_
    intro kz2
    k_steps
    unfold Hold
    (rename News _ _ _ _ => lN')
    have hK2 := a2_strs hK1
    have e9 : ((ws.map (upF BB ws)).map rowS).map (·.1) = ws.map fun w => S (upW w) := by rw [List.map_map, List.map_map]; rfl
    rw [e9] at hK2
    have hok : ∀ e ∈ (ws.map fun w => S (upW w)).map Dat.str, kqdOk 8 e = true := datStr_ok fun x hx => by
      obtain ⟨v, hv, rfl⟩ := List.mem_map.mp hx
      exact (hW.lw hv).upW.clean
    refine kqd_ne (n₁ := []) (n₂ := []) (xs := ys1) (ys := ys) (ka := ys1.length) (kb := ys.length) lN' (.tail _ (.head _)) rfl rfl (datStrs hK2) (fun _ h => nomatch h) (.head _) rfl rfl (datStrs hJ) (fun _ h => nomatch h) hok hok (by ke_room) ?_
    rw [dec_yes rfl]
    (rename Fr _ _ _ _ => lF')
    k_steps
    unfold Hold
    exact law11 W w fa ccd base h₀ L s Q E _ _ (by kernel_rfl) (by kernel_rfl) B X T _ _ _ oc bk t d l na rw t2 d2 l2 kv sv nvs bvs nn eb BB ws hW hbl lF' lN' hoc (.tail _ (.tail _ (hsub _ hcl))) (.tail _ (.tail _ (hsub _ hna))) hnv (.tail _ (.tail _ (hsub _ hbk))) (hbv.mono fun v r hr => hr.mono fun p hp _ => .tail _ (.tail _ (hsub p hp))) (hT2.mono fun p hp => .tail _ (.tail _ (hsub p hp))) hRk hret
theorem law9 (W : Wd) (w : World) (fa : Addr) (ccd : Value) (base h₀ : Heap) (L : Addr) (s : Shared) (Q : Flow → Shared → Prop) (E : Value → Shared → Prop) (sc : Scope) (body : List Stmt) (hsc : sc = lawScope) (hb : body = lawBody.drop 9)
    (B : Below callerA base [] h₀) (X : (hd.heap_39 w.params).In h₀) (T : Top W.p W.loose W.mean W.mg W.mb h₀)
    (h : Heap) (tk : Tok) (led : Led) (oc : Obj) (bk t d l na  rw t2 d2 l2 : Addr) (kv sv : Value) (nvs bvs : List Value) (nn eb : Nat) (BB : Book) (ws : List (List Nat)) (hW : WsOk BB ws) (hbl : BB.length ≤ 12)
    (F : Fr h₀ L h (fun y => if y = PySem.Str.ofString "other" then some (.ref t2) else if y = PySem.Str.ofString "rows" then some (.ref rw) else if y = PySem.Str.ofString "names" then some (.ref na) else if y = PySem.Str.ofString "kept" then some (kv) else if y = PySem.Str.ofString "table" then some (.ref t) else if y = PySem.Str.ofString "script" then some (sv) else none)) (N : News h₀ L h led) (hoc : oc.data = .cell (some (.ref bk))) (hcl : (L + 1, oc) ∈ led)
    (hna : (na, PySem.W.listOf (List.toArray nvs) nn) ∈ led) (hnv : StrsAre nvs (ws.map S)) (hbk : (bk, PySem.W.listOf (List.toArray bvs) eb) ∈ led) (hbv : A2 (BRow l led) bvs BB)
    (hT : HT led t d l ((ws.map (upF BB ws)).map rowS)) (hT2 : HT led t2 d2 l2 ((tab2 BB ws).map rowS)) (hc : Closed ws) (hnl : na ≠ l2) (hbl2 : bk ≠ l2) (hll : l ≠ l2)
    (hret : ∀ h' tk' m', Fr h₀ L h' m' → Q (.ret (.bool true)) { s with heap := h', toks := tk' }) :
    wpAny (model W.prog w) (callerA.deeper (lawE sc L fa ccd)) (execs body (lawE sc L fa ccd)) Q E { s with heap := h, toks := tk } := by
  conv at hsc => rhs; whnf
  conv at hb => rhs; whnf
  subst hsc
  subst hb
  unfold lawE
  have hT2' := hT2
  obtain ⟨ht2, ⟨hs2, tkd2, nd2, hd2⟩, vs2, e2, hl2, hr2⟩ := hT2'
  k_steps
  unfold Hold
  refine wpAny_call ?_
  k_dflt (refine' Ctr.use (c_undo ⟨_, _, _, _, _, _⟩ _ _ _ _ _ _ _ ws (tab2 BB ws) _ hT2 hna hnl hnv (fun w hw => ⟨hW.lw hw, hW.l3 hw⟩) hW.len (fun i hi => undo_ok hW hc i hi) (fun i hi => undo_find hW hc i hi)) ?B ?F ?X ?N ?T ?d ?u ?_)
  case B => k_asm
  case F => k_asm
  case X => k_asm
  case N => k_asm
  case T => k_asm
  case d => ktr_room
  case u => ktr_units
  intro v' n' h' tk' F' N' P'
  obtain ⟨rfl, hT3, hU⟩ := P'
  have hRk := (undo_ok hW hc ws.length (Nat.le_refl _)).1
  rw [undoAt_all hW hc] at hT3 hRk
  have hTn := HT.ups N hT hl2 rfl hll hU
  have hbv1 : A2 (BRow l n') bvs BB := hbv.mono fun v r hr => by
    obtain ⟨a9, n9, tk9, tx9, e9, hn9, hm9⟩ := hr
    exact ⟨a9, n9, tk9, tx9, e9, hn9, hU _ hm9 (brow_ne N hl2 hr2 hm9)⟩
  have hcl1 := hU _ hcl (ne_obj N hcl hl2 (.inr (by rw [hoc]; intro e; cases e)))
  have hna1 := hU _ hna hnl
  have hbk1 := hU _ hbk hbl2
  clear N F hT2 hT hcl hna hbk hbv ht2 hd2 hl2 hr2
  refine tokGen ?_
  intro kz1
  have mk6 : Mk 6 := .mk 6
  k_steps
  unfold Hold
  (rename Fr _ _ _ _ => lF'); (rename News _ _ _ _ => lN')
  exact law10 W w fa ccd base h₀ L s Q E _ _ (by kernel_rfl) (by kernel_rfl) B X T _ _ _ oc bk t d l na rw t2 d2 l2 kv sv nvs bvs nn eb BB ws hW hbl lF' lN' hoc hcl1 hna1 hnv hbk1 hbv1 hTn hT3 hRk hret
theorem law8 (W : Wd) (w : World) (fa : Addr) (ccd : Value) (base h₀ : Heap) (L : Addr) (s : Shared) (Q : Flow → Shared → Prop) (E : Value → Shared → Prop) (sc : Scope) (body : List Stmt) (hsc : sc = lawScope) (hb : body = lawBody.drop 8)
    (B : Below callerA base [] h₀) (X : (hd.heap_39 w.params).In h₀) (T : Top W.p W.loose W.mean W.mg W.mb h₀)
    (h : Heap) (tk : Tok) (led : Led) (oc : Obj) (bk t d l na  rw : Addr) (kv sv : Value) (nvs bvs : List Value) (nn eb : Nat) (BB : Book) (ws : List (List Nat)) (hW : WsOk BB ws) (hbl : BB.length ≤ 12)
    (F : Fr h₀ L h (fun y => if y = PySem.Str.ofString "rows" then some (.ref rw) else if y = PySem.Str.ofString "names" then some (.ref na) else if y = PySem.Str.ofString "kept" then some (kv) else if y = PySem.Str.ofString "table" then some (.ref t) else if y = PySem.Str.ofString "script" then some (sv) else none)) (N : News h₀ L h led) (hoc : oc.data = .cell (some (.ref bk))) (hcl : (L + 1, oc) ∈ led)
    (hna : (na, PySem.W.listOf (List.toArray nvs) nn) ∈ led) (hnv : StrsAre nvs (ws.map S)) (hbk : (bk, PySem.W.listOf (List.toArray bvs) eb) ∈ led) (hbv : A2 (BRow l led) bvs BB)
    (hT : HT led t d l ((ws.map (upF BB ws)).map rowS)) (hc : Closed ws) (rvs : List Value) (nr : Nat) (hrw : (rw, PySem.W.listOf (List.toArray rvs) nr) ∈ led) (hrv : A2 (RowAt led) rvs ((tab2 BB ws).map rowS)) (hnl : na ≠ rw) (hbl2 : bk ≠ rw) (hll : l ≠ rw)
    (hret : ∀ h' tk' m', Fr h₀ L h' m' → Q (.ret (.bool true)) { s with heap := h', toks := tk' }) :
    wpAny (model W.prog w) (callerA.deeper (lawE sc L fa ccd)) (execs body (lawE sc L fa ccd)) Q E { s with heap := h, toks := tk } := by
  conv at hsc => rhs; whnf
  conv at hb => rhs; whnf
  subst hsc
  subst hb
  unfold lawE
  have hrl := hrv.length
  k_steps
  (rename Fr _ _ _ _ => lF')
  refine For_turns lF' ?_ (fun _ => rfl) (by first | passes_own | with_unfolding_all passes_own)
  k_steps
  unfold Hold
  (rename Fr _ _ _ _ => lF'); (rename News _ _ _ _ => lN')
  rename_i x9 d9 ha Fa Na l1a l2a g9 L9 hb FGb Bb Xb Tb hc9 he9 hf9 hg9
  have hpk : ∃ (hs : Int) (tk2 : Tok), News g9 L9 hg9 ((x9, instObj 242 d9) :: (d9, dictOf [⟨hs, .str (PySem.Str.ofString "_headers") tk2, .ref rw⟩] 1) :: led) ∧ Fr g9 L9 hg9 (fun y => if y = PySem.Str.ofString "headers" then some (.ref rw) else List.lookup y [(PySem.Str.ofString "headers", .ref rw), (PySem.Str.ofString "self", .ref x9)]) := ⟨_, _, lN', Fr.eqm lF' _ (by kernel_rfl)⟩
  clear lN' lF'
  obtain ⟨hs, tk2, lN', lF'⟩ := hpk
  refine tokGen ?_
  intro kz1
  have mk7 : Mk 7 := .mk 7
  refine m_loop (σ := Unit) (l := rw) (vs := rvs) (nn := nr) (fun _ => []) [PySem.Str.ofString "k", PySem.Str.ofString "v"] (fun i _ nx => nx = (x9, instObj 242 d9) :: (d9, dictOf [⟨hs, .str (PySem.Str.ofString "_headers") tk2, .ref rw⟩] 1) :: led) () rfl (.tail _ (.tail _ hrw)) lF' lN' (fun _ hp => (nomatch hp)) rfl ?_ ?_
  · rintro i v _ u nx I it h tk hv rfl hit hlx hnI F₁ N₁
    dsimp only [kstB] at F₁ ⊢
    have hv2 : Hold (rvs[i]? = some v) := hv
    obtain ⟨r, hri, a7, n7, tk7, tx7, rfl, hm7⟩ := hrv.get hv
    obtain ⟨hc1, hc2, hc3, hc4⟩ := rows_small (undo_ok hW hc 0 (Nat.zero_le _)).1 (List.mem_of_getElem? hri)
    k_steps
    unfold Hold
    refine wpAny_call ?_
    k_dflt (refine' Ctr.use (c_conv ⟨_, _, _, _, _, _⟩ _ _ _ _ _ _ hc3 hc1) ?B ?F ?X ?N ?T ?d ?u ?_)
    case B => k_asm
    case F => k_asm
    case X => k_asm
    case N => k_asm
    case T => k_asm
    case d => exact Nat.le_of_ble_eq_true (by kernel_rfl)
    case u => exact Nat.le_of_ble_eq_true (by kernel_rfl)
    intro v' n' h' tk' F' N' P'
    obtain ⟨rfl, rfl⟩ := P'
    refine tokGen ?_
    intro kz2
    k_steps
    unfold Hold
    refine wpAny_call ?_
    k_dflt (refine' Ctr.use (c_conv ⟨_, _, _, _, _, _⟩ _ _ _ _ _ _ hc4 hc2) ?B ?F ?X ?N ?T ?d ?u ?_)
    case B => k_asm
    case F => k_asm
    case X => k_asm
    case N => k_asm
    case T => k_asm
    case d => exact Nat.le_of_ble_eq_true (by kernel_rfl)
    case u => exact Nat.le_of_ble_eq_true (by kernel_rfl)
    intro v' n' h' tk' F' N' P'
    obtain ⟨rfl, rfl⟩ := P'
    refine tokGen ?_
    intro kz3
    k_steps
    (rename Fr _ _ _ _ => lF'); (rename News _ _ _ _ => lN')
    exact m_end () _ lF' lN' (.head _) (fun p hp => ⟨.tail _ hp, .inl (hnI p hp)⟩) hlx (fun _ hp => nomatch hp) (by first | (intro z h2 h3; (try simp only [List.forall_mem_cons, List.not_mem_nil, false_implies, implies_true, and_true] at h2); (repeat (refine (if_neg (by first | exact ne_ct h3 (by decide) | exact h2 | exact h2.1 | exact h2.2 | exact h2.2.1 | exact h2.2.2 | exact h2.2.2.1 | exact h2.2.2.2 | (rw [h3]; exact Bool.false_ne_true))).trans ?_)); (first | rfl | ((try simp only [kstB, h2, h3, Bool.false_eq_true, if_false, List.contains_nil]); done) | ((try simp only [kstB, h2, h3, Bool.false_eq_true, if_false, List.contains_nil]); rfl))) | ksw_same) rfl
  · rintro _ u nx h tk rfl hlx F₁ N₁
    dsimp only [kstB] at F₁ ⊢
    refine tokGen ?_
    intro kz4
    have mk6 : Mk 6 := .mk 6
    clear mk7
    k_steps
    unfold Hold
    (rename Fr _ _ _ _ => lF'); (rename News _ _ _ _ => lN')
    have up : ∀ p ∈ led, p ∈ (x9, instObj 242 d9) :: (d9, dictOf [⟨hs, .str (PySem.Str.ofString "_headers") tk2, .ref rw⟩] 1) :: led := fun p hp => .tail _ (.tail _ hp)
    exact law9 W w fa ccd base h₀ L s Q E _ _ (by kernel_rfl) (by kernel_rfl) B X T _ _ _ oc bk t d l na rw x9 d9 rw kv sv nvs bvs nn eb BB ws hW hbl lF' lN' hoc (up _ hcl) (up _ hna) hnv (up _ hbk) (hbv.mono fun v r hr => hr.mono fun p hp _ => up p hp) (hT.mono up) ⟨.head _, ⟨_, _, _, .tail _ (.head _)⟩, rvs, nr, up _ hrw, hrv.mono fun v r x => x.mono up⟩ hc hnl hbl2 hll hret
theorem law7 (W : Wd) (w : World) (fa : Addr) (ccd : Value) (base h₀ : Heap) (L : Addr) (s : Shared) (Q : Flow → Shared → Prop) (E : Value → Shared → Prop) (sc : Scope) (body : List Stmt) (hsc : sc = lawScope) (hb : body = lawBody.drop 7)
    (B : Below callerA base [] h₀) (X : (hd.heap_39 w.params).In h₀) (T : Top W.p W.loose W.mean W.mg W.mb h₀)
    (h : Heap) (tk : Tok) (led : Led) (oc : Obj) (bk t d l na  rw : Addr) (kv sv : Value) (nvs bvs : List Value) (nn eb : Nat) (BB : Book) (ws : List (List Nat)) (hW : WsOk BB ws) (hbl : BB.length ≤ 12)
    (F : Fr h₀ L h (fun y => if y = PySem.Str.ofString "rows" then some (.ref rw) else if y = PySem.Str.ofString "names" then some (.ref na) else if y = PySem.Str.ofString "kept" then some (kv) else if y = PySem.Str.ofString "table" then some (.ref t) else if y = PySem.Str.ofString "script" then some (sv) else none)) (N : News h₀ L h led) (hoc : oc.data = .cell (some (.ref bk))) (hcl : (L + 1, oc) ∈ led)
    (hna : (na, PySem.W.listOf (List.toArray nvs) nn) ∈ led) (hnv : StrsAre nvs (ws.map S)) (hbk : (bk, PySem.W.listOf (List.toArray bvs) eb) ∈ led) (hbv : A2 (BRow l led) bvs BB)
    (hT : HT led t d l ((ws.map (upF BB ws)).map rowS)) (hc : Closed ws) (rvs : List Value) (nr : Nat) (hrw : (rw, PySem.W.listOf (List.toArray rvs) nr) ∈ led) (hrv : A2 (RowAt led) rvs ((ws.map (upF BB ws)).map rowS)) (hnl : na ≠ rw) (hbl2 : bk ≠ rw) (hll : l ≠ rw)
    (hret : ∀ h' tk' m', Fr h₀ L h' m' → Q (.ret (.bool true)) { s with heap := h', toks := tk' }) :
    wpAny (model W.prog w) (callerA.deeper (lawE sc L fa ccd)) (execs body (lawE sc L fa ccd)) Q E { s with heap := h, toks := tk } := by
  conv at hsc => rhs; whnf
  conv at hb => rhs; whnf
  subst hsc
  subst hb
  unfold lawE
  have hcr : L + 1 ≠ rw := ne_obj N hcl hrw (.inr (by rw [hoc]; intro e; cases e))
  have hTU : ∀ led' : Led, Ups rw led led' → HT led' t d l ((ws.map (upF BB ws)).map rowS) := fun led' hU => HT.ups N hT hrw rfl hll hU
  have hBU : ∀ led' : Led, Ups rw led led' → A2 (BRow l led') bvs BB := fun led' hU => hbv.mono fun v r hr => by
    obtain ⟨a9, n9, tk9, tx9, e9, hn9, hm9⟩ := hr
    exact ⟨a9, n9, tk9, tx9, e9, hn9, hU _ hm9 (brow_ne N hrw hrv hm9)⟩
  k_steps
  unfold Hold
  (rename Fr _ _ _ _ => lF')
  k_dflt (refine' c_eval (emit := fun C D => emit1 _ (.ref D) (compEnvC _ _ C _)) lF' (fun C D I => turn_one _ _ _ _ _ _ _ _ _) ?hclos ?hcell ?hkind ?hnames ?hs ?_; (case hclos => with_unfolding_all rfl); (case hcell => decide); (case hkind => rfl); (case hnames => decide); (case hs => intro _; rfl))
  k_steps
  (try unfold Hold)
  (rename Fr _ _ _ _ => lF'); (rename News _ _ _ _ => lN')
  have hrl := hrv.length
  refine Or.inl (srcL (fun i ys nx => A2 (RowAt nx) ys ((ws.take i).map fun w => rowS (low0 w))) rfl lF' lN' hna .nil ?_ ?_)
  · rintro i v ys nx I oI C oC D m₂ h tk E' hv hsub hJ hz off hne F₁ N₁ hN₁
    obtain ⟨wd, tv, rfl, hwi, hig⟩ := name_at hnv hv
    have hwL := hW.lw hwi
    have hw3 := hW.l3 hwi
    have hxS : (S wd).length ≤ 100 := by rw [S_len]; omega
    refine casg1 F₁ N₁ hN₁ hne off (by rfl) rfl fun oC' mN h' tk' hN₂ hkv hoth F₂ N₂ => ?_
    dsimp only
    refine tests0 ?_
    rw [if_pos rfl]
    refine emit_one hne ?_
    k_steps
    rename_i Dn hn9 Fn Nn ln
    have hQ : ∃ (t1 t2 : Tok) (n9 : Nat), News h₀ L hn9 ((Dn, tupO [Value.str (S (lowW wd)) t1, Value.str (numS 0) t2] n9) :: (I, oI) :: (C, oC') :: (D, lsO ys) :: nx) := by
      rw [← hwL.low]
      exact ⟨_, _, _, Nn⟩
    clear Nn
    obtain ⟨t1, t2, n9, Nn⟩ := hQ
    exact elt_new Fn Nn ⟨Ne.symm (Nat.ne_of_lt ln.1), Ne.symm (Nat.ne_of_lt ln.2.1), Ne.symm (Nat.ne_of_lt ln.2.2.1)⟩ off hN₂ trivial (by have h1 := hJ.length; have h2 := hW.len; rw [List.length_map, List.length_take] at h1; omega) ⟨fun p hp => .tail _ (hsub p hp), by
      rw [take_one hig, List.map_append]
      exact (hJ.mono fun v q hq => hq.mono fun _ h => .tail _ h).append (.cons ⟨Dn, n9, t1, t2, rfl, .head _⟩ .nil)⟩
  · rintro D ys nx h tk9 hJ hsub hD F₁ N₁
    rw [names_len hnv, List.take_length] at hJ
    dsimp only
    refine tokGen ?_
    intro kz2
    k_steps
    (try unfold Hold)
    (rename Fr _ _ _ _ => lF'); (rename News _ _ _ _ => lN')
    refine extendN (l := rw) (b := D) (vs := rvs) (xs := ys) lF' lN' (.tail _ (hsub _ hrw)) (.head _) (by have h1 := hJ.length; have h2 := hW.len; rw [List.length_map] at h1 hrl; rw [List.length_map] at hrl; omega) ?_
    intro h' n' Fx Nx
    have Nx2 := Nx (less rw ((D, lsO ys) :: nx)) (fun p hp => mem_less.mp hp)
    have N0 := lN'
    have hrw0 : (rw, PySem.W.listOf (List.toArray rvs) nr) ∈ (D, lsO ys) :: nx := .tail _ (hsub _ hrw)
    have hU : Ups rw led ((rw, PySem.W.listOf (List.toArray (rvs ++ ys)) n') :: less rw ((D, lsO ys) :: nx)) := fun p hp hn => .tail _ (mem_less.mpr ⟨.tail _ (hsub p hp), hn⟩)
    have hrv1 : A2 (RowAt ((rw, PySem.W.listOf (List.toArray (rvs ++ ys)) n') :: less rw ((D, lsO ys) :: nx))) (rvs ++ ys) ((tab2 BB ws).map rowS) := by
      unfold tab2
      rw [List.map_append]
      refine A2.append (hrv.mono fun v r x => ((x.mono fun p hp => .tail _ (hsub p hp)).less N0 hrw0 rfl).mono fun p hp => .tail _ hp) ?_
      rw [List.map_map]
      exact hJ.mono fun v r x => ((x.mono fun p hp => .tail _ hp).less N0 hrw0 rfl).mono fun p hp => .tail _ hp
    have hTn := hTU _ hU
    have hbv1 := hBU _ hU
    have hcl1 := hU _ hcl hcr
    have hna1 := hU _ hna hnl
    have hbk1 := hU _ hbk hbl2
    generalize hle : (rw, PySem.W.listOf (List.toArray (rvs ++ ys)) n') :: less rw ((D, lsO ys) :: nx) = led2 at Nx2 hU hrv1 hTn hbv1 hcl1 hna1 hbk1
    have hrw1 : (rw, PySem.W.listOf (List.toArray (rvs ++ ys)) n') ∈ led2 := by rw [← hle]; exact .head _
    clear hle hU hTU hBU N0 hrw0 Nx hT hcl hna hbk hbv hrw hrv hJ hsub lN' lF'
    have mk6 : Mk 6 := .mk 6
    k_steps
    unfold Hold
    (rename Fr _ _ _ _ => lF'); (rename News _ _ _ _ => lN')
    exact law8 W w fa ccd base h₀ L s Q E _ _ (by kernel_rfl) (by kernel_rfl) B X T _ _ _ oc bk t d l na rw kv sv nvs bvs nn eb BB ws hW hbl lF' lN' hoc hcl1 hna1 hnv hbk1 hbv1 hTn hc _ _ hrw1 hrv1 hnl hbl2 hll hret
theorem law6 (W : Wd) (w : World) (fa : Addr) (ccd : Value) (base h₀ : Heap) (L : Addr) (s : Shared) (Q : Flow → Shared → Prop) (E : Value → Shared → Prop) (sc : Scope) (body : List Stmt) (hsc : sc = lawScope) (hb : body = lawBody.drop 6)
    (B : Below callerA base [] h₀) (X : (hd.heap_39 w.params).In h₀) (T : Top W.p W.loose W.mean W.mg W.mb h₀)
    (h : Heap) (tk : Tok) (led : Led) (oc : Obj) (bk t d l na  : Addr) (kv sv : Value) (nvs bvs : List Value) (nn eb : Nat) (BB : Book) (ws : List (List Nat)) (hW : WsOk BB ws) (hbl : BB.length ≤ 12)
    (F : Fr h₀ L h (fun y => if y = PySem.Str.ofString "names" then some (.ref na) else if y = PySem.Str.ofString "kept" then some (kv) else if y = PySem.Str.ofString "table" then some (.ref t) else if y = PySem.Str.ofString "script" then some (sv) else none)) (N : News h₀ L h led) (hoc : oc.data = .cell (some (.ref bk))) (hcl : (L + 1, oc) ∈ led)
    (hna : (na, PySem.W.listOf (List.toArray nvs) nn) ∈ led) (hnv : StrsAre nvs (ws.map S)) (hbk : (bk, PySem.W.listOf (List.toArray bvs) eb) ∈ led) (hbv : A2 (BRow l led) bvs BB)
    (hT : HT led t d l ((ws.map (upF BB ws)).map rowS)) (hc : Closed ws)
    (hret : ∀ h' tk' m', Fr h₀ L h' m' → Q (.ret (.bool true)) { s with heap := h', toks := tk' }) :
    wpAny (model W.prog w) (callerA.deeper (lawE sc L fa ccd)) (execs body (lawE sc L fa ccd)) Q E { s with heap := h, toks := tk } := by
  conv at hsc => rhs; whnf
  conv at hb => rhs; whnf
  subst hsc
  subst hb
  unfold lawE
  have hT' := hT
  obtain ⟨ht1, ⟨hs1, tkd1, nd1, hd1⟩, vs1, e1, hl1, hr1⟩ := hT'
  have hz : ((ws.map (upF BB ws)).map rowS).length ≤ 500 := by rw [List.length_map, List.length_map]; have := hW.len; omega
  k_steps
  unfold Hold
  refine wpAny_call ?_
  k_dflt (refine' Ctr.use (c_items ⟨_, _, _, _, _, _⟩ _ _ _ _ _ _ hT hz) ?B ?F ?X ?N ?T ?d ?u ?_)
  case B => k_asm
  case F => k_asm
  case X => k_asm
  case N => k_asm
  case T => k_asm
  case d => ktr_room
  case u => ktr_units
  intro v' n' h' tk' F' N' P'
  obtain ⟨D1, ys1, n1, rest, rfl, rfl, hsub, hD1, hlt⟩ := P'
  have mk6 : Mk 6 := .mk 6
  refine tokGen ?_
  intro kz1
  have q1 := Nat.ne_of_lt (hlt _ hna)
  have q2 := Nat.ne_of_lt (hlt _ hbk)
  have q3 := Nat.ne_of_lt (hlt _ hl1)
  clear N F ht1 hd1 hl1
  k_steps
  unfold Hold
  (rename Fr _ _ _ _ => lF'); (rename News _ _ _ _ => lN')
  exact law7 W w fa ccd base h₀ L s Q E _ _ (by kernel_rfl) (by kernel_rfl) B X T _ _ _ oc bk t d l na D1 kv sv nvs bvs nn eb BB ws hW hbl lF' lN' hoc (.tail _ (hsub _ hcl)) (.tail _ (hsub _ hna)) hnv (.tail _ (hsub _ hbk)) (hbv.mono fun v r hr => hr.mono fun p hp _ => .tail _ (hsub p hp)) (hT.mono fun p hp => .tail _ (hsub p hp)) hc ys1 n1 (.head _) (hD1.mono fun v r hr => hr.mono fun p hp => .tail _ (hsub p hp)) q1 q2 q3 hret
theorem law5 (W : Wd) (w : World) (fa : Addr) (ccd : Value) (base h₀ : Heap) (L : Addr) (s : Shared) (Q : Flow → Shared → Prop) (E : Value → Shared → Prop) (sc : Scope) (body : List Stmt) (hsc : sc = lawScope) (hb : body = lawBody.drop 5)
    (B : Below callerA base [] h₀) (X : (hd.heap_39 w.params).In h₀) (T : Top W.p W.loose W.mean W.mg W.mb h₀)
    (h : Heap) (tk : Tok) (led : Led) (oc : Obj) (bk t d l na  : Addr) (kv sv : Value) (nvs bvs : List Value) (nn eb : Nat) (BB : Book) (ws : List (List Nat)) (hW : WsOk BB ws) (hbl : BB.length ≤ 12)
    (F : Fr h₀ L h (fun y => if y = PySem.Str.ofString "names" then some (.ref na) else if y = PySem.Str.ofString "kept" then some (kv) else if y = PySem.Str.ofString "table" then some (.ref t) else if y = PySem.Str.ofString "script" then some (sv) else none)) (N : News h₀ L h led) (hoc : oc.data = .cell (some (.ref bk))) (hcl : (L + 1, oc) ∈ led)
    (hna : (na, PySem.W.listOf (List.toArray nvs) nn) ∈ led) (hnv : StrsAre nvs (ws.map S)) (hbk : (bk, PySem.W.listOf (List.toArray bvs) eb) ∈ led) (hbv : A2 (BRow l led) bvs BB)
    (hT : HT led t d l ((ws.map (upF BB ws)).map rowS)) (hc : Closed ws) (hnl : na ≠ l) (hbl2 : bk ≠ l)
    (hret : ∀ h' tk' m', Fr h₀ L h' m' → Q (.ret (.bool true)) { s with heap := h', toks := tk' }) :
    wpAny (model W.prog w) (callerA.deeper (lawE sc L fa ccd)) (execs body (lawE sc L fa ccd)) Q E { s with heap := h, toks := tk } := by
  conv at hsc => rhs; whnf
  conv at hb => rhs; whnf
  subst hsc
  subst hb
  unfold lawE
  have hT' := hT
  obtain ⟨ht1, ⟨hs1, tkd1, nd1, hd1⟩, vs1, e1, hl1, hr1⟩ := hT'
  have hz : ((ws.map (upF BB ws)).map rowS).length ≤ 500 := by rw [List.length_map, List.length_map]; have := hW.len; omega
  have hk : ∀ r ∈ (ws.map (upF BB ws)).map rowS, r.1.length ≤ 100 := up_len hW
  k_steps
  unfold Hold
  refine wpAny_call ?_
  k_dflt (refine' Ctr.use (c_getitem ⟨_, _, _, _, _, _⟩ _ _ _ _ _ _ _ aaaa_len aaaa_clean _ hT hk) ?B ?F ?X ?N ?T ?d ?u ?_)
  case B => k_asm
  case F => k_asm
  case X => k_asm
  case N => k_asm
  case T => k_asm
  case d => ktr_room
  case u => ktr_units
  intro v' n' h' tk' F' N' P'
  obtain ⟨rfl, gv⟩ := P'
  have e0 := up_none hW gv
  subst e0
  refine tokGen ?_
  intro kz1
  k_steps
  unfold Hold
  refine wpAny_call ?_
  k_dflt (refine' Ctr.use (c_delitem ⟨_, _, _, _, _, _⟩ _ _ _ _ _ _ _ aaaa_len aaaa_clean _ hT hk hz) ?B ?F ?X ?N ?T ?d ?u ?_)
  case B => k_asm
  case F => k_asm
  case X => k_asm
  case N => k_asm
  case T => k_asm
  case d => ktr_room
  case u => ktr_units
  intro v' n' h' tk' F' N' P'
  obtain ⟨rfl, hT3, hU⟩ := P'
  rw [up_del hW] at hT3
  have hbv1 : A2 (BRow l n') bvs BB := hbv.mono fun v r hr => hr.mono fun p hp hn => hU p hp hn
  have hcl1 := hU _ hcl (ne_obj N hcl hl1 (.inr (by rw [hoc]; intro e; cases e)))
  have hna1 := hU _ hna hnl
  have hbk1 := hU _ hbk hbl2
  clear N hT hcl hna hbk hbv ht1 hd1 hl1 hr1 hU gv F
  have mk6 : Mk 6 := .mk 6
  refine tokGen ?_
  intro kz2
  k_steps
  unfold Hold
  (rename Fr _ _ _ _ => lF'); (rename News _ _ _ _ => lN')
  exact law6 W w fa ccd base h₀ L s Q E _ _ (by kernel_rfl) (by kernel_rfl) B X T _ _ _ oc bk t d l na kv sv nvs bvs nn eb BB ws hW hbl lF' lN' hoc hcl1 hna1 hnv hbk1 hbv1 hT3 hc hret
theorem law4 (W : Wd) (w : World) (fa : Addr) (ccd : Value) (base h₀ : Heap) (L : Addr) (s : Shared) (Q : Flow → Shared → Prop) (E : Value → Shared → Prop) (sc : Scope) (body : List Stmt) (hsc : sc = lawScope) (hb : body = lawBody.drop 4)
    (B : Below callerA base [] h₀) (X : (hd.heap_39 w.params).In h₀) (T : Top W.p W.loose W.mean W.mg W.mb h₀)
    (h : Heap) (tk : Tok) (led : Led) (oc : Obj) (bk t d l na  : Addr) (kv sv : Value) (nvs bvs : List Value) (nn eb : Nat) (BB : Book) (ws : List (List Nat)) (hW : WsOk BB ws) (hbl : BB.length ≤ 12)
    (F : Fr h₀ L h (fun y => if y = PySem.Str.ofString "names" then some (.ref na) else if y = PySem.Str.ofString "kept" then some (kv) else if y = PySem.Str.ofString "table" then some (.ref t) else if y = PySem.Str.ofString "script" then some (sv) else none)) (N : News h₀ L h led) (hoc : oc.data = .cell (some (.ref bk))) (hcl : (L + 1, oc) ∈ led)
    (hna : (na, PySem.W.listOf (List.toArray nvs) nn) ∈ led) (hnv : StrsAre nvs (ws.map S)) (hbk : (bk, PySem.W.listOf (List.toArray bvs) eb) ∈ led) (hbv : A2 (BRow l led) bvs BB)
    (hwb : ws.length = BB.length) (hT : HT led t d l (BB.map rowS)) (hc : Closed ws) (hs : ∀ x ∈ ws, ∀ y ∈ ws, x.length < y.length → scVs (S x) (S y) = [Value.bool (sct x y), Value.bool (sct x y), Value.bool true]) (hnl : na ≠ l) (hbl2 : bk ≠ l)
    (hret : ∀ h' tk' m', Fr h₀ L h' m' → Q (.ret (.bool true)) { s with heap := h', toks := tk' }) :
    wpAny (model W.prog w) (callerA.deeper (lawE sc L fa ccd)) (execs body (lawE sc L fa ccd)) Q E { s with heap := h, toks := tk } := by
  conv at hsc => rhs; whnf
  conv at hb => rhs; whnf
  subst hsc
  subst hb
  unfold lawE
  have hT' := hT
  obtain ⟨ht1, ⟨hs1, tkd1, nd1, hd1⟩, vs1, e1, hl1, hr1⟩ := hT'
  k_steps
  unfold Hold
  refine wpAny_call ?_
  k_dflt (refine' Ctr.use (c_sum ⟨_, _, _, _, _, _⟩ _ _ _ _ _ _ _ ws BB _ hT hna hnl hnv (fun w hw => ⟨hW.lw hw, hW.l3 hw⟩) hW.len (fun i hi => sumAt_ok hW hbl i hi) (fun i hi v hv => sumAt_find hW i hi hv) hs) ?B ?F ?X ?N ?T ?d ?u ?_)
  case B => k_asm
  case F => k_asm
  case X => k_asm
  case N => k_asm
  case T => k_asm
  case d => ktr_room
  case u => ktr_units
  intro v' n' h' tk' F' N' P'
  obtain ⟨rfl, hT3, hU⟩ := P'
  rw [sumAt_all hW] at hT3
  have hT4 : HT n' t d l ((ws.map (upF BB ws)).map rowS) := hT3
  clear hT3
  have hbv1 : A2 (BRow l n') bvs BB := hbv.mono fun v r hr => hr.mono fun p hp hn => hU p hp hn
  have hcl1 := hU _ hcl (ne_obj N hcl hl1 (.inr (by rw [hoc]; intro e; cases e)))
  have hna1 := hU _ hna hnl
  have hbk1 := hU _ hbk hbl2
  clear N hT hcl hna hbk hbv ht1 hd1 hl1 hr1 hU F
  have hz : ((ws.map (upF BB ws)).map rowS).length ≤ 500 := by rw [List.length_map, List.length_map]; have := hW.len; omega
  refine tokGen ?_
  intro kz2
  have hT' := hT4
  obtain ⟨ht1, ⟨hs1, tkd1, nd1, hd1⟩, vs1, e1, hl1, hr1⟩ := hT'
  k_steps
  unfold Hold
  refine wpAny_call ?_
  k_dflt (refine' Ctr.use (c_lh ⟨_, _, _, _, _, _⟩ _ _ _ _ _ _ hT4 hz) ?B ?F ?X ?N ?T ?d ?u ?_)
  case B => k_asm
  case F => k_asm
  case X => k_asm
  case N => k_asm
  case T => k_asm
  case d => ktr_room
  case u => ktr_units
  intro v' n2 h' tk' F' N' P'
  obtain ⟨rfl, tkl, hv9⟩ := P'
  rw [List.length_map, List.length_map, hwb, ← hbv1.length] at hv9
  subst hv9
  refine tokGen ?_
  intro kz3
  have mk6 : Mk 6 := .mk 6
  k_steps
  (rename Fr _ _ _ _ => lF'); (rename News _ _ _ _ => lN')
  refine lenN lN' hbk1 (by have := hbv1.length; omega) ?_
  k_steps
  · exact absurd rfl (show (bvs.length : Int) ≠ (bvs.length : Int) by assumption)
  unfold Hold
  (rename Fr _ _ _ _ => lF'); (rename News _ _ _ _ => lN')
  exact law5 W w fa ccd base h₀ L s Q E _ _ (by kernel_rfl) (by kernel_rfl) B X T _ _ _ oc bk t d l na kv sv nvs bvs nn eb BB ws hW hbl lF' lN' hoc hcl1 hna1 hnv hbk1 hbv1 hT4 hc hnl hbl2 hret
theorem law3 (W : Wd) (w : World) (fa : Addr) (ccd : Value) (base h₀ : Heap) (L : Addr) (s : Shared) (Q : Flow → Shared → Prop) (E : Value → Shared → Prop) (sc : Scope) (body : List Stmt) (hsc : sc = lawScope) (hb : body = lawBody.drop 3)
    (B : Below callerA base [] h₀) (X : (hd.heap_39 w.params).In h₀) (T : Top W.p W.loose W.mean W.mg W.mb h₀)
    (h : Heap) (tk : Tok) (led : Led) (oc : Obj) (bk t d l na  : Addr) (kv sv : Value) (nvs bvs : List Value) (nn eb : Nat) (BB : Book) (ws : List (List Nat)) (hW : WsOk BB ws) (hbl : BB.length ≤ 12)
    (F : Fr h₀ L h (fun y => if y = PySem.Str.ofString "names" then some (.ref na) else if y = PySem.Str.ofString "kept" then some (kv) else if y = PySem.Str.ofString "table" then some (.ref t) else if y = PySem.Str.ofString "script" then some (sv) else none)) (N : News h₀ L h led) (hoc : oc.data = .cell (some (.ref bk))) (hcl : (L + 1, oc) ∈ led)
    (hna : (na, PySem.W.listOf (List.toArray nvs) nn) ∈ led) (hnv : StrsAre nvs (ws.map S)) (hbk : (bk, PySem.W.listOf (List.toArray bvs) eb) ∈ led) (hbv : A2 (BRow l led) bvs BB)
    (hkv : kv = .bool true) (hwb : ws.length = BB.length) (hT : HT led t d l (BB.map rowS)) (hc : Closed ws) (hs : ∀ x ∈ ws, ∀ y ∈ ws, x.length < y.length → scVs (S x) (S y) = [Value.bool (sct x y), Value.bool (sct x y), Value.bool true]) (hnl : na ≠ l) (hbl2 : bk ≠ l)
    (hret : ∀ h' tk' m', Fr h₀ L h' m' → Q (.ret (.bool true)) { s with heap := h', toks := tk' }) :
    wpAny (model W.prog w) (callerA.deeper (lawE sc L fa ccd)) (execs body (lawE sc L fa ccd)) Q E { s with heap := h, toks := tk } := by
  conv at hsc => rhs; whnf
  conv at hb => rhs; whnf
  subst hsc
  subst hb
  unfold lawE
  subst hkv
  have hT' := hT
  obtain ⟨ht1, ⟨hs1, tkd1, nd1, hd1⟩, vs1, e1, hl1, hr1⟩ := hT'
  have hz : (BB.map rowS).length ≤ 500 := by rw [List.length_map]; omega
  k_steps
  unfold Hold
  refine wpAny_call ?_
  k_dflt (refine' Ctr.use (c_keys ⟨_, _, _, _, _, _⟩ _ _ _ _ _ _ hT hz) ?B ?F ?X ?N ?T ?d ?u ?_)
  case B => k_asm
  case F => k_asm
  case X => k_asm
  case N => k_asm
  case T => k_asm
  case d => ktr_room
  case u => ktr_units
  intro v' n' h' tk' F' N' P'
  obtain ⟨D1, ys1, rest, rfl, rfl, hsub, hK1⟩ := P'
  refine tokGen ?_
  intro kz1
  have mk6 : Mk 6 := .mk 6
  have hcl1 := hsub _ hcl
  have hbk1 := hsub _ hbk
  have hbv1 : A2 (BRow l rest) bvs BB := hbv.mono fun v r hr => hr.mono fun p hp _ => hsub p hp
  clear N F ht1 hd1 hl1 hr1
  k_steps
  unfold Hold
  (rename Fr _ _ _ _ => lF')
  k_dflt (refine' c_eval (emit := fun C D => emit1 _ (.ref D) (compEnvC _ _ C _)) lF' (fun C D I => turn_one _ _ _ _ _ _ _ _ _) ?hclos ?hcell ?hkind ?hnames ?hs ?_; (case hclos => with_unfolding_all rfl); (case hcell => decide); (case hkind => rfl); (case hnames => decide); (case hs => intro _; rfl))
  k_steps
  (try unfold Hold)
  (rename Fr _ _ _ _ => lF'); (rename News _ _ _ _ => lN')
  refine Or.inl (srcL0 (fun i ys => StrsAre ys ((BB.take i).map fun r => S r.1)) rfl lF' lN' (.tail _ hbk1) .nil ?_ ?_)
  · intro i v ys I oI C oC D m₂ h tk E' hv hJ hz off hne F₁ N₁ hN₁
    obtain ⟨r, hri, a7, n7, tk7, tx7, rfl, ha7, hm7⟩ := hbv1.get hv
    refine casg1 F₁ N₁ hN₁ hne off (by rfl) rfl fun oC' mN h' tk' hN₂ hkv hoth F₂ N₂ => ?_
    dsimp only
    refine tests0 ?_
    rw [if_pos rfl]
    refine emit_one hne ?_
    k_steps
    unfold Hold
    (rename News _ _ _ _ => lN7)
    refine item0 (v₀ := Value.str (S r.1) tk7) (v₁ := Value.int r.2 tx7) (lN7.isList (show (a7, PySem.W.listOf #[Value.str (S r.1) tk7, Value.int r.2 tx7] n7) ∈ _ from by (repeat (first | assumption | refine List.Mem.tail _ ?_)))) ?_
    k_steps
    exact elt_end (by k_asm) (by k_asm) off hN₂ trivial (by have h1 := strs_len hJ; rw [List.length_map, List.length_take] at h1; omega) ⟨rfl, by
      rw [take_one hri, List.map_append]
      exact strs_app hJ (.cons _ _ .nil)⟩
  · intro D ys h tk9 hJ hD F₁ N₁
    rw [hbv1.length, List.take_length] at hJ
    dsimp only
    refine tokGen ?_
    intro kz2
    k_steps
    unfold Hold
    (rename News _ _ _ _ => lN')
    have hK2 := a2_strs hK1
    have e9 : (BB.map rowS).map (·.1) = BB.map fun r => S r.1 := by rw [List.map_map]; rfl
    rw [e9] at hK2
    have hok : ∀ e ∈ (BB.map fun r => S r.1).map Dat.str, kqdOk 8 e = true := datStr_ok fun x hx => by
      obtain ⟨v, hv, rfl⟩ := List.mem_map.mp hx
      exact (hW.bok.lw v hv).clean
    refine kqd_ne (n₁ := []) (n₂ := []) (xs := ys1) (ys := ys) (ka := ys1.length) (kb := ys.length) lN' (.tail _ (.head _)) rfl rfl (datStrs hK2) (fun _ h => nomatch h) (.head _) rfl rfl (datStrs hJ) (fun _ h => nomatch h) hok hok (by ke_room) ?_
    rw [dec_yes rfl]
    (rename Fr _ _ _ _ => lF')
    k_steps
    unfold Hold
    have up : ∀ p ∈ led, p ∈ (D, lsO ys) :: (D1, lsO ys1) :: rest := fun p hp => .tail _ (.tail _ (hsub p hp))
    exact law4 W w fa ccd base h₀ L s Q E _ _ (by kernel_rfl) (by kernel_rfl) B X T _ _ _ oc bk t d l na (.bool true) sv nvs bvs nn eb BB ws hW hbl lF' lN' hoc (up _ hcl) (up _ hna) hnv (up _ hbk) (hbv.mono fun v r hr => hr.mono fun p hp _ => up p hp) hwb (hT.mono up) hc hs hnl hbl2 hret
theorem law2 (W : Wd) (w : World) (fa : Addr) (ccd : Value) (base h₀ : Heap) (L : Addr) (s : Shared) (Q : Flow → Shared → Prop) (E : Value → Shared → Prop) (sc : Scope) (body : List Stmt) (hsc : sc = lawScope) (hb : body = lawBody.drop 2)
    (B : Below callerA base [] h₀) (X : (hd.heap_39 w.params).In h₀) (T : Top W.p W.loose W.mean W.mg W.mb h₀)
    (h : Heap) (tk : Tok) (led : Led) (oc : Obj) (bk t d l : Addr) (kv sv : Value) (bvs : List Value) (eb : Nat) (BB : Book) (ws : List (List Nat)) (hW : WsOk BB ws) (hbl : BB.length ≤ 12)
    (F : Fr h₀ L h (fun y => if y = PySem.Str.ofString "kept" then some (kv) else if y = PySem.Str.ofString "table" then some (.ref t) else if y = PySem.Str.ofString "script" then some (sv) else none)) (N : News h₀ L h led) (hoc : oc.data = .cell (some (.ref bk))) (hcl : (L + 1, oc) ∈ led)
    (hbk : (bk, PySem.W.listOf (List.toArray bvs) eb) ∈ led) (hbv : A2 (BRow l led) bvs BB)
    (hwe : ws = wsOf BB) (hkv : kv = .bool true) (hwb : ws.length = BB.length) (hT : HT led t d l (BB.map rowS)) (hc : Closed ws) (hs : ∀ x ∈ ws, ∀ y ∈ ws, x.length < y.length → scVs (S x) (S y) = [Value.bool (sct x y), Value.bool (sct x y), Value.bool true]) (hbl2 : bk ≠ l)
    (hret : ∀ h' tk' m', Fr h₀ L h' m' → Q (.ret (.bool true)) { s with heap := h', toks := tk' }) :
    wpAny (model W.prog w) (callerA.deeper (lawE sc L fa ccd)) (execs body (lawE sc L fa ccd)) Q E { s with heap := h, toks := tk } := by
  conv at hsc => rhs; whnf
  conv at hb => rhs; whnf
  subst hsc
  subst hb
  unfold lawE
  subst hkv
  have hl9 : ∃ vs ep, (l, PySem.W.listOf (List.toArray vs) ep) ∈ led := by
    have h1 := hT.li
    obtain ⟨vs, ep, h2, _⟩ := h1
    exact ⟨vs, ep, h2⟩
  k_steps
  unfold Hold
  (rename Fr _ _ _ _ => lF')
  k_dflt (refine' c_assign (emit := fun C D => emit2 _ _ (.ref D) (compEnvC _ _ C _)) lF' rfl ?hsw (fun C D I => turn_two0 _ _ _ _ _ _ _ _ _ _ _ _) ?hclos ?hcell ?hkind ?hnames ?hs ?hy ?hp ?_; (case hsw => with_unfolding_all rfl); (case hclos => with_unfolding_all rfl); (case hcell => decide); (case hkind => rfl); (case hnames => decide); (case hs => intro _; rfl); (case hy => rfl); (case hp => rfl))
  k_steps
  (try unfold Hold)
  (rename Fr _ _ _ _ => lF'); (rename News _ _ _ _ => lN'); (rename IsRange _ _ _ _ _ _ _ _ => rgX)
  refine srcR (n := 4) (fun i ys => StrsAre ys ((namesTo BB i).map S)) rfl lF' lN' rgX (by decide) (by decide) .nil ?_ ?_
  · intro i tk₀ ys I oI C oC D m₂ h tk E' hi4 hJ hz5 off5 hne F₁ N₁ hN₁
    refine casg1 F₁ N₁ hN₁ hne off5 (by rfl) rfl fun oC' mN h' tk' hN₂ hkv hoth F₂ N₂ => ?_
    dsimp only
    refine tests0 ?_
    rw [if_pos rfl]
    refine emit_two (M := fun mm => mm (PySem.Str.ofString "size") = some (Value.int (3 + (i : Int) * -1) tk₀)) (l := bk) (vs := bvs) (nn := eb) (fun j ys => StrsAre ys ((namesIn BB i j).map S)) (fun _ _ => trivial) ?hh hne off5 F₂ N₂ hN₂ hkv ?hbm hz5 ?_ ?_ ?_ ?_ ?_
    case hh => rfl
    case hbm => repeat (first | assumption | refine List.Mem.tail _ ?_)
    · unfold namesIn
      rw [List.take_zero, List.filter_nil, List.map_nil, List.append_nil]; exact hJ
    · intro Q9 E9 hq
      k_steps
      exact hq
    · intro _; rfl
    · intro j v ys I2 oI2 oC3 m₃ h3 tk3 E3 hv hK hz3 off3 hne3 F₃ N₃ hN₃
      obtain ⟨r, hri, a7, n7, tk7, tx7, rfl, ha7, hm7⟩ := hbv.get hv
      have hrb := List.mem_of_getElem? hri
      have hr5 := hW.b3 r hrb
      have hr6 : (S r.1).length ≤ 100 := by rw [S_len]; omega
      have hKl := strs_len hK
      refine casg1 F₃ N₃ hN₃.1 hne3 off3 (by rfl) rfl fun oC' mN h' tk' hN₂ hkv hoth F₂ N₂ => ?_
      have hsz : mN (PySem.Str.ofString "size") = some (Value.int (3 + (i : Int) * -1) tk₀) := (hoth _ (by decide)).trans hN₃.2
      dsimp only
      refine tests1 ?_
      k_steps
      unfold Hold
      (rename News _ _ _ _ => lN7)
      refine item0 (v₀ := Value.str (S r.1) tk7) (v₁ := Value.int r.2 tx7) (lN7.isList (show (a7, PySem.W.listOf #[Value.str (S r.1) tk7, Value.int r.2 tx7] n7) ∈ _ from by (repeat (first | assumption | refine List.Mem.tail _ ?_)))) ?_
      k_steps
      · refine emit_one hne3 ?_
        k_steps
        unfold Hold
        (rename News _ _ _ _ => lN7)
        refine item0 (v₀ := Value.str (S r.1) tk7) (v₁ := Value.int r.2 tx7) (lN7.isList (show (a7, PySem.W.listOf #[Value.str (S r.1) tk7, Value.int r.2 tx7] n7) ∈ _ from by (repeat (first | assumption | refine List.Mem.tail _ ?_)))) ?_
        k_steps
        have hq : r.1.length = 3 - i := by have h9 := S_len r.1; omega
        exact elt_end (by k_asm) (by k_asm) off3 hN₂ hsz (by
          rw [List.length_map] at hKl
          unfold namesIn at hKl
          rw [List.length_append, List.length_map] at hKl
          have h1 := namesTo_len (b := BB) i (by omega)
          have h2 := List.length_filter_le (fun r : List Nat × Int => r.1.length == 3 - i) (BB.take j)
          rw [List.length_take] at h2
          have h3 : i * BB.length ≤ 4 * 12 := Nat.mul_le_mul (by omega) hbl
          omega) ⟨rfl, by
          show StrsAre _ ((namesTo BB i ++ ((BB.take (j + 1)).filter fun r => r.1.length == 3 - i).map (·.1)).map S)
          rw [take_one hri, List.filter_append, List.filter_cons_of_pos (p := fun r : List Nat × Int => r.1.length == 3 - i) (by rw [beq_iff_eq]; exact hq), List.filter_nil, List.map_append, List.map_append, List.map_append, ← List.append_assoc]
          unfold namesIn at hK
          rw [List.map_append] at hK
          exact strs_app hK (.cons _ _ .nil)⟩
      · have hq : ¬ r.1.length = 3 - i := by have h9 := S_len r.1; omega
        exact no_end (by k_asm) (by k_asm) off3 hN₂ hsz hz3 ⟨rfl, by
          show StrsAre _ ((namesTo BB i ++ ((BB.take (j + 1)).filter fun r => r.1.length == 3 - i).map (·.1)).map S)
          rw [take_one hri, List.filter_append, List.filter_cons_of_neg (p := fun r : List Nat × Int => r.1.length == 3 - i) (by rw [beq_iff_eq]; exact hq), List.filter_nil, List.append_nil]
          exact hK⟩
    · intro ys hK
      rw [hbv.length] at hK
      unfold namesIn at hK
      rw [List.take_length, namesTo_succ hi4] at hK
      exact ⟨rfl, hK⟩
  · intro D ys h tk9 hJ hD F₁ N₁
    have hJ2 : StrsAre ys (ws.map S) := by rw [hwe]; exact hJ
    obtain ⟨vs9, ep9, hl9⟩ := hl9
    intro h' tk' F' N'
    have up : ∀ p ∈ led, p ∈ (D, lsO ys) :: led := fun p hp => .tail _ hp
    exact law3 W w fa ccd base h₀ L s Q E _ _ (by kernel_rfl) (by kernel_rfl) B X T _ _ _ oc bk t d l D (.bool true) sv ys bvs ys.length eb BB ws hW hbl F' N' hoc (up _ hcl) (.head _) hJ2 (up _ hbk) (hbv.mono fun v r hr => hr.mono fun p hp _ => up p hp) rfl hwb (hT.mono up) hc hs (Ne.symm (hD _ hl9)) hbl2 hret
local macro_rules | `(tactic| walk_at "exec Assign") => `(tactic| refine Hold.m 8 (by with_reducible assumption) ?_)
theorem lawT : PySem.Challenge.rw_ti0060_01.Holds := by
  refine hd ?_
  w_on
  w_strict k_go0
  (rename Shared => sX)
  (rename List Int => ns)
  (rename ¬ _ < _ => hz63)
  (rename IntsAre _ _ => hIs)
  (rename Heap.IsList _ _ _ => hLs)
  rename_i sa svs sas ra1 w11 r01 hr1 hc1 K01 hD1 hh1 tkk1 F01 ob hob N01 X01
  replace F01 := Fr.eqm F01 (fun y => if y = PySem.Str.ofString "script" then some (Value.ref sa) else none) (by kernel_rfl)
  replace hob := hob.trans (congrArg Data.cell (a₂ := none) (by kernel_rfl))
  have hzN := Nat.le_of_not_lt (fun e => hz63 (Int.ofNat_lt.mpr e))
  have hSL : ScL _ _ _ := hLs
  refine q_gen ?_
  intro QQ EE hQQ
  k_steps
  unfold Hold
  (rename Fr _ _ _ _ => lF'); (rename News _ _ _ _ => lN')
  have hled : ∃ led : Led, led = _ ∧ News _ _ _ led := ⟨_, rfl, lN'⟩
  obtain ⟨led, hle, lN2⟩ := hled
  refine m_loop (σ := Unit) (vs := []) (nn := 0) (fun _ => []) [PySem.Str.ofString "k", PySem.Str.ofString "v"] (fun _ _ nx => nx = led) () rfl (by rw [hle]; k_mem) lF' lN2 (fun _ hp => nomatch hp) rfl ?_ ?_
  · intro i v c u nx I it h tk hv
    simp at hv
  · rintro c u nx h tk rfl hlx F₁ N₁
    rw [hle] at N₁
    clear hlx lN2 lN' hle
    dsimp only [kstB] at F₁ ⊢
    have mk8 : Mk 8 := .mk 8
    k_steps
    unfold Hold
    (rename Fr _ _ _ _ => lF9); (rename News _ _ _ _ => lN9)
    have hpk : ∃ (t d l : Addr) (hs : Int) (tk : Tok), News _ _ _ [(l, PySem.W.listOf (List.toArray []) 0), (t, instObj 242 d), (d, dictOf [⟨hs, Value.str (PySem.Str.ofString "_headers") tk, Value.ref l⟩] 1), ((sX.heap.objs.size + 1), ob)] ∧ Fr _ _ _ (fun y => if y = PySem.Str.ofString "table" then some (Value.ref t) else if y = PySem.Str.ofString "script" then some (Value.ref sa) else none) ∧ HT [(l, PySem.W.listOf (List.toArray []) 0), (t, instObj 242 d), (d, dictOf [⟨hs, Value.str (PySem.Str.ofString "_headers") tk, Value.ref l⟩] 1), ((sX.heap.objs.size + 1), ob)] t d l [] :=
      ⟨_, _, _, _, _, lN9, Fr.eqm lF9 _ (by kernel_rfl), ⟨.tail _ (.head _), ⟨_, _, _, .tail _ (.tail _ (.head _))⟩, [], 0, .head _, .nil⟩⟩
    obtain ⟨t, d, l, hs, tkh, lN10, lF10, hT0⟩ := hpk
    clear lN9 lF9
    try clear hD1
    try clear X01
    try clear N01
    refine tokGen ?_
    intro kz0
    clear mk8
    have mk7 : Mk 7 := .mk 7
    k_steps
    unfold Hold
    clear mk7
    refine wpAny_call ?_
    k_dflt (refine' CtrS.use (c_lay ⟨_, _, _, _, _, _⟩ _ _ _ _ hIs hzN _ _ _ _ hT0) ?hS ?B ?F ?X ?N ?T ?d ?u ?_)
    case hS => exact hSL
    case B => k_asm
    case F => k_asm
    case X => k_asm
    case N => k_asm
    case T => k_asm
    case d => ktr_room
    case u => ktr_units
    intro v' n' h' tk' F' N' P'
    obtain ⟨T1, nT, bk, bvs, eb, rest, rfl, rfl, hbl, offB, hbk, hT1, hU1⟩ := P'
    have hcbl : (sX.heap.objs.size + 1) ≠ l := ne_obj lN10 (.tail _ (.tail _ (.tail _ (.head _)))) (.head _) (.inr (by rw [hob]; intro e; cases e))
    have hcb1 : ((sX.heap.objs.size + 1), ob) ∈ rest := hU1 _ (.tail _ (.tail _ (.tail _ (.head _)))) hcbl
    have hTc : T1 ≠ (sX.heap.objs.size + 1) := ne_obj N' (.head _) (.tail _ (.tail _ hcb1)) (.inr (by rw [hob]; intro e; cases e))
    have hbc : bk ≠ (sX.heap.objs.size + 1) := ne_obj N' (.tail _ (.head _)) (.tail _ (.tail _ hcb1)) (.inr (by rw [hob]; intro e; cases e))
    have Nr : News _ _ _ rest := fun p hp => N' p (.tail _ (.tail _ hp))
    have N11 : News _ _ _ ((T1, tupO [Value.ref bk, Value.bool true] nT) :: (bk, PySem.W.listOf (List.toArray bvs) eb) :: ((sX.heap.objs.size + 1), ob) :: lessL [(sX.heap.objs.size + 1)] rest) := fun p hp => N' p (by
      rcases List.mem_cons.mp hp with rfl | hp
      · exact .head _
      rcases List.mem_cons.mp hp with rfl | hp
      · exact .tail _ (.head _)
      rcases List.mem_cons.mp hp with rfl | hp
      · exact .tail _ (.tail _ hcb1)
      · exact .tail _ (.tail _ (mem_lessL.mp hp).1))
    have hT2 : HT (lessL [(sX.heap.objs.size + 1)] rest) t d l _ := HT.lessL (as := [(sX.heap.objs.size + 1)]) Nr hT1 fun a9 ha9 => by
      rw [List.mem_singleton.mp ha9]
      exact ⟨hcbl, ob, hcb1, .inr ⟨_, hob⟩⟩
    have hbk2 : A2 (BRow l (lessL [(sX.heap.objs.size + 1)] rest)) bvs _ := hbk.mono fun v r hr => by
      obtain ⟨a9, n9, tk9, tx9, e9, hn9, hm9⟩ := hr
      refine ⟨a9, n9, tk9, tx9, e9, hn9, mem_lessL.mpr ⟨hm9, fun hq => ?_⟩⟩
      exact ne_obj Nr hm9 hcb1 (.inr (by rw [hob]; intro e; cases e)) (List.mem_singleton.mp hq)
    have offC : ∀ p ∈ lessL [(sX.heap.objs.size + 1)] rest, p.1 ≠ (sX.heap.objs.size + 1) := fun p hp e => (mem_lessL.mp hp).2 (e ▸ .head _)
    have offB2 : ∀ p ∈ lessL [(sX.heap.objs.size + 1)] rest, p.1 ≠ bk := fun p hp => offB p (mem_lessL.mp hp).1
    generalize hr2 : lessL [(sX.heap.objs.size + 1)] rest = rest2 at N11 hT2 hbk2 offC offB2
    have hTc2 := neN hTc
    have hbc2 := neN hbc
    clear N' Nr hT1 hbk hU1 hr2 hcb1 lN10 lF10 hT0
    have mk6 : Mk 6 := .mk 6
    refine tokGen ?_
    intro kz1
    k_steps
    unfold Hold
    (rename Fr _ _ _ _ => lF'); (rename News _ _ _ _ => lN')
    refine tokGen ?_
    intro kz2
    dsimp only
    (rename Obj => oX)
    refine' law2 ⟨_, _, _, _, _, _⟩ _ _ _ _ sX.heap sX.heap.objs.size sX _ _ _ _ ?hsc ?hb K01 ?X ?T _ _ _ oX bk t d l _ _ bvs eb (bookAt ns 12) (wsOf (bookAt ns 12)) (book_ws ns) (bookAt_len ns 12) lF' lN' ?hoc ?hcl ?hbk ?hbv rfl rfl (wsOf_len _ (book3 ns)) ?hTT (book_closed ns) (book_sct ns) ?hbl2 ?hret
    case hsc => kernel_rfl
    case hb => kernel_rfl
    case X => assumption
    case T => assumption
    case hcl => exact .tail _ (.tail _ (.head _))
    case hoc => assumption
    case hbk => exact .tail _ (.head _)
    case hbv => exact hbk2.mono fun v r hr => hr.mono fun p hp _ => .tail _ (.tail _ (.tail _ hp))
    case hTT => exact hT2.mono fun p hp => .tail _ (.tail _ (.tail _ hp))
    case hbl2 => exact hbl
    case hret =>
      intro h' tk' m' Fm
      refine hQQ _ _ ?_
      dsimp only
      close_w
end
end Mine
theorem PySem.Challenge.cw_ti0060_01_holds : PySem.Challenge.rw_ti0060_01.Holds :=
  Mine.lawT
