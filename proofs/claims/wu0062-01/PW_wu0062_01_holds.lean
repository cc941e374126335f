import PyProof.Rows.All
import Wide.All
import OpenK.AllK
import Wide.FinOn
import PySem.Challenge.RW_wu0062_01
open PySem PySem.W PyProof.Rows PySem.Calls
set_option Elab.async false
set_option compiler.extract_closed false
set_option maxRecDepth 100000
namespace Mine
/-- a place where the walk is to stand still -/
noncomputable def Hold (P : Prop) : Prop := P
theorem Hold.of {P : Prop} (h : Hold P) : P := h
theorem Hold.out {P : Prop} (h : P) : Hold P := h
/-- a mark: the walk is to stand still at this key -/
structure StopAt (k : String) : Prop
end Mine
local macro_rules | `(tactic| walk_at $k:str) => `(tactic| (k_here; (with_reducible rename Mine.StopAt $k => z9); refine Mine.Hold.of ?_))
namespace Mine
theorem leave_it {p : Prop} (h : p) (_ : h = h) : p := h

/- The head lays, for each constant that it makes, a quick twin with a proof of their equality, which grows with the square of the constant. Where the name of the twin is taken, the head does without it. The names below are taken for this alone: the compiled file stays small. -/
theorem hd0.tw10121685255857489051 : True := True.intro
theorem hd0.tw10299701338536963064 : True := True.intro
theorem hd0.tw10380885782726495096 : True := True.intro
theorem hd0.tw10566386253777865092 : True := True.intro
theorem hd0.tw10783142842391291914 : True := True.intro
theorem hd0.tw10950015098503667 : True := True.intro
theorem hd0.tw10992540420993761691 : True := True.intro
theorem hd0.tw11017282251955597146 : True := True.intro
theorem hd0.tw11119462899506271795 : True := True.intro
theorem hd0.tw11237116216057311745 : True := True.intro
theorem hd0.tw11249123509674406191 : True := True.intro
theorem hd0.tw11296317026604976579 : True := True.intro
theorem hd0.tw1144143789490447932 : True := True.intro
theorem hd0.tw11532703464391966607 : True := True.intro
theorem hd0.tw11573459230172034977 : True := True.intro
theorem hd0.tw11713894155979806921 : True := True.intro
theorem hd0.tw1176053044683504432 : True := True.intro
theorem hd0.tw1189054894648436682 : True := True.intro
theorem hd0.tw12003068471920674386 : True := True.intro
theorem hd0.tw12014350970595483805 : True := True.intro
theorem hd0.tw12143126679801333213 : True := True.intro
theorem hd0.tw12151319272224551882 : True := True.intro
theorem hd0.tw12281760368372384568 : True := True.intro
theorem hd0.tw12322794258418571040 : True := True.intro
theorem hd0.tw12607126878928665686 : True := True.intro
theorem hd0.tw12753557443971426460 : True := True.intro
theorem hd0.tw1277909223561221377 : True := True.intro
theorem hd0.tw12782906062734576069 : True := True.intro
theorem hd0.tw1280484567907817961 : True := True.intro
theorem hd0.tw12933712334415985070 : True := True.intro
theorem hd0.tw13008693350213662659 : True := True.intro
theorem hd0.tw13130983519766148356 : True := True.intro
theorem hd0.tw13333579491729134397 : True := True.intro
theorem hd0.tw13407135678810255579 : True := True.intro
theorem hd0.tw13555123127346715575 : True := True.intro
theorem hd0.tw1375262684347379207 : True := True.intro
theorem hd0.tw13800483763300068865 : True := True.intro
theorem hd0.tw13969635912206726010 : True := True.intro
theorem hd0.tw14133583787211923317 : True := True.intro
theorem hd0.tw14487139744964632365 : True := True.intro
theorem hd0.tw1450596053491749582 : True := True.intro
theorem hd0.tw14693713190999327560 : True := True.intro
theorem hd0.tw14751195016474515691 : True := True.intro
theorem hd0.tw14905831658627392255 : True := True.intro
theorem hd0.tw14943190808241422403 : True := True.intro
theorem hd0.tw15005460686244068168 : True := True.intro
theorem hd0.tw1500556042865797202 : True := True.intro
theorem hd0.tw15129630465062437422 : True := True.intro
theorem hd0.tw15134839469752433495 : True := True.intro
theorem hd0.tw15248397019474160181 : True := True.intro
theorem hd0.tw15389241651499710389 : True := True.intro
theorem hd0.tw15392901522555353865 : True := True.intro
theorem hd0.tw15728283652489511788 : True := True.intro
theorem hd0.tw15764005096722370900 : True := True.intro
theorem hd0.tw15883065056585263411 : True := True.intro
theorem hd0.tw15960652031959596643 : True := True.intro
theorem hd0.tw1601430817000102872 : True := True.intro
theorem hd0.tw16261526148008475707 : True := True.intro
theorem hd0.tw16269486087580614188 : True := True.intro
theorem hd0.tw16356745440860276358 : True := True.intro
theorem hd0.tw16427158468746511654 : True := True.intro
theorem hd0.tw16463593755247147200 : True := True.intro
theorem hd0.tw16641580050021189476 : True := True.intro
theorem hd0.tw1666546761208262739 : True := True.intro
theorem hd0.tw16761630300708760915 : True := True.intro
theorem hd0.tw16799398214865156367 : True := True.intro
theorem hd0.tw16871336801076393977 : True := True.intro
theorem hd0.tw16912591420726631485 : True := True.intro
theorem hd0.tw16945641315097055003 : True := True.intro
theorem hd0.tw17018938808108061734 : True := True.intro
theorem hd0.tw17043531303389682065 : True := True.intro
theorem hd0.tw17310554660023955137 : True := True.intro
theorem hd0.tw17312371794062739880 : True := True.intro
theorem hd0.tw17327177587765197472 : True := True.intro
theorem hd0.tw17524989057665669244 : True := True.intro
theorem hd0.tw17529906274252830889 : True := True.intro
theorem hd0.tw17564057355376757762 : True := True.intro
theorem hd0.tw17781076316100833504 : True := True.intro
theorem hd0.tw18078784917974338621 : True := True.intro
theorem hd0.tw1825929278167054478 : True := True.intro
theorem hd0.tw1830908064365640755 : True := True.intro
theorem hd0.tw18353199073579788961 : True := True.intro
theorem hd0.tw18416291653570748741 : True := True.intro
theorem hd0.tw1904828551985836751 : True := True.intro
theorem hd0.tw1958745321591857818 : True := True.intro
theorem hd0.tw1967676767884184963 : True := True.intro
theorem hd0.tw2329996539569397640 : True := True.intro
theorem hd0.tw2338661219346607142 : True := True.intro
theorem hd0.tw2510589942101626497 : True := True.intro
theorem hd0.tw2528569609078477137 : True := True.intro
theorem hd0.tw2735401655943086511 : True := True.intro
theorem hd0.tw2738655298557570645 : True := True.intro
theorem hd0.tw2784943137000400733 : True := True.intro
theorem hd0.tw2788084877741506761 : True := True.intro
theorem hd0.tw2827288076518157466 : True := True.intro
theorem hd0.tw2860899101727606338 : True := True.intro
theorem hd0.tw2872812170981058569 : True := True.intro
theorem hd0.tw2919583234286436895 : True := True.intro
theorem hd0.tw2920931838809075660 : True := True.intro
theorem hd0.tw3149825195295114616 : True := True.intro
theorem hd0.tw3198289665323921157 : True := True.intro
theorem hd0.tw3361144743427637995 : True := True.intro
theorem hd0.tw3404567561779638057 : True := True.intro
theorem hd0.tw3532348270762500020 : True := True.intro
theorem hd0.tw3640104315449746964 : True := True.intro
theorem hd0.tw3687058039446345037 : True := True.intro
theorem hd0.tw3687841886611527418 : True := True.intro
theorem hd0.tw3771890792122485445 : True := True.intro
theorem hd0.tw3801753739915242578 : True := True.intro
theorem hd0.tw3968613266054771741 : True := True.intro
theorem hd0.tw4509526690794525690 : True := True.intro
theorem hd0.tw4550181199752876123 : True := True.intro
theorem hd0.tw4562695010225406382 : True := True.intro
theorem hd0.tw4582842965409387306 : True := True.intro
theorem hd0.tw4632445285567490079 : True := True.intro
theorem hd0.tw4663038693165263023 : True := True.intro
theorem hd0.tw474916242839058 : True := True.intro
theorem hd0.tw4821400460066258437 : True := True.intro
theorem hd0.tw4837166207565515596 : True := True.intro
theorem hd0.tw4863585562482331352 : True := True.intro
theorem hd0.tw4958161400511572651 : True := True.intro
theorem hd0.tw4964845553990846222 : True := True.intro
theorem hd0.tw4983706646000405154 : True := True.intro
theorem hd0.tw5145303074121384310 : True := True.intro
theorem hd0.tw5173078720295292078 : True := True.intro
theorem hd0.tw5241237156730879160 : True := True.intro
theorem hd0.tw5428070130070536091 : True := True.intro
theorem hd0.tw5484117130419629514 : True := True.intro
theorem hd0.tw5487660210450000937 : True := True.intro
theorem hd0.tw5687857590865557158 : True := True.intro
theorem hd0.tw5721069425725921740 : True := True.intro
theorem hd0.tw5851460317537991607 : True := True.intro
theorem hd0.tw5873444610005042059 : True := True.intro
theorem hd0.tw6014977574509414443 : True := True.intro
theorem hd0.tw6302951332473218875 : True := True.intro
theorem hd0.tw6414887533649200790 : True := True.intro
theorem hd0.tw6518245875282815045 : True := True.intro
theorem hd0.tw6595308224653121280 : True := True.intro
theorem hd0.tw6643238626148955698 : True := True.intro
theorem hd0.tw6649401386675659039 : True := True.intro
theorem hd0.tw6865537962405302380 : True := True.intro
theorem hd0.tw7079748053240274874 : True := True.intro
theorem hd0.tw7237386881181516464 : True := True.intro
theorem hd0.tw7415385052924869713 : True := True.intro
theorem hd0.tw7493280530175958909 : True := True.intro
theorem hd0.tw7609028302745033977 : True := True.intro
theorem hd0.tw7614193382627860833 : True := True.intro
theorem hd0.tw7895234915340226546 : True := True.intro
theorem hd0.tw7970355855660570498 : True := True.intro
theorem hd0.tw8052174542758884176 : True := True.intro
theorem hd0.tw8066634004926191738 : True := True.intro
theorem hd0.tw8412496611741829076 : True := True.intro
theorem hd0.tw8428931017558521197 : True := True.intro
theorem hd0.tw8437564595239901655 : True := True.intro
theorem hd0.tw8464541185895156213 : True := True.intro
theorem hd0.tw866052350247734544 : True := True.intro
theorem hd0.tw8907265306392417265 : True := True.intro
theorem hd0.tw8913561755670897571 : True := True.intro
theorem hd0.tw9001251600818444179 : True := True.intro
theorem hd0.tw9056650140919055547 : True := True.intro
theorem hd0.tw906593335335552129 : True := True.intro
theorem hd0.tw9126222054196385890 : True := True.intro
theorem hd0.tw9357527945781147946 : True := True.intro
theorem hd0.tw9563851893216371074 : True := True.intro
theorem hd0.tw9732626570726175972 : True := True.intro
theorem hd0.tw9802666196054454208 : True := True.intro
theorem hd0.tw9846644877726163059 : True := True.intro
theorem hd0.tw9909755303478139644 : True := True.intro
set_option Elab.async true in
set_option maxHeartbeats 8000000 in
/-- the head, run for its table alone: it says nothing -/
theorem hd0 : True := by
  refine (?f : PySem.Challenge.rw_wu0062_01.Holds → True) ?h
  case f => exact fun _ => True.intro
  w_on
  o_law
  k_head
  case hw => w_witness2
  solve_by_elim (newGoals := .nonDependentOnly) only [rfl, leave_it]
end Mine
namespace Mine
noncomputable abbrev tupO (vs : List Value) : Obj := { cls := .type "tuple", data := .seq vs.toArray }
noncomputable abbrev lstO (vs : List Value) (n : Nat) : Obj := { cls := .type "list", data := .seq vs.toArray n }
/-- what a def hands back, whoever calls it: the caller's frame and ledger stand, `extra` is new -/
noncomputable def Claim (w : World) (k : Nat) (f : Addr) (args : List Value) (kw : List (Str × Value)) (news : List (Addr × Obj)) (Ret : (Value → List (Addr × Obj) → Prop)) : Prop :=
  ∀ (dp un : Nat) (gd : Option (List Code)) (cn : Str) (cs : Scope) (a : Addr) (ccd : Value) (cl : List (Str × Addr)) (outer : List Env) (A₀ : Around) (base h₀ : Heap) (L : Addr) (m : Str → Option Value) (s : Shared) (Q E : Value → Shared → Prop)
    (p : Program) (loose : List Str) (mean : ExcName → Option Value) (mg mb : Str → Option Value),
    Below A₀ base outer h₀ → Fr h₀ L s.heap m → (hd0.heap_1_39 w.params).In h₀ → News h₀ L s.heap news → Top p loose mean mg mb h₀ → cs.kind = .function →
    dp + k < recursionLimit → un + 20 * k < cLine →
    (∀ v news' h' tk', Ret v news' → Fr h₀ L h' m → News h₀ L h' news' → Q v { s with heap := h', toks := tk' }) →
      wpAny (model PySem.Challenge.rw_wu0062_01.row.prog w) (ktrTop dp un gd cn cs L a ccd cl outer) (call (.ref f) args kw) Q E s
theorem Claim.use {w : World} {k : Nat} {f : Addr} {args : List Value} {kw : List (Str × Value)} {news : List (Addr × Obj)} {Ret : (Value → List (Addr × Obj) → Prop)} (C : Claim w k f args kw news Ret)
    {dp un : Nat} {gd : Option (List Code)} {cn : Str} {cs : Scope} {a : Addr} {ccd : Value} {cl : List (Str × Addr)} {outer : List Env} {A₀ : Around} {base h₀ : Heap} {L : Addr} {m : Str → Option Value} {s : Shared} {Q E : Value → Shared → Prop}
    {p : Program} {loose : List Str} {mean : ExcName → Option Value} {mg mb : Str → Option Value}
    (B : Below A₀ base outer h₀) (F : Fr h₀ L s.heap m) (X : (hd0.heap_1_39 w.params).In h₀) (N : News h₀ L s.heap news) (T : Top p loose mean mg mb h₀) (hk : cs.kind = .function)
    (hd : dp + k < recursionLimit) (hu : un + 20 * k < cLine)
    (ret : ∀ v news' h' tk', Ret v news' → Fr h₀ L h' m → News h₀ L h' news' → Q v { s with heap := h', toks := tk' }) :
      wpAny (model PySem.Challenge.rw_wu0062_01.row.prog w) (ktrTop dp un gd cn cs L a ccd cl outer) (call (.ref f) args kw) Q E s :=
  C dp un gd cn cs a ccd cl outer A₀ base h₀ L m s Q E p loose mean mg mb B F X N T hk hd hu ret
/-- as Claim, from a state whose tokens have come to n₀ -/
noncomputable def ClaimT (w : World) (n₀ : Nat) (k : Nat) (f : Addr) (args : List Value) (kw : List (Str × Value)) (news : List (Addr × Obj)) (Ret : (Value → List (Addr × Obj) → Prop)) : Prop :=
  ∀ (dp un : Nat) (gd : Option (List Code)) (cn : Str) (cs : Scope) (a : Addr) (ccd : Value) (cl : List (Str × Addr)) (outer : List Env) (A₀ : Around) (base h₀ : Heap) (L : Addr) (m : Str → Option Value) (s : Shared) (Q E : Value → Shared → Prop)
    (p : Program) (loose : List Str) (mean : ExcName → Option Value) (mg mb : Str → Option Value),
    Below A₀ base outer h₀ → Fr h₀ L s.heap m → (hd0.heap_1_39 w.params).In h₀ → News h₀ L s.heap news → Top p loose mean mg mb h₀ → cs.kind = .function →
    dp + k < recursionLimit → un + 20 * k < cLine → n₀ ≤ s.toks →
    (∀ v news' h' tk', Ret v news' → Fr h₀ L h' m → News h₀ L h' news' → Q v { s with heap := h', toks := tk' }) →
      wpAny (model PySem.Challenge.rw_wu0062_01.row.prog w) (ktrTop dp un gd cn cs L a ccd cl outer) (call (.ref f) args kw) Q E s
theorem ClaimT.use {w : World} {n₀ k : Nat} {f : Addr} {args : List Value} {kw : List (Str × Value)} {news : List (Addr × Obj)} {Ret : (Value → List (Addr × Obj) → Prop)} (C : ClaimT w n₀ k f args kw news Ret)
    {dp un : Nat} {gd : Option (List Code)} {cn : Str} {cs : Scope} {a : Addr} {ccd : Value} {cl : List (Str × Addr)} {outer : List Env} {A₀ : Around} {base h₀ : Heap} {L : Addr} {m : Str → Option Value} {s : Shared} {Q E : Value → Shared → Prop}
    {p : Program} {loose : List Str} {mean : ExcName → Option Value} {mg mb : Str → Option Value} {n₁ : Nat}
    (B : Below A₀ base outer h₀) (F : Fr h₀ L s.heap m) (X : (hd0.heap_1_39 w.params).In h₀) (N : News h₀ L s.heap news) (T : Top p loose mean mg mb h₀) (hk : cs.kind = .function)
    (hd : dp + k < recursionLimit) (hu : un + 20 * k < cLine) (hn : n₀ ≤ s.toks) (hn1 : n₁ ≤ s.toks)
    (ret : ∀ v news' h' tk', n₁ ≤ tk' → Ret v news' → Fr h₀ L h' m → News h₀ L h' news' → Q v { s with heap := h', toks := tk' }) :
      wpAny (model PySem.Challenge.rw_wu0062_01.row.prog w) (ktrTop dp un gd cn cs L a ccd cl outer) (call (.ref f) args kw) Q E s :=
  wpAny_with_toks (n := n₁) hn1 (C dp un gd cn cs a ccd cl outer A₀ base h₀ L m s _ _ p loose mean mg mb B F X N T hk hd hu hn (fun v news' h' tk' r F' N' htk => ret v news' h' tk' htk r F' N'))
theorem Claim.toT {w : World} {n₀ k : Nat} {f : Addr} {args : List Value} {kw : List (Str × Value)} {news : List (Addr × Obj)} {Ret : (Value → List (Addr × Obj) → Prop)} (C : Claim w k f args kw news Ret) : ClaimT w n₀ k f args kw news Ret :=
  fun dp un gd cn cs a ccd cl outer A₀ base h₀ L m s Q E p loose mean mg mb B F X N T hk hd hu _ ret => C dp un gd cn cs a ccd cl outer A₀ base h₀ L m s Q E p loose mean mg mb B F X N T hk hd hu ret
/-- what every call asks of the place where it stands -/
structure Site (w : World) (A₀ : Around) (base h₀ : Heap) (outer : List Env) (L : Addr) (h : Heap) (m : Str → Option Value) (news : List (Addr × Obj)) (p : Program) (loose : List Str) (mean : ExcName → Option Value) (mg mb : Str → Option Value) (cs : Scope) (dp un k : Nat) : Prop where
  B : Below A₀ base outer h₀
  F : Fr h₀ L h m
  X : (hd0.heap_1_39 w.params).In h₀
  N : News h₀ L h news
  T : Top p loose mean mg mb h₀
  hk : cs.kind = .function
  hd : dp + k < recursionLimit
  hu : un + 20 * k < cLine
section
variable {w : World} {k : Nat} {f : Addr} {args : List Value} {kw : List (Str × Value)} {news : List (Addr × Obj)} {Ret : (Value → List (Addr × Obj) → Prop)}
  {dp un : Nat} {gd : Option (List Code)} {cn : Str} {cs : Scope} {a : Addr} {ccd : Value} {cl : List (Str × Addr)} {outer : List Env} {A₀ : Around} {base h₀ : Heap} {L : Addr} {m : Str → Option Value} {s : Shared} {Q E : Value → Shared → Prop}
  {p : Program} {loose : List Str} {mean : ExcName → Option Value} {mg mb : Str → Option Value}
theorem Claim.useS (S : Site w A₀ base h₀ outer L s.heap m news p loose mean mg mb cs dp un k) (C : Claim w k f args kw news Ret)
    (ret : ∀ v news' h' tk', Ret v news' → Fr h₀ L h' m → News h₀ L h' news' → Q v { s with heap := h', toks := tk' }) :
      wpAny (model PySem.Challenge.rw_wu0062_01.row.prog w) (ktrTop dp un gd cn cs L a ccd cl outer) (call (.ref f) args kw) Q E s :=
  C.use S.B S.F S.X S.N S.T S.hk S.hd S.hu ret
theorem Claim.use0 {V : Value} {nw : List (Addr × Obj)} (S : Site w A₀ base h₀ outer L s.heap m news p loose mean mg mb cs dp un k) (C : Claim w k f args kw news (fun v ex => v = V ∧ ex = nw))
    (ret : ∀ h' tk', Fr h₀ L h' m → News h₀ L h' nw → Q V { s with heap := h', toks := tk' }) :
      wpAny (model PySem.Challenge.rw_wu0062_01.row.prog w) (ktrTop dp un gd cn cs L a ccd cl outer) (call (.ref f) args kw) Q E s :=
  Claim.useS S C fun _ _ _ _ r F N => by obtain ⟨rfl, rfl⟩ := r; exact ret _ _ F N
theorem Claim.use1 {α : Type} {V : α → Value} {nw : α → List (Addr × Obj)} (S : Site w A₀ base h₀ outer L s.heap m news p loose mean mg mb cs dp un k) (C : Claim w k f args kw news (fun v ex => ∃ t, v = V t ∧ ex = nw t))
    (ret : ∀ t h' tk', Fr h₀ L h' m → News h₀ L h' (nw t) → Q (V t) { s with heap := h', toks := tk' }) :
      wpAny (model PySem.Challenge.rw_wu0062_01.row.prog w) (ktrTop dp un gd cn cs L a ccd cl outer) (call (.ref f) args kw) Q E s :=
  Claim.useS S C fun _ _ _ _ r F N => by obtain ⟨_, rfl, rfl⟩ := r; exact ret _ _ _ F N
theorem Claim.use2 {α β : Type} {V : α → β → Value} {nw : α → β → List (Addr × Obj)} (S : Site w A₀ base h₀ outer L s.heap m news p loose mean mg mb cs dp un k) (C : Claim w k f args kw news (fun v ex => ∃ t b, v = V t b ∧ ex = nw t b))
    (ret : ∀ t b h' tk', Fr h₀ L h' m → News h₀ L h' (nw t b) → Q (V t b) { s with heap := h', toks := tk' }) :
      wpAny (model PySem.Challenge.rw_wu0062_01.row.prog w) (ktrTop dp un gd cn cs L a ccd cl outer) (call (.ref f) args kw) Q E s :=
  Claim.useS S C fun _ _ _ _ r F N => by obtain ⟨_, _, rfl, rfl⟩ := r; exact ret _ _ _ _ F N
theorem Claim.use3 {α β : Type} {V : α → β → Value} {nw : α → β → List (Addr × Obj)} {H : α → β → Prop} (S : Site w A₀ base h₀ outer L s.heap m news p loose mean mg mb cs dp un k) (C : Claim w k f args kw news (fun v ex => ∃ t b, v = V t b ∧ ex = nw t b ∧ H t b))
    (ret : ∀ t b, H t b → ∀ h' tk', Fr h₀ L h' m → News h₀ L h' (nw t b) → Q (V t b) { s with heap := h', toks := tk' }) :
      wpAny (model PySem.Challenge.rw_wu0062_01.row.prog w) (ktrTop dp un gd cn cs L a ccd cl outer) (call (.ref f) args kw) Q E s :=
  Claim.useS S C fun _ _ _ _ r F N => by obtain ⟨_, _, rfl, rfl, hb⟩ := r; exact ret _ _ hb _ _ F N
theorem ClaimT.useS {n₀ n₁ : Nat} (S : Site w A₀ base h₀ outer L s.heap m news p loose mean mg mb cs dp un k) (C : ClaimT w n₀ k f args kw news Ret) (hn : n₀ ≤ s.toks) (hn1 : n₁ ≤ s.toks)
    (ret : ∀ v news' h' tk', n₁ ≤ tk' → Ret v news' → Fr h₀ L h' m → News h₀ L h' news' → Q v { s with heap := h', toks := tk' }) :
      wpAny (model PySem.Challenge.rw_wu0062_01.row.prog w) (ktrTop dp un gd cn cs L a ccd cl outer) (call (.ref f) args kw) Q E s :=
  C.use S.B S.F S.X S.N S.T S.hk S.hd S.hu hn hn1 ret
end
theorem news_sub {h₀ h : Heap} {L : Addr} {news news' : List (Addr × Obj)} (N : News h₀ L h news') (hs : ∀ p ∈ news, p ∈ news') : News h₀ L h news := fun p hp => N p (hs p hp)

theorem room1 {dp k k' : Nat} (h : dp + k < recursionLimit) (e : k' + 1 ≤ k) : dp + 1 + k' < recursionLimit := Nat.lt_of_le_of_lt (by lia) h
theorem units1 {un k k' : Nat} (h : un + 20 * k < cLine) (e : 3 + 20 * k' ≤ 20 * k) : un + 3 + 20 * k' < cLine := Nat.lt_of_le_of_lt (by lia) h
theorem gen_tok0 {α : Type} {M : Model} {A : Around} {x : Sem α} {Q : α → Shared → Prop} {E : Value → Shared → Prop} {hp : Heap} {gs : Array GenState} {dr : Drawn} {t0 : Nat} {os : OsState} (h : ∀ tk, wpAny M A x Q E ⟨hp, gs, dr, tk, os⟩) : wpAny M A x Q E ⟨hp, gs, dr, t0, os⟩ := h t0
theorem open_eq {α β : Type} {f : α → β} {P : α → Prop} {n : β} {G : β → Prop} (h : ∃ T, n = f T ∧ P T) (k : ∀ T, P T → G (f T)) : G n := by obtain ⟨T, rfl, p⟩ := h; exact k T p
theorem open_e {α β : Type} {f : α → β} {n : β} {G : β → Prop} (h : ∃ T, n = f T) (k : ∀ T, G (f T)) : G n := by obtain ⟨T, rfl⟩ := h; exact k T
theorem open_e2 {α γ β : Type} {f : α → γ → β} {n : β} {G : β → Prop} (h : ∃ T U, n = f T U) (k : ∀ T U, G (f T U)) : G n := by obtain ⟨T, U, rfl⟩ := h; exact k T U
theorem open_eq3 {α γ δ β : Type} {f : α → γ → δ → β} {P : α → γ → δ → Prop} {n : β} {G : β → Prop} (h : ∃ T U V, n = f T U V ∧ P T U V) (k : ∀ T U V, P T U V → G (f T U V)) : G n := by obtain ⟨T, U, V, rfl, p⟩ := h; exact k T U V p
theorem open_c {β : Type} {c n : β} {P : Prop} {G : β → Prop} (h : n = c ∧ P) (k : P → G c) : G n := by obtain ⟨rfl, p⟩ := h; exact k p
theorem open_vw {α β γ : Type} {V : α → β} {X : α → γ} {v : β} {x : γ} {G : β → γ → Prop} (h : ∃ t, v = V t ∧ x = X t) (k : ∀ t, G (V t) (X t)) : G v x := by obtain ⟨t, rfl, rfl⟩ := h; exact k t
theorem open_vw4 {a1 a2 a3 a4 β γ : Type} {V : a1 → a2 → a3 → a4 → β} {X : a1 → a2 → a3 → a4 → γ} {P : a1 → a2 → a3 → a4 → Prop} {v : β} {x : γ} {G : β → γ → Prop} (h : ∃ a b c d, v = V a b c d ∧ x = X a b c d ∧ P a b c d) (k : ∀ a b c d, P a b c d → G (V a b c d) (X a b c d)) : G v x := by obtain ⟨a, b, c, d, rfl, rfl, p⟩ := h; exact k a b c d p
theorem open_xy7 {a1 a2 a3 a4 a5 a6 a7 β γ : Type} {V : a1 → a2 → a3 → a4 → a5 → a6 → a7 → β} {X : a1 → a2 → a3 → a4 → a5 → a6 → a7 → γ} {P : a1 → a2 → a3 → a4 → a5 → a6 → a7 → Prop} {v : β} {x : γ} {G : β → γ → Prop} (h : ∃ a b c d e f g, v = V a b c d e f g ∧ x = X a b c d e f g ∧ P a b c d e f g) (k : ∀ a b c d e f g, P a b c d e f g → G (V a b c d e f g) (X a b c d e f g)) : G v x := by obtain ⟨a, b, c, d, e, f, g, rfl, rfl, p⟩ := h; exact k a b c d e f g p
/-- a def stands at `f` -/
noncomputable def FnAt (f : Addr) (h : Heap) : Prop := ∃ fo fd, h.get? f = some fo ∧ fo.data = .func fd
theorem FnAt.keeper {M : Model} {f : Addr} (h : Heap) (e : FnAt f h) : ∃ k, (k = Keeper.frame ∨ k = Keeper.machine ∨ k = Keeper.boundFrame) ∧ Looks M h (keeperOf (.ref f)) k := by
  obtain ⟨⟨c, d, dt, sl⟩, fd, e, rfl⟩ := e
  exact ⟨.frame, .inl rfl, (Looks.ld (part := none) e).andThen .now⟩
theorem callWith_P {M : Model} {A : Around} {E : Value → Shared → Prop} {s : Shared} {env : Env} {pos : Pos} {f : Addr} {first : List Value} {Q : Value → Shared → Prop} {e : Expr} {rest : List Expr}
    (h : wpAny M A (spliced (backTo pos (starEach (e :: rest) env))) (fun vs s₁ => FnAt f s₁.heap ∧ wpAny M A (call (.ref f) (first ++ vs)) Q E s₁) E s)
    (he : starEach (e :: rest) env = (false, eval e env) :: starEach rest env := by rfl) (hplain : (backTo pos (starEach rest env)).any (·.1) = false := by rfl) :
    wpAny M A (callWith pos (.ref f) first (backTo pos (starEach (e :: rest) env)) []) Q E s := by
  rw [he] at h ⊢
  exact callWith_of (by show ((false || (backTo pos (starEach rest env)).any (·.1)) || false) = false; rw [hplain]; rfl) FnAt.keeper (evalArgs_plain h)
/-- all items are texts -/
noncomputable def Strs (vs : List Value) : Prop := ∀ v ∈ vs, ∃ r t, v = .str r t
theorem isList_of {h₀ h : Heap} {L l : Addr} {news : List (Addr × Obj)} {vs : List Value} {nl : Nat} (N : News h₀ L h news) (hm : (l, lstO vs nl) ∈ news) : h.IsList l vs.toArray := ⟨_, (N _ hm).1, rfl, _, rfl⟩
theorem item_any {prog : Program} {w : World} {A : Around} {E : Value → Shared → Prop} {s : Shared} {value slice : PySem.Expr} {h₀ : Heap} {L l : Addr} {news : List (Addr × Obj)} {vs : List Value} {nl : Nat} {k : Int} {u : Tok} {Q : Value → Shared → Prop}
    (N : News h₀ L s.heap news) (hm : (l, lstO vs nl) ∈ news) (h0 : 0 ≤ k) (h1 : k < vs.length) (hsz : vs.length ≤ 100) (h : ∀ v, vs[k.toNat]? = some v → Q v s)
    (hs : subscripted slice false (.ref l) (.int k u) = operate [.ref l, .int k u] (getItem (.ref l) (.int k u)) := by with_unfolding_all rfl) :
    wpAny (model prog w) A (subscriptTail value slice (.ref l) (.int k u)) Q E s := by
  have hl := isList_of N hm
  obtain ⟨v, hv⟩ : ∃ v, vs[k.toNat]? = some v := ⟨_, List.getElem?_eq_getElem (by lia)⟩
  exact tail_any hl.typeIs slot_list_getitem.lookup (wpAny_getItem_list hl h0 (by lia) (by simpa using hv) (h v hv)) hs
theorem item_str {prog : Program} {w : World} {A : Around} {E : Value → Shared → Prop} {s : Shared} {value slice : PySem.Expr} {h₀ : Heap} {L l : Addr} {news : List (Addr × Obj)} {vs : List Value} {nl : Nat} {k : Int} {u : Tok} {Q : Value → Shared → Prop}
    (N : News h₀ L s.heap news) (hm : (l, lstO vs nl) ∈ news) (S : Strs vs) (h0 : 0 ≤ k) (h1 : k < vs.length) (hsz : vs.length ≤ 100) (h : ∀ r t, vs[k.toNat]? = some (.str r t) → Q (.str r t) s)
    (hs : subscripted slice false (.ref l) (.int k u) = operate [.ref l, .int k u] (getItem (.ref l) (.int k u)) := by with_unfolding_all rfl) :
    wpAny (model prog w) A (subscriptTail value slice (.ref l) (.int k u)) Q E s :=
  item_any N hm h0 h1 hsz (fun v hv => by
    obtain ⟨r, t, rfl⟩ := S v (List.mem_of_getElem? hv)
    exact h r t hv) hs
theorem len_any {prog : Program} {w : World} {A : Around} {E : Value → Shared → Prop} {s : Shared} {h₀ : Heap} {L l : Addr} {news : List (Addr × Obj)} {vs : List Value} {nl : Nat} {Q : Value → Shared → Prop}
    (N : News h₀ L s.heap news) (hm : (l, lstO vs nl) ∈ news) (hsz : vs.length ≤ 1000) (h : Q (.int (vs.length : Int) (s.toks + 1)) { s with toks := s.toks + 1 + 1 }) :
    wpAny (model prog w) A (call (.builtin "len") [.ref l]) Q E s :=
  len_list (isList_of N hm) (by rw [List.size_toArray]; lia) (by rw [List.size_toArray]; exact h)
theorem half_eq (a : Int) : a.fdiv 2 = a / 2 := Int.fdiv_eq_ediv_of_nonneg a (by decide)
theorem half_lo {a b : Int} (h0 : 0 ≤ a) (h : a < b) : 0 ≤ (a + b).fdiv 2 := by rw [half_eq]; lia
theorem half_hi {a b n : Int} (h : a < b) (h1 : b ≤ n) : (a + b).fdiv 2 < n := by rw [half_eq]; lia
/-- the three places of a reply -/
noncomputable abbrev openAt (r : Str) : Int := Txt.find r (Str.ofString "(")
noncomputable abbrev shutAt (r : Str) : Int := Txt.find3 r (Str.ofString ")") (Txt.find r (Str.ofString "(") + 1)
noncomputable abbrev markOf (r : Str) : Str := Txt.item r (Txt.find r (Str.ofString "(") + 1)
noncomputable abbrev partsOf (r : Str) : List Str := Txt.split (Txt.slice r (some (Txt.find r (Str.ofString "(") + 1)) (some (Txt.find3 r (Str.ofString ")") (Txt.find r (Str.ofString "(") + 1)))) (Txt.item r (Txt.find r (Str.ofString "(") + 1))
structure Good (r : Str) (port : Int) : Prop where
  len : r.length ≤ 200
  h3 : Txt.slice r none (some 3) = Str.ofString "229"
  l0 : 0 ≤ Txt.find r (Str.ofString "(")
  q0 : Txt.find r (Str.ofString "(") + 1 ≤ Txt.find3 r (Str.ofString ")") (Txt.find r (Str.ofString "(") + 1)
  q1 : Txt.find3 r (Str.ofString ")") (Txt.find r (Str.ofString "(") + 1) < r.length
  mm : Txt.item r (Txt.find r (Str.ofString "(") + 1) = Txt.item r (Txt.find3 r (Str.ofString ")") (Txt.find r (Str.ofString "(") + 1) - 1)
  five : (partsOf r).length = 5
  num : ∀ y, (partsOf r)[Int.toNat 3]? = some y → PySem.intText? y = some port ∧ y.length ≤ 640
theorem parts_len {r : Str} {l : List (Str × Tok)} (h : List.map (fun x => x.fst) l = partsOf r) (h5 : (partsOf r).length = 5) : (l.length : Int) = 5 := by
  rw [← h, List.length_map] at h5
  lia
end Mine
namespace Mine
theorem bne_no {a b : Str} (h : a = b) : (a != b) = false := by subst h; simp
local macro_rules | `(tactic| walk_at "ite") => `(tactic| (k_here; refine ite_neg (not_not_intro (parts_len (by with_reducible assumption) (by with_reducible assumption))) ?_; walk_say "FIVE"))
theorem num_read {r : Str} {port : Int} {l : List (Str × Tok)} {y : Str} (h : List.map (fun x => x.fst) l = partsOf r) (hn : ∀ y, (partsOf r)[Int.toNat 3]? = some y → PySem.intText? y = some port ∧ y.length ≤ 640)
   (hy : (List.map (fun x => x.fst) l)[Int.toNat 3]? = some y) : PySem.intText? y = some port ∧ y.length ≤ 640 := hn y (by rw [← h]; exact hy)
local macro_rules | `(tactic| walk_at "call type:int") => `(tactic| (k_here; (have hnr := num_read (by assumption) (by assumption) (by assumption)); refine KIN.call_text hnr.1 hnr.2 ?_; clear hnr))
theorem notn5 {n : Nat} (h : (n : Int) = 5) : ¬ ((n : Int) ≠ 5) := fun q => q h
set_option maxHeartbeats 4000000 in
theorem parse229_ok (w : World) (r : Str) (port : Int) (t : Tok) (peer : Addr) (x y : Value) (news : List (Addr × Obj)) (hm : (peer, tupO [x, y]) ∈ news) (g : Good r port) :
    Claim w 1 94 [.str r t, .ref peer] [] news (fun v nw => ∃ T t', v = .ref T ∧ nw = (T, tupO [x, .int port t']) :: news) := by
  unfold Claim
  k_fill
  intro dp un gd cn cs a ccd cl outer A₀ base h₀ L m s Q E p loose mean mg mb B F X N T hk hd hu ret
  replace N : News h₀ L s.heap ((peer, tupO [x, y]) :: news) := news_sub N (by intro p hp; rcases List.mem_cons.mp hp with rfl | hp; exact hm; exact hp)
  have hr := g.len
  have h3 := bne_no g.h3
  have hl0 := g.l0
  have hq0 := g.q0
  have hq1 := g.q1
  have hmk := bne_no g.mm
  have h5 := g.five
  have hnum := g.num
  clear g
  refine wpAny_call ?_
  k_dflt cell_enter
  refine gen_tok0 ?_
  intro tk0
  k_steps
  · exfalso
    rename (_ : Int) ≠ 5 => hx
    exact hx (parts_len (by assumption) h5)
  · exact ret _ _ _ _ ⟨_, _, rfl, rfl⟩ (by assumption) (news_sub (by assumption) (by
      intro p hp
      rcases List.mem_cons.mp hp with rfl | hp
      · exact .head _
      · exact .tail _ (.tail _ (.tail _ hp))))
end Mine
namespace Mine
set_option maxHeartbeats 4000000 in
theorem port_ok (w : World) (r : Str) (port : Int) (t : Tok) (news : List (Addr × Obj)) (g : Good r port) :
    Claim w 2 150 [.str r t] [] news (fun v nw => ∃ t', v = .int port t' ∧ nw = news) := by
  unfold Claim
  k_fill
  intro dp un gd cn cs a ccd cl outer A₀ base h₀ L m s Q E p loose mean mg mb B F X N T hk hd hu ret
  have st6 : StopAt "call ref" := ⟨⟩
  refine wpAny_call ?_
  k_dflt cell_enter
  refine gen_tok0 ?_
  intro tk0
  k_steps
  repeat' ((with_reducible refine Hold.out ?_); (first | (refine Claim.use2 ⟨by k_asm, by k_asm, by k_asm, by k_asm, by k_asm, by first | exact rfl | assumption, by first | exact room1 (by with_reducible assumption) (by decide) | ktr_room, by first | exact units1 (by with_reducible assumption) (by decide) | ktr_units⟩ (parse229_ok _ _ _ _ _ _ _ _ (by k_mem) (by with_reducible assumption)) ?_; intro _ _ _ _ _ _; (try dsimp only)) | fail); k_steps)
  exact ret _ _ _ _ ⟨_, rfl, rfl⟩ (by assumption) (news_sub (by assumption) (fun p hp => .tail _ (.tail _ hp)))
end Mine
namespace Mine
set_option maxHeartbeats 4000000 in
theorem gt_ok (w : World) (x y : Int) (t u : Tok) (news : List (Addr × Obj)) : Claim w 1 115 [.int x t, .int y u] [] news (fun v nw => v = .bool (decide (y < x)) ∧ nw = news) := by
  unfold Claim
  k_fill
  intro dp un gd cn cs a ccd cl outer A₀ base h₀ L m s Q E p loose mean mg mb B F X N T hk hd hu ret
  refine wpAny_call ?_
  k_dflt cell_enter
  refine gen_tok0 ?_
  intro tk0
  k_steps
  exact ret _ _ _ _ ⟨rfl, rfl⟩ (by assumption) (by assumption)
set_option maxHeartbeats 4000000 in
theorem ge_ok (w : World) (x y : Int) (t u : Tok) (news : List (Addr × Obj)) : Claim w 1 108 [.int x t, .int y u] [] news (fun v nw => v = .bool (decide (y ≤ x)) ∧ nw = news) := by
  unfold Claim
  k_fill
  intro dp un gd cn cs a ccd cl outer A₀ base h₀ L m s Q E p loose mean mg mb B F X N T hk hd hu ret
  refine wpAny_call ?_
  k_dflt cell_enter
  refine gen_tok0 ?_
  intro tk0
  k_steps
  exact ret _ _ _ _ ⟨rfl, rfl⟩ (by assumption) (by assumption)
end Mine
namespace Mine
/-- what the halving finds, and how many keys it reads: `up v` says: go on behind this place -/
noncomputable def bisP (up : Int → Bool) (lo hi : Int) : Int × Nat :=
  if h : lo < hi then
    if up ((lo + hi).fdiv 2) = true then ((bisP up ((lo + hi).fdiv 2 + 1) hi).1, (bisP up ((lo + hi).fdiv 2 + 1) hi).2 + 1)
    else ((bisP up lo ((lo + hi).fdiv 2)).1, (bisP up lo ((lo + hi).fdiv 2)).2 + 1)
  else (lo, 0)
termination_by (hi - lo).toNat
decreasing_by all_goals (simp only [half_eq]; lia)
theorem bisP_up {up : Int → Bool} {lo hi : Int} (h : lo < hi) (hx : up ((lo + hi).fdiv 2) = true) : bisP up lo hi = ((bisP up ((lo + hi).fdiv 2 + 1) hi).1, (bisP up ((lo + hi).fdiv 2 + 1) hi).2 + 1) := by rw [bisP, dif_pos h, if_pos hx]
theorem bisP_dn {up : Int → Bool} {lo hi : Int} (h : lo < hi) (hx : up ((lo + hi).fdiv 2) = false) : bisP up lo hi = ((bisP up lo ((lo + hi).fdiv 2)).1, (bisP up lo ((lo + hi).fdiv 2)).2 + 1) := by rw [bisP, dif_pos h, if_neg (by rw [hx]; decide)]
theorem bisP_ge {up : Int → Bool} {lo hi : Int} (h : ¬ lo < hi) : bisP up lo hi = (lo, 0) := by rw [bisP, dif_neg h]
theorem bisP_reads (up : Int → Bool) : ∀ (t : Nat) (lo hi : Int), hi - lo + 1 ≤ 2 ^ t → (bisP up lo hi).2 ≤ t
  | 0, lo, hi, h => by
    rw [bisP_ge (by simp at h; lia)]
    exact Nat.le_refl _
  | t + 1, lo, hi, h => by
    have e : (2 : Int) ^ (t + 1) = 2 * 2 ^ t := by rw [Int.pow_succ]; lia
    rw [e] at h
    by_cases hl : lo < hi
    · cases hx : up ((lo + hi).fdiv 2)
      · rw [bisP_dn hl hx]
        have := bisP_reads up t lo ((lo + hi).fdiv 2) (by rw [half_eq]; lia)
        dsimp only
        lia
      · rw [bisP_up hl hx]
        have := bisP_reads up t ((lo + hi).fdiv 2 + 1) hi (by rw [half_eq]; lia)
        dsimp only
        lia
    · rw [bisP_ge hl]
      exact Nat.zero_le _
theorem bisP_few {up : Int → Bool} {lo hi : Int} {n : Nat} (h0 : 0 ≤ lo) (h1 : hi ≤ n) (h2 : n ≤ 100) : (bisP up lo hi).2 ≤ 7 := bisP_reads up 7 lo hi (by lia)
structure BS where
  lo : Int
  hi : Int
  tl : Tok
  th : Tok
  bv : List Value
noncomputable abbrev bisLed (al : Addr) (vs : List Value) (nl : Nat) (Led : List Value → List (Addr × Obj)) (c : BS) : List (Addr × Obj) := (al, lstO vs nl) :: Led c.bv
noncomputable abbrev bisPs (c : BS) : List (Str × Value) := [(Str.ofString "lo", .int c.lo c.tl), (Str.ofString "hi", .int c.hi c.th)]
noncomputable abbrev bisStored : List Str := [Str.ofString "mid", Str.ofString "lo", Str.ofString "hi"]
theorem bis_contains {z : Str} (h1 : z ≠ Str.ofString "lo") (h2 : z ≠ Str.ofString "hi") (h3 : z ≠ Str.ofString "mid") : bisStored.contains z = false := by
  simp [bisStored, h1, h2, h3]
noncomputable abbrev BisInv (up : Int → Bool) (vs bv : List Value) (lo hi : Int) (c : BS) : Prop := 0 ≤ c.lo ∧ c.hi ≤ vs.length ∧ (bisP up c.lo c.hi).1 = (bisP up lo hi).1 ∧ c.bv.length + (bisP up c.lo c.hi).2 = bv.length + (bisP up lo hi).2
noncomputable abbrev bisMu (c : BS) : Nat := (c.hi - c.lo).toNat
theorem two_at {m : Str → Option Value} {lo hi : Int} {t1 t2 : Tok} {b : List Value} (e1 : m (Str.ofString "lo") = some (.int lo t1)) (e2 : m (Str.ofString "hi") = some (.int hi t2)) : ∀ p ∈ bisPs ⟨lo, hi, t1, t2, b⟩, m p.1 = some p.2 := by
  intro p hp
  rcases List.mem_cons.mp hp with rfl | hp
  · exact e1
  · rcases List.mem_cons.mp hp with rfl | hp
    · exact e2
    · cases hp
theorem bis_end {h₀ : Heap} {L : Addr} {s : Shared} {al : Addr} {nl : Nat} {vs bv : List Value} {up : Int → Bool} {lo hi : Int} {Led : List Value → List (Addr × Obj)} {m₀ m' : Str → Option Value} {c : BS} {h' : Heap} {tk : Nat} (lo2 hi2 : Int) {b2 : List Value}
    (F : Fr h₀ L h' m') (N : News h₀ L h' ((al, lstO vs nl) :: Led b2)) (h1 : ∃ t, m' (Str.ofString "lo") = some (.int lo2 t)) (h2 : ∃ t, m' (Str.ofString "hi") = some (.int hi2 t))
    (hr : ∀ z, z ≠ Str.ofString "lo" → z ≠ Str.ofString "hi" → z ≠ Str.ofString "mid" → m' z = m₀ z) (hp : ∀ t1 t2, BisInv up vs bv lo hi ⟨lo2, hi2, t1, t2, b2⟩) (hm : (hi2 - lo2).toNat < bisMu c) :
    KswEnd h₀ L s (bisLed al vs nl Led) bisPs (fun _ => True) bisStored m₀ (BisInv up vs bv lo hi) bisMu c { s with heap := h', toks := tk } := by
  obtain ⟨t1, e1⟩ := h1
  obtain ⟨t2, e2⟩ := h2
  exact ⟨⟨lo2, hi2, t1, t2, b2⟩, h', tk, m', _, rfl, F, N, fun _ => id, trivial, two_at e1 e2, fun z hz hc => hr z (hz (Str.ofString "lo", .int lo2 t1) (.head _)) (hz (Str.ofString "hi", .int hi2 t2) (.tail _ (.head _))) (by rintro rfl; exact absurd hc (by decide)), hp _ _, hm⟩
theorem bis_loop {prog : Program} {w : World} {A : Around} {E : Value → Shared → Prop} {Q : Flow → Shared → Prop} {s : Shared} {env : Env} {h₀ : Heap} {L : Addr} {test : Expr} {body : List Stmt} {pos : Pos} {m₀ : Str → Option Value}
    {al : Addr} {nl : Nat} {vs bv : List Value} (up : Int → Bool) {lo hi : Int} {Led : List Value → List (Addr × Obj)}
    (F : Fr h₀ L s.heap m₀) (N : News h₀ L s.heap ((al, lstO vs nl) :: Led bv)) (h1 : ∃ t, m₀ (Str.ofString "lo") = some (.int lo t)) (h2 : ∃ t, m₀ (Str.ofString "hi") = some (.int hi t)) (hlo : 0 ≤ lo) (hhi : hi ≤ vs.length)
    (turn : ∀ (KP : Flow → Shared → Prop) lo' hi' tl' th' bv' (u : Str → Option Value) h tk, (∀ s', KswEnd h₀ L s (bisLed al vs nl Led) bisPs (fun _ => True) bisStored m₀ (BisInv up vs bv lo hi) bisMu ⟨lo', hi', tl', th', bv'⟩ s' → KP .next s') → 0 ≤ lo' → hi' ≤ (vs.length : Int) → (bisP up lo' hi').1 = (bisP up lo hi).1 → bv'.length + (bisP up lo' hi').2 = bv.length + (bisP up lo hi).2 →
      Fr h₀ L h (kstB (fun z => if bisStored.contains z then u z else m₀ z) [(Str.ofString "lo", .int lo' tl'), (Str.ofString "hi", .int hi' th')]) → News h₀ L h ((al, lstO vs nl) :: Led bv') →
      wpAny (model prog w) A (isTrue test env (eval test env)) (fun b s₂ =>
        if b = true then wpAny (model prog w) A (execs body env) KP E s₂ else Q .next s₂) E { s with heap := h, toks := tk })
    (hE : PassesOwn (model prog w) A env E := by passes_own) :
    wpAny (model prog w) A (exec (.While test body [] pos) env) Q E s := by
  obtain ⟨t1, e1⟩ := h1
  obtain ⟨t2, e2⟩ := h2
  refine ksw_while (σ := BS) (bisLed al vs nl Led) bisPs (fun _ => True) bisStored (BisInv up vs bv lo hi) bisMu ⟨lo, hi, t1, t2, bv⟩ F N trivial (two_at e1 e2) ⟨hlo, hhi, rfl, rfl⟩ ?_ hE
  rintro ⟨lo', hi', tl', th', bv'⟩ u h tk - ⟨a, b, c, d⟩ F2 N2
  exact turn _ lo' hi' tl' th' bv' u h tk (fun _ h => h) a b c d F2 N2
/-- the key of each item is its number by `f`; a reading may turn what `Led` bears, by one more -/
noncomputable def KeyOk (w : World) (al kf : Addr) (vs : List Value) (nl : Nat) (f : Int → Int) (Led : List Value → List (Addr × Obj)) : Prop :=
  ∀ bv (i : Nat) r t, bv.length ≤ 900 → vs[i]? = some (.str r t) → Claim w 3 kf [.str r t] [] ((al, lstO vs nl) :: Led bv) (fun v nw => ∃ t' b', v = .int (f i) t' ∧ nw = (al, lstO vs nl) :: Led b' ∧ b'.length = bv.length + 1)
noncomputable def FnOk (w : World) (al kf : Addr) (vs : List Value) (nl : Nat) (Led : List Value → List (Addr × Obj)) : Prop :=
  ∀ (h₀ h : Heap) (L : Addr) m bv, (hd0.heap_1_39 w.params).In h₀ → Fr h₀ L h m → News h₀ L h ((al, lstO vs nl) :: Led bv) → FnAt kf h
local macro_rules | `(tactic| walk_at "call builtin:len") => `(tactic| (k_here; (with_reducible show wpAny _ _ (call (Value.builtin "len") [Value.ref _]) _ _ _); refine Hold.of ?_))
local macro_rules | `(tactic| walk_at "callWith ref") => `(tactic| (k_here; refine callWith_P ?_))
local macro_rules | `(tactic| walk_at "And") => `(tactic| (k_here; (with_reducible show FnAt _ _ ∧ _); refine Hold.of ?_))
set_option maxHeartbeats 4000000 in
theorem bisr_ok (w : World) (al kf : Addr) (vs : List Value) (nl : Nat) (hs : Strs vs) (f : Int → Int) (x lo hi : Int) (t tl th : Tok) (Led : List Value → List (Addr × Obj))
    (hlo : 0 ≤ lo) (hhi : hi ≤ vs.length) (hsz : vs.length ≤ 100) (bv : List Value) (hB : bv.length + (bisP (fun i => !decide (x < f i)) lo hi).2 ≤ 900) (hkf : FnOk w al kf vs nl Led) (key : KeyOk w al kf vs nl f Led) :
    Claim w 4 32 [.ref al, .int x t, .int lo tl, .int hi th] [(Str.ofString "key", .ref kf)] ((al, lstO vs nl) :: Led bv)
      (fun v nw => ∃ t' b', v = .int (bisP (fun i => !decide (x < f i)) lo hi).1 t' ∧ nw = (al, lstO vs nl) :: Led b' ∧ b'.length = bv.length + (bisP (fun i => !decide (x < f i)) lo hi).2) := by
  unfold Claim
  k_fill
  intro dp un gd cn cs a ccd cl outer A₀ base h₀ L m s Q E p loose mean mg mb B F X N T hk hd hu ret
  have st6 : StopAt "exec While Compare cons nil" := ⟨⟩
  have st6 : StopAt "subscriptTail Name Name ref int" := ⟨⟩
  have st6 : StopAt "call ref" := ⟨⟩
  refine wpAny_call ?_
  k_dflt (refine' code_def ?k1 ?k2 ?k3 ?k4 ?k5 ?kA ?kF ?kK ?k6 ?k7 ?k8 ?k9 ?kB ?_ ?c2 ?c3 ?c4 ?c5; (case kA => exact rfl); (case kF => exact rfl); (case kK => assumption); (case k1 => k_asm); (case k2 => k_asm); (case k3 => k_asm); (case k4 => k_asm); (case k5 => k_asm); (case k6 => k_is); (case k7 => k_is); (case k8 => ktr_room); (case k9 => first | exact binds_K (by k_in) rfl (by k_is) rfl rfl rfl | exact BindsTo.of_eq rfl); (case c5 => decide); (case kB => exact locs rfl); (case c2 => exact rfl); (case c3 => exact rfl); (case c4 => exact rfl); k_whole; intro g' L' h' FG' F' N' B' X' T'; (try dsimp only); (try k_lift B'); (try k_fold))
  refine gen_tok0 ?_
  intro tk0
  k_steps
  repeat' ((with_reducible refine Hold.out ?_); (first | ((rename KeyOk _ _ _ _ _ _ _ => key'); refine Claim.use3 ⟨by k_asm, by k_asm, by k_asm, by k_asm, by k_asm, by first | exact rfl | assumption, by first | exact room1 (by with_reducible assumption) (by decide) | ktr_room, by first | exact units1 (by with_reducible assumption) (by decide) | ktr_units⟩ (key' _ _ _ _ (by with_reducible assumption) (by with_reducible assumption)) ?_; intro _ _ _ _ _ _ _; (try dsimp only)) | ((with_reducible show wpAny _ _ (call (Value.builtin "len") [Value.ref _]) _ _ _); refine len_any (by k_asm) (by k_mem) (by lia) ?_) | (refine item_str (by k_asm) (by k_mem) (by with_reducible assumption) (half_lo (by with_reducible assumption) (by with_reducible assumption)) (half_hi (by with_reducible assumption) (by with_reducible assumption)) (by with_reducible assumption) ?_ (by with_unfolding_all rfl); intro _ _ _) | ((rename FnOk _ _ _ _ _ _ => hkf'); refine ⟨hkf' _ _ _ _ _ (by k_asm) (by k_asm) (by k_asm), ?_⟩) | fail); k_steps)
  refine Hold.out ?_
  rename Fr _ _ _ _ => F1
  rename News _ _ _ _ => N1
  refine bis_loop (hi := (hi : Int)) (fun i => !decide (x < f i)) F1 N1 ⟨_, rfl⟩ ⟨_, rfl⟩ hlo hhi ?_
  · intro KP lo' hi' tl' th' bv' u h1 tk1 hKP hp0 hp1 hp2 hp3 F2 N2
    clear F1 N1
    have hb9 : bv'.length ≤ 900 := by lia
    k_steps
    repeat' ((with_reducible refine Hold.out ?_); (first | ((rename KeyOk _ _ _ _ _ _ _ => key'); refine Claim.use3 ⟨by k_asm, by k_asm, by k_asm, by k_asm, by k_asm, by first | exact rfl | assumption, by first | exact room1 (by with_reducible assumption) (by decide) | ktr_room, by first | exact units1 (by with_reducible assumption) (by decide) | ktr_units⟩ (key' _ _ _ _ (by with_reducible assumption) (by with_reducible assumption)) ?_; intro _ _ _ _ _ _ _; (try dsimp only)) | ((with_reducible show wpAny _ _ (call (Value.builtin "len") [Value.ref _]) _ _ _); refine len_any (by k_asm) (by k_mem) (by lia) ?_) | (refine item_str (by k_asm) (by k_mem) (by with_reducible assumption) (half_lo (by with_reducible assumption) (by with_reducible assumption)) (half_hi (by with_reducible assumption) (by with_reducible assumption)) (by with_reducible assumption) ?_ (by with_unfolding_all rfl); intro _ _ _) | ((rename FnOk _ _ _ _ _ _ => hkf'); refine ⟨hkf' _ _ _ _ _ (by k_asm) (by k_asm) (by k_asm), ?_⟩) | fail); k_steps)
    · rename x < f _ => hlt
      rename lo' < hi' => hlh
      rename News _ _ _ ((al, lstO vs nl) :: Led _) => N9
      rename Fr _ _ _ _ => F9
      rename List.length _ = _ + 1 => hb
      rw [Int.toNat_of_nonneg (half_lo hp0 hlh)] at hlt
      have e := bisP_dn (up := fun i => !decide (x < f i)) hlh (by simpa using hlt)
      rw [e] at hp2 hp3
      refine hKP _ ?_
      refine bis_end lo' ((lo' + hi').fdiv 2) F9 N9 ⟨_, rfl⟩ ⟨_, rfl⟩ (by intro z h1 h2 h3; simp only [if_neg h1, if_neg h2, if_neg h3, kstB, bis_contains h1 h2 h3, Bool.false_eq_true, if_false]) (fun _ _ => ?_) ?_
      · exact ⟨hp0, Int.le_of_lt (half_hi hlh hp1), hp2, by dsimp only at hp3 ⊢; lia⟩
      · show _ < (hi' - lo').toNat; rw [half_eq]; lia
    · rename ¬ x < f _ => hlt
      rename lo' < hi' => hlh
      rename News _ _ _ ((al, lstO vs nl) :: Led _) => N9
      rename Fr _ _ _ _ => F9
      rename List.length _ = _ + 1 => hb
      rw [Int.toNat_of_nonneg (half_lo hp0 hlh)] at hlt
      have e := bisP_up (up := fun i => !decide (x < f i)) hlh (by simpa using hlt)
      rw [e] at hp2 hp3
      refine hKP _ ?_
      refine bis_end ((lo' + hi').fdiv 2 + 1) hi' F9 N9 ⟨_, rfl⟩ ⟨_, rfl⟩ (by intro z h1 h2 h3; simp only [if_neg h1, if_neg h2, if_neg h3, kstB, bis_contains h1 h2 h3, Bool.false_eq_true, if_false]) (fun _ _ => ?_) ?_
      · exact ⟨Int.le_add_one (half_lo hp0 hlh), hp1, hp2, by dsimp only at hp3 ⊢; lia⟩
      · show _ < (hi' - lo').toNat; rw [half_eq]; lia
    · rename ¬ lo' < hi' => hlh
      have e := bisP_ge (up := fun i => !decide (x < f i)) hlh
      rw [e] at hp2 hp3
      exact ret _ _ _ _ ⟨_, _, by rw [← hp2], rfl, by dsimp only at hp3; omega⟩ (by assumption) (by assumption)
set_option maxHeartbeats 4000000 in
theorem bisr_none (w : World) (al kf : Addr) (vs : List Value) (nl : Nat) (hs : Strs vs) (f : Int → Int) (x lo : Int) (t tl : Tok) (Led : List Value → List (Addr × Obj))
    (hlo : 0 ≤ lo) (hsz : vs.length ≤ 100) (bv : List Value) (hB : bv.length + (bisP (fun i => !decide (x < f i)) lo vs.length).2 ≤ 900) (hkf : FnOk w al kf vs nl Led) (key : KeyOk w al kf vs nl f Led) :
    Claim w 4 32 [.ref al, .int x t, .int lo tl, .none] [(Str.ofString "key", .ref kf)] ((al, lstO vs nl) :: Led bv)
      (fun v nw => ∃ t' b', v = .int (bisP (fun i => !decide (x < f i)) lo vs.length).1 t' ∧ nw = (al, lstO vs nl) :: Led b' ∧ b'.length = bv.length + (bisP (fun i => !decide (x < f i)) lo vs.length).2) := by
  unfold Claim
  k_fill
  intro dp un gd cn cs a ccd cl outer A₀ base h₀ L m s Q E p loose mean mg mb B F X N T hk hd hu ret
  have st6 : StopAt "exec While Compare cons nil" := ⟨⟩
  have st6 : StopAt "subscriptTail Name Name ref int" := ⟨⟩
  have st6 : StopAt "call ref" := ⟨⟩
  refine wpAny_call ?_
  k_dflt (refine' code_def ?k1 ?k2 ?k3 ?k4 ?k5 ?kA ?kF ?kK ?k6 ?k7 ?k8 ?k9 ?kB ?_ ?c2 ?c3 ?c4 ?c5; (case kA => exact rfl); (case kF => exact rfl); (case kK => assumption); (case k1 => k_asm); (case k2 => k_asm); (case k3 => k_asm); (case k4 => k_asm); (case k5 => k_asm); (case k6 => k_is); (case k7 => k_is); (case k8 => ktr_room); (case k9 => first | exact binds_K (by k_in) rfl (by k_is) rfl rfl rfl | exact BindsTo.of_eq rfl); (case c5 => decide); (case kB => exact locs rfl); (case c2 => exact rfl); (case c3 => exact rfl); (case c4 => exact rfl); k_whole; intro g' L' h' FG' F' N' B' X' T'; (try dsimp only); (try k_lift B'); (try k_fold))
  refine gen_tok0 ?_
  intro tk0
  k_steps
  repeat' ((with_reducible refine Hold.out ?_); (first | ((rename KeyOk _ _ _ _ _ _ _ => key'); refine Claim.use3 ⟨by k_asm, by k_asm, by k_asm, by k_asm, by k_asm, by first | exact rfl | assumption, by first | exact room1 (by with_reducible assumption) (by decide) | ktr_room, by first | exact units1 (by with_reducible assumption) (by decide) | ktr_units⟩ (key' _ _ _ _ (by with_reducible assumption) (by with_reducible assumption)) ?_; intro _ _ _ _ _ _ _; (try dsimp only)) | ((with_reducible show wpAny _ _ (call (Value.builtin "len") [Value.ref _]) _ _ _); refine len_any (by k_asm) (by k_mem) (by lia) ?_) | (refine item_str (by k_asm) (by k_mem) (by with_reducible assumption) (half_lo (by with_reducible assumption) (by with_reducible assumption)) (half_hi (by with_reducible assumption) (by with_reducible assumption)) (by with_reducible assumption) ?_ (by with_unfolding_all rfl); intro _ _ _) | ((rename FnOk _ _ _ _ _ _ => hkf'); refine ⟨hkf' _ _ _ _ _ (by k_asm) (by k_asm) (by k_asm), ?_⟩) | fail); k_steps)
  refine Hold.out ?_
  rename Fr _ _ _ _ => F1
  rename News _ _ _ _ => N1
  refine bis_loop (hi := (vs.length : Int)) (fun i => !decide (x < f i)) F1 N1 ⟨_, rfl⟩ ⟨_, rfl⟩ hlo (Int.le_refl _) ?_
  · intro KP lo' hi' tl' th' bv' u h1 tk1 hKP hp0 hp1 hp2 hp3 F2 N2
    clear F1 N1
    have hb9 : bv'.length ≤ 900 := by lia
    k_steps
    repeat' ((with_reducible refine Hold.out ?_); (first | ((rename KeyOk _ _ _ _ _ _ _ => key'); refine Claim.use3 ⟨by k_asm, by k_asm, by k_asm, by k_asm, by k_asm, by first | exact rfl | assumption, by first | exact room1 (by with_reducible assumption) (by decide) | ktr_room, by first | exact units1 (by with_reducible assumption) (by decide) | ktr_units⟩ (key' _ _ _ _ (by with_reducible assumption) (by with_reducible assumption)) ?_; intro _ _ _ _ _ _ _; (try dsimp only)) | ((with_reducible show wpAny _ _ (call (Value.builtin "len") [Value.ref _]) _ _ _); refine len_any (by k_asm) (by k_mem) (by lia) ?_) | (refine item_str (by k_asm) (by k_mem) (by with_reducible assumption) (half_lo (by with_reducible assumption) (by with_reducible assumption)) (half_hi (by with_reducible assumption) (by with_reducible assumption)) (by with_reducible assumption) ?_ (by with_unfolding_all rfl); intro _ _ _) | ((rename FnOk _ _ _ _ _ _ => hkf'); refine ⟨hkf' _ _ _ _ _ (by k_asm) (by k_asm) (by k_asm), ?_⟩) | fail); k_steps)
    · rename x < f _ => hlt
      rename lo' < hi' => hlh
      rename News _ _ _ ((al, lstO vs nl) :: Led _) => N9
      rename Fr _ _ _ _ => F9
      rename List.length _ = _ + 1 => hb
      rw [Int.toNat_of_nonneg (half_lo hp0 hlh)] at hlt
      have e := bisP_dn (up := fun i => !decide (x < f i)) hlh (by simpa using hlt)
      rw [e] at hp2 hp3
      refine hKP _ ?_
      refine bis_end lo' ((lo' + hi').fdiv 2) F9 N9 ⟨_, rfl⟩ ⟨_, rfl⟩ (by intro z h1 h2 h3; simp only [if_neg h1, if_neg h2, if_neg h3, kstB, bis_contains h1 h2 h3, Bool.false_eq_true, if_false]) (fun _ _ => ?_) ?_
      · exact ⟨hp0, Int.le_of_lt (half_hi hlh hp1), hp2, by dsimp only at hp3 ⊢; lia⟩
      · show _ < (hi' - lo').toNat; rw [half_eq]; lia
    · rename ¬ x < f _ => hlt
      rename lo' < hi' => hlh
      rename News _ _ _ ((al, lstO vs nl) :: Led _) => N9
      rename Fr _ _ _ _ => F9
      rename List.length _ = _ + 1 => hb
      rw [Int.toNat_of_nonneg (half_lo hp0 hlh)] at hlt
      have e := bisP_up (up := fun i => !decide (x < f i)) hlh (by simpa using hlt)
      rw [e] at hp2 hp3
      refine hKP _ ?_
      refine bis_end ((lo' + hi').fdiv 2 + 1) hi' F9 N9 ⟨_, rfl⟩ ⟨_, rfl⟩ (by intro z h1 h2 h3; simp only [if_neg h1, if_neg h2, if_neg h3, kstB, bis_contains h1 h2 h3, Bool.false_eq_true, if_false]) (fun _ _ => ?_) ?_
      · exact ⟨Int.le_add_one (half_lo hp0 hlh), hp1, hp2, by dsimp only at hp3 ⊢; lia⟩
      · show _ < (hi' - lo').toNat; rw [half_eq]; lia
    · rename ¬ lo' < hi' => hlh
      have e := bisP_ge (up := fun i => !decide (x < f i)) hlh
      rw [e] at hp2 hp3
      exact ret _ _ _ _ ⟨_, _, by rw [← hp2], rfl, by dsimp only at hp3; omega⟩ (by assumption) (by assumption)
set_option maxHeartbeats 4000000 in
theorem bisl_ok (w : World) (al kf : Addr) (vs : List Value) (nl : Nat) (hs : Strs vs) (f : Int → Int) (x lo hi : Int) (t tl th : Tok) (Led : List Value → List (Addr × Obj))
    (hlo : 0 ≤ lo) (hhi : hi ≤ vs.length) (hsz : vs.length ≤ 100) (bv : List Value) (hB : bv.length + (bisP (fun i => decide (f i < x)) lo hi).2 ≤ 900) (hkf : FnOk w al kf vs nl Led) (key : KeyOk w al kf vs nl f Led) :
    Claim w 4 50 [.ref al, .int x t, .int lo tl, .int hi th] [(Str.ofString "key", .ref kf)] ((al, lstO vs nl) :: Led bv)
      (fun v nw => ∃ t' b', v = .int (bisP (fun i => decide (f i < x)) lo hi).1 t' ∧ nw = (al, lstO vs nl) :: Led b' ∧ b'.length = bv.length + (bisP (fun i => decide (f i < x)) lo hi).2) := by
  unfold Claim
  k_fill
  intro dp un gd cn cs a ccd cl outer A₀ base h₀ L m s Q E p loose mean mg mb B F X N T hk hd hu ret
  have st6 : StopAt "exec While Compare cons nil" := ⟨⟩
  have st6 : StopAt "subscriptTail Name Name ref int" := ⟨⟩
  have st6 : StopAt "call ref" := ⟨⟩
  refine wpAny_call ?_
  k_dflt (refine' code_def ?k1 ?k2 ?k3 ?k4 ?k5 ?kA ?kF ?kK ?k6 ?k7 ?k8 ?k9 ?kB ?_ ?c2 ?c3 ?c4 ?c5; (case kA => exact rfl); (case kF => exact rfl); (case kK => assumption); (case k1 => k_asm); (case k2 => k_asm); (case k3 => k_asm); (case k4 => k_asm); (case k5 => k_asm); (case k6 => k_is); (case k7 => k_is); (case k8 => ktr_room); (case k9 => first | exact binds_K (by k_in) rfl (by k_is) rfl rfl rfl | exact BindsTo.of_eq rfl); (case c5 => decide); (case kB => exact locs rfl); (case c2 => exact rfl); (case c3 => exact rfl); (case c4 => exact rfl); k_whole; intro g' L' h' FG' F' N' B' X' T'; (try dsimp only); (try k_lift B'); (try k_fold))
  refine gen_tok0 ?_
  intro tk0
  k_steps
  repeat' ((with_reducible refine Hold.out ?_); (first | ((rename KeyOk _ _ _ _ _ _ _ => key'); refine Claim.use3 ⟨by k_asm, by k_asm, by k_asm, by k_asm, by k_asm, by first | exact rfl | assumption, by first | exact room1 (by with_reducible assumption) (by decide) | ktr_room, by first | exact units1 (by with_reducible assumption) (by decide) | ktr_units⟩ (key' _ _ _ _ (by with_reducible assumption) (by with_reducible assumption)) ?_; intro _ _ _ _ _ _ _; (try dsimp only)) | ((with_reducible show wpAny _ _ (call (Value.builtin "len") [Value.ref _]) _ _ _); refine len_any (by k_asm) (by k_mem) (by lia) ?_) | (refine item_str (by k_asm) (by k_mem) (by with_reducible assumption) (half_lo (by with_reducible assumption) (by with_reducible assumption)) (half_hi (by with_reducible assumption) (by with_reducible assumption)) (by with_reducible assumption) ?_ (by with_unfolding_all rfl); intro _ _ _) | ((rename FnOk _ _ _ _ _ _ => hkf'); refine ⟨hkf' _ _ _ _ _ (by k_asm) (by k_asm) (by k_asm), ?_⟩) | fail); k_steps)
  refine Hold.out ?_
  rename Fr _ _ _ _ => F1
  rename News _ _ _ _ => N1
  refine bis_loop (hi := (hi : Int)) (fun i => decide (f i < x)) F1 N1 ⟨_, rfl⟩ ⟨_, rfl⟩ hlo hhi ?_
  · intro KP lo' hi' tl' th' bv' u h1 tk1 hKP hp0 hp1 hp2 hp3 F2 N2
    clear F1 N1
    have hb9 : bv'.length ≤ 900 := by lia
    k_steps
    repeat' ((with_reducible refine Hold.out ?_); (first | ((rename KeyOk _ _ _ _ _ _ _ => key'); refine Claim.use3 ⟨by k_asm, by k_asm, by k_asm, by k_asm, by k_asm, by first | exact rfl | assumption, by first | exact room1 (by with_reducible assumption) (by decide) | ktr_room, by first | exact units1 (by with_reducible assumption) (by decide) | ktr_units⟩ (key' _ _ _ _ (by with_reducible assumption) (by with_reducible assumption)) ?_; intro _ _ _ _ _ _ _; (try dsimp only)) | ((with_reducible show wpAny _ _ (call (Value.builtin "len") [Value.ref _]) _ _ _); refine len_any (by k_asm) (by k_mem) (by lia) ?_) | (refine item_str (by k_asm) (by k_mem) (by with_reducible assumption) (half_lo (by with_reducible assumption) (by with_reducible assumption)) (half_hi (by with_reducible assumption) (by with_reducible assumption)) (by with_reducible assumption) ?_ (by with_unfolding_all rfl); intro _ _ _) | ((rename FnOk _ _ _ _ _ _ => hkf'); refine ⟨hkf' _ _ _ _ _ (by k_asm) (by k_asm) (by k_asm), ?_⟩) | fail); k_steps)
    · rename f _ < x => hlt
      rename lo' < hi' => hlh
      rename News _ _ _ ((al, lstO vs nl) :: Led _) => N9
      rename Fr _ _ _ _ => F9
      rename List.length _ = _ + 1 => hb
      rw [Int.toNat_of_nonneg (half_lo hp0 hlh)] at hlt
      have e := bisP_up (up := fun i => decide (f i < x)) hlh (by simpa using hlt)
      rw [e] at hp2 hp3
      refine hKP _ ?_
      refine bis_end ((lo' + hi').fdiv 2 + 1) hi' F9 N9 ⟨_, rfl⟩ ⟨_, rfl⟩ (by intro z h1 h2 h3; simp only [if_neg h1, if_neg h2, if_neg h3, kstB, bis_contains h1 h2 h3, Bool.false_eq_true, if_false]) (fun _ _ => ?_) ?_
      · exact ⟨Int.le_add_one (half_lo hp0 hlh), hp1, hp2, by dsimp only at hp3 ⊢; lia⟩
      · show _ < (hi' - lo').toNat; rw [half_eq]; lia
    · rename ¬ f _ < x => hlt
      rename lo' < hi' => hlh
      rename News _ _ _ ((al, lstO vs nl) :: Led _) => N9
      rename Fr _ _ _ _ => F9
      rename List.length _ = _ + 1 => hb
      rw [Int.toNat_of_nonneg (half_lo hp0 hlh)] at hlt
      have e := bisP_dn (up := fun i => decide (f i < x)) hlh (by simpa using hlt)
      rw [e] at hp2 hp3
      refine hKP _ ?_
      refine bis_end lo' ((lo' + hi').fdiv 2) F9 N9 ⟨_, rfl⟩ ⟨_, rfl⟩ (by intro z h1 h2 h3; simp only [if_neg h1, if_neg h2, if_neg h3, kstB, bis_contains h1 h2 h3, Bool.false_eq_true, if_false]) (fun _ _ => ?_) ?_
      · exact ⟨hp0, Int.le_of_lt (half_hi hlh hp1), hp2, by dsimp only at hp3 ⊢; lia⟩
      · show _ < (hi' - lo').toNat; rw [half_eq]; lia
    · rename ¬ lo' < hi' => hlh
      have e := bisP_ge (up := fun i => decide (f i < x)) hlh
      rw [e] at hp2 hp3
      exact ret _ _ _ _ ⟨_, _, by rw [← hp2], rfl, by dsimp only at hp3; omega⟩ (by assumption) (by assumption)
set_option maxHeartbeats 4000000 in
theorem bisl_none (w : World) (al kf : Addr) (vs : List Value) (nl : Nat) (hs : Strs vs) (f : Int → Int) (x lo : Int) (t tl : Tok) (Led : List Value → List (Addr × Obj))
    (hlo : 0 ≤ lo) (hsz : vs.length ≤ 100) (bv : List Value) (hB : bv.length + (bisP (fun i => decide (f i < x)) lo vs.length).2 ≤ 900) (hkf : FnOk w al kf vs nl Led) (key : KeyOk w al kf vs nl f Led) :
    Claim w 4 50 [.ref al, .int x t, .int lo tl, .none] [(Str.ofString "key", .ref kf)] ((al, lstO vs nl) :: Led bv)
      (fun v nw => ∃ t' b', v = .int (bisP (fun i => decide (f i < x)) lo vs.length).1 t' ∧ nw = (al, lstO vs nl) :: Led b' ∧ b'.length = bv.length + (bisP (fun i => decide (f i < x)) lo vs.length).2) := by
  unfold Claim
  k_fill
  intro dp un gd cn cs a ccd cl outer A₀ base h₀ L m s Q E p loose mean mg mb B F X N T hk hd hu ret
  have st6 : StopAt "exec While Compare cons nil" := ⟨⟩
  have st6 : StopAt "subscriptTail Name Name ref int" := ⟨⟩
  have st6 : StopAt "call ref" := ⟨⟩
  refine wpAny_call ?_
  k_dflt (refine' code_def ?k1 ?k2 ?k3 ?k4 ?k5 ?kA ?kF ?kK ?k6 ?k7 ?k8 ?k9 ?kB ?_ ?c2 ?c3 ?c4 ?c5; (case kA => exact rfl); (case kF => exact rfl); (case kK => assumption); (case k1 => k_asm); (case k2 => k_asm); (case k3 => k_asm); (case k4 => k_asm); (case k5 => k_asm); (case k6 => k_is); (case k7 => k_is); (case k8 => ktr_room); (case k9 => first | exact binds_K (by k_in) rfl (by k_is) rfl rfl rfl | exact BindsTo.of_eq rfl); (case c5 => decide); (case kB => exact locs rfl); (case c2 => exact rfl); (case c3 => exact rfl); (case c4 => exact rfl); k_whole; intro g' L' h' FG' F' N' B' X' T'; (try dsimp only); (try k_lift B'); (try k_fold))
  refine gen_tok0 ?_
  intro tk0
  k_steps
  repeat' ((with_reducible refine Hold.out ?_); (first | ((rename KeyOk _ _ _ _ _ _ _ => key'); refine Claim.use3 ⟨by k_asm, by k_asm, by k_asm, by k_asm, by k_asm, by first | exact rfl | assumption, by first | exact room1 (by with_reducible assumption) (by decide) | ktr_room, by first | exact units1 (by with_reducible assumption) (by decide) | ktr_units⟩ (key' _ _ _ _ (by with_reducible assumption) (by with_reducible assumption)) ?_; intro _ _ _ _ _ _ _; (try dsimp only)) | ((with_reducible show wpAny _ _ (call (Value.builtin "len") [Value.ref _]) _ _ _); refine len_any (by k_asm) (by k_mem) (by lia) ?_) | (refine item_str (by k_asm) (by k_mem) (by with_reducible assumption) (half_lo (by with_reducible assumption) (by with_reducible assumption)) (half_hi (by with_reducible assumption) (by with_reducible assumption)) (by with_reducible assumption) ?_ (by with_unfolding_all rfl); intro _ _ _) | ((rename FnOk _ _ _ _ _ _ => hkf'); refine ⟨hkf' _ _ _ _ _ (by k_asm) (by k_asm) (by k_asm), ?_⟩) | fail); k_steps)
  refine Hold.out ?_
  rename Fr _ _ _ _ => F1
  rename News _ _ _ _ => N1
  refine bis_loop (hi := (vs.length : Int)) (fun i => decide (f i < x)) F1 N1 ⟨_, rfl⟩ ⟨_, rfl⟩ hlo (Int.le_refl _) ?_
  · intro KP lo' hi' tl' th' bv' u h1 tk1 hKP hp0 hp1 hp2 hp3 F2 N2
    clear F1 N1
    have hb9 : bv'.length ≤ 900 := by lia
    k_steps
    repeat' ((with_reducible refine Hold.out ?_); (first | ((rename KeyOk _ _ _ _ _ _ _ => key'); refine Claim.use3 ⟨by k_asm, by k_asm, by k_asm, by k_asm, by k_asm, by first | exact rfl | assumption, by first | exact room1 (by with_reducible assumption) (by decide) | ktr_room, by first | exact units1 (by with_reducible assumption) (by decide) | ktr_units⟩ (key' _ _ _ _ (by with_reducible assumption) (by with_reducible assumption)) ?_; intro _ _ _ _ _ _ _; (try dsimp only)) | ((with_reducible show wpAny _ _ (call (Value.builtin "len") [Value.ref _]) _ _ _); refine len_any (by k_asm) (by k_mem) (by lia) ?_) | (refine item_str (by k_asm) (by k_mem) (by with_reducible assumption) (half_lo (by with_reducible assumption) (by with_reducible assumption)) (half_hi (by with_reducible assumption) (by with_reducible assumption)) (by with_reducible assumption) ?_ (by with_unfolding_all rfl); intro _ _ _) | ((rename FnOk _ _ _ _ _ _ => hkf'); refine ⟨hkf' _ _ _ _ _ (by k_asm) (by k_asm) (by k_asm), ?_⟩) | fail); k_steps)
    · rename f _ < x => hlt
      rename lo' < hi' => hlh
      rename News _ _ _ ((al, lstO vs nl) :: Led _) => N9
      rename Fr _ _ _ _ => F9
      rename List.length _ = _ + 1 => hb
      rw [Int.toNat_of_nonneg (half_lo hp0 hlh)] at hlt
      have e := bisP_up (up := fun i => decide (f i < x)) hlh (by simpa using hlt)
      rw [e] at hp2 hp3
      refine hKP _ ?_
      refine bis_end ((lo' + hi').fdiv 2 + 1) hi' F9 N9 ⟨_, rfl⟩ ⟨_, rfl⟩ (by intro z h1 h2 h3; simp only [if_neg h1, if_neg h2, if_neg h3, kstB, bis_contains h1 h2 h3, Bool.false_eq_true, if_false]) (fun _ _ => ?_) ?_
      · exact ⟨Int.le_add_one (half_lo hp0 hlh), hp1, hp2, by dsimp only at hp3 ⊢; lia⟩
      · show _ < (hi' - lo').toNat; rw [half_eq]; lia
    · rename ¬ f _ < x => hlt
      rename lo' < hi' => hlh
      rename News _ _ _ ((al, lstO vs nl) :: Led _) => N9
      rename Fr _ _ _ _ => F9
      rename List.length _ = _ + 1 => hb
      rw [Int.toNat_of_nonneg (half_lo hp0 hlh)] at hlt
      have e := bisP_dn (up := fun i => decide (f i < x)) hlh (by simpa using hlt)
      rw [e] at hp2 hp3
      refine hKP _ ?_
      refine bis_end lo' ((lo' + hi').fdiv 2) F9 N9 ⟨_, rfl⟩ ⟨_, rfl⟩ (by intro z h1 h2 h3; simp only [if_neg h1, if_neg h2, if_neg h3, kstB, bis_contains h1 h2 h3, Bool.false_eq_true, if_false]) (fun _ _ => ?_) ?_
      · exact ⟨hp0, Int.le_of_lt (half_hi hlh hp1), hp2, by dsimp only at hp3 ⊢; lia⟩
      · show _ < (hi' - lo').toNat; rw [half_eq]; lia
    · rename ¬ lo' < hi' => hlh
      have e := bisP_ge (up := fun i => decide (f i < x)) hlh
      rw [e] at hp2 hp3
      exact ret _ _ _ _ ⟨_, _, by rw [← hp2], rfl, by dsimp only at hp3; omega⟩ (by assumption) (by assumption)
end Mine
namespace Mine
/-- every item is a reply whose port is told by f -/
noncomputable def Ports (vs : List Value) (f : Int → Int) : Prop := ∀ (i : Nat) r t, vs[i]? = some (.str r t) → Good r (f i)
noncomputable def isFnO : Option Obj → Bool
  | some ⟨_, _, .func _, _⟩ => true
  | _ => false
theorem fnAt_of {o : Option Obj} {f : Addr} {h : Heap} (e : isFnO o = true) (k : ∀ x, o = some x → h.get? f = some x) : FnAt f h := by
  unfold isFnO at e
  split at e
  · exact ⟨_, _, k _ rfl, rfl⟩
  · cases e
theorem port_fn (w : World) (al : Addr) (vs : List Value) (nl : Nat) (Led : List Value → List (Addr × Obj)) : FnOk w al 150 vs nl Led := by
  intro h₀ h L m bv X F N
  exact fnAt_of (o := (hd0.heap_1_39 w.params).lookup 150) (by rfl) (fun x e => F.keep _ _ (X _ _ e))
theorem port_key (w : World) (al : Addr) (vs : List Value) (nl : Nat) (f : Int → Int) (news : List (Addr × Obj)) (g : Ports vs f) : KeyOk w al 150 vs nl f (fun b => news) := by
  intro bv i r t _ hi
  have C := port_ok w r (f i) t ((al, lstO vs nl) :: news) (g i r t hi)
  intro dp un gd cn cs a ccd cl outer A₀ base h₀ L m s Q E p loose mean mg mb B F X N T hk hd hu ret
  refine C dp un gd cn cs a ccd cl outer A₀ base h₀ L m s Q E p loose mean mg mb B F X N T hk (by lia) (by lia) ?_
  rintro v news' h' tk' ⟨t', rfl, rfl⟩ F' N'
  exact ret _ _ _ _ ⟨t', bv ++ [.none], rfl, rfl, by simp⟩ F' N'
end Mine
namespace Mine
theorem bisP_range (up : Int → Bool) : ∀ (n : Nat) (lo hi : Int), (hi - lo).toNat ≤ n → lo ≤ (bisP up lo hi).1 ∧ (lo ≤ hi → (bisP up lo hi).1 ≤ hi) := by
  intro n
  induction n with
  | zero =>
    intro lo hi h
    rw [bisP_ge (by lia)]
    exact ⟨Int.le_refl _, fun h => h⟩
  | succ n ih =>
    intro lo hi h
    by_cases hl : lo < hi
    · have e := half_eq (lo + hi)
      cases hu : up ((lo + hi).fdiv 2) with
      | true =>
        rw [bisP_up hl hu]
        have := ih ((lo + hi).fdiv 2 + 1) hi (by rw [e]; lia)
        rw [e] at this ⊢
        exact ⟨by lia, fun _ => this.2 (by lia)⟩
      | false =>
        rw [bisP_dn hl hu]
        have := ih lo ((lo + hi).fdiv 2) (by rw [e]; lia)
        rw [e] at this ⊢
        exact ⟨this.1, fun _ => by have := this.2 (by lia); lia⟩
    · rw [bisP_ge hl]
      exact ⟨Int.le_refl _, fun h => h⟩
theorem bisP_lo (up : Int → Bool) {lo hi c : Int} (h : c ≤ lo) : c ≤ (bisP up lo hi).1 := Int.le_trans h (bisP_range up _ lo hi (Nat.le_refl _)).1
theorem bisP_le (up : Int → Bool) {lo hi : Int} (h : lo ≤ hi) : (bisP up lo hi).1 ≤ hi := (bisP_range up _ lo hi (Nat.le_refl _)).2 h
theorem ins_B {up : Int → Bool} {n : Nat} (h : n ≤ 100) : ([] : List Value).length + (bisP up 0 n).2 ≤ 900 := by
  have := bisP_few (up := up) (lo := 0) (hi := n) (Int.le_refl _) (Int.le_refl _) h
  simp only [List.length_nil]
  lia
theorem fits_small {x n : Int} (h0 : 0 ≤ x) (h1 : x ≤ n) (h2 : n ≤ 1000) : Builtin.List.listFitsIndex x = true := by
  simp only [Builtin.List.listFitsIndex, Bool.and_eq_true, decide_eq_true_eq]
  lia
theorem z_fit {vs : List Value} (h : vs.length ≤ 1000) : vs.toArray.toList.length ≤ sizeLine := by rw [sizeLine_eq]; show vs.length ≤ _; lia
theorem ins_eq {vs : List Value} {x : Int} {y : Value} (h0 : 0 ≤ x) (h1 : x ≤ vs.length) : kl_ins vs x y = vs.take x.toNat ++ y :: vs.drop x.toNat := by
  unfold kl_ins
  rw [if_neg (by lia), Nat.min_eq_left (by lia)]
theorem ins_led {al : Addr} {vs : List Value} {x : Int} {y : Value} {n : Nat} {news : List (Addr × Obj)} (h0 : 0 ≤ x) (h1 : x ≤ vs.length) :
    (al, lstO (kl_ins vs.toArray.toList x y) n) :: news = (al, lstO (vs.take x.toNat ++ y :: vs.drop x.toNat) n) :: news := by
  show (al, lstO (kl_ins vs x y) n) :: news = _
  rw [ins_eq h0 h1]
set_option maxHeartbeats 4000000 in
theorem insr_ok (w : World) (al : Addr) (vs : List Value) (nl : Nat) (hs : Strs vs) (f : Int → Int) (r : Str) (t : Tok) (port : Int) (hP : Ports vs f) (hg : Good r port) (hsz : vs.length ≤ 100) (news : List (Addr × Obj)) (hne : ∀ q ∈ news, q.1 ≠ al) :
    Claim w 5 23 [.ref al, .str r t] [(Str.ofString "key", .ref 150)] ((al, lstO vs nl) :: news)
      (fun v nw => ∃ nl', v = .none ∧ nw = (al, lstO (vs.take (bisP (fun i => !decide (port < f i)) 0 vs.length).1.toNat ++ .str r t :: vs.drop (bisP (fun i => !decide (port < f i)) 0 vs.length).1.toNat) nl') :: news) := by
  unfold Claim
  k_fill
  intro dp un gd cn cs a ccd cl outer A₀ base h₀ L m s Q E p loose mean mg mb B F X N T hk hd hu ret
  have st6 : StopAt "call ref" := ⟨⟩
  have st6 : StopAt "call builtin:list.insert" := ⟨⟩
  refine wpAny_call ?_
  k_dflt (refine' code_def ?k1 ?k2 ?k3 ?k4 ?k5 ?kA ?kF ?kK ?k6 ?k7 ?k8 ?k9 ?kB ?_ ?c2 ?c3 ?c4 ?c5; (case kA => exact rfl); (case kF => exact rfl); (case kK => assumption); (case k1 => k_asm); (case k2 => k_asm); (case k3 => k_asm); (case k4 => k_asm); (case k5 => k_asm); (case k6 => k_is); (case k7 => k_is); (case k8 => ktr_room); (case k9 => first | exact binds_K (by k_in) rfl (by k_is) rfl rfl rfl | exact BindsTo.of_eq rfl); (case c5 => decide); (case kB => exact locs rfl); (case c2 => exact rfl); (case c3 => exact rfl); (case c4 => exact rfl); k_whole; intro g' L' h' FG' F' N' B' X' T'; (try dsimp only); (try k_lift B'); (try k_fold))
  refine gen_tok0 ?_
  intro tk0
  k_steps
  repeat' ((with_reducible refine Hold.out ?_); (first | (refine Claim.use1 ⟨by k_asm, by k_asm, by k_asm, by k_asm, by k_asm, by first | exact rfl | assumption, by first | exact room1 (by with_reducible assumption) (by decide) | ktr_room, by first | exact units1 (by with_reducible assumption) (by decide) | ktr_units⟩ (port_ok _ _ _ _ _ (by with_reducible assumption)) ?_; intro _ _ _ _ _; (try dsimp only)) | ((rename Ports _ _ => hP'); (rename Strs _ => hS'); refine Claim.use3 ⟨by k_asm, by k_asm, by k_asm, by k_asm, by k_asm, by first | exact rfl | assumption, by first | exact room1 (by with_reducible assumption) (by decide) | ktr_room, by first | exact units1 (by with_reducible assumption) (by decide) | ktr_units⟩ (bisr_none _ _ _ _ _ hS' _ _ _ _ _ _ (Int.le_refl _) (by with_reducible assumption) [] (ins_B (by with_reducible assumption)) (port_fn _ _ _ _ _) (port_key _ _ _ _ _ _ hP')) ?_; intro _ _ _ _ _ _ _; (try dsimp only)) | ((rename Ports _ _ => hP'); (rename Strs _ => hS'); refine Claim.use3 ⟨by k_asm, by k_asm, by k_asm, by k_asm, by k_asm, by first | exact rfl | assumption, by first | exact room1 (by with_reducible assumption) (by decide) | ktr_room, by first | exact units1 (by with_reducible assumption) (by decide) | ktr_units⟩ (bisl_none _ _ _ _ _ hS' _ _ _ _ _ _ (Int.le_refl _) (by with_reducible assumption) [] (ins_B (by with_reducible assumption)) (port_fn _ _ _ _ _) (port_key _ _ _ _ _ _ hP')) ?_; intro _ _ _ _ _ _ _; (try dsimp only)) | (refine kl_insert (by k_asm) (by k_asm) (fits_small (bisP_lo _ (Int.le_refl _)) (bisP_le _ (by lia)) (by lia)) rfl (.head (by with_reducible assumption)) (z_fit (by lia)) ?_; intro _ _ _; (try dsimp only)) | fail); k_steps)
  exact ret _ _ _ _ ⟨nl + 1, rfl, ins_led (bisP_lo _ (Int.le_refl _)) (bisP_le _ (by lia))⟩ (by assumption) (by assumption)
set_option maxHeartbeats 4000000 in
theorem insl_ok (w : World) (al : Addr) (vs : List Value) (nl : Nat) (hs : Strs vs) (f : Int → Int) (r : Str) (t : Tok) (port : Int) (hP : Ports vs f) (hg : Good r port) (hsz : vs.length ≤ 100) (news : List (Addr × Obj)) (hne : ∀ q ∈ news, q.1 ≠ al) :
    Claim w 5 41 [.ref al, .str r t] [(Str.ofString "key", .ref 150)] ((al, lstO vs nl) :: news)
      (fun v nw => ∃ nl', v = .none ∧ nw = (al, lstO (vs.take (bisP (fun i => decide (f i < port)) 0 vs.length).1.toNat ++ .str r t :: vs.drop (bisP (fun i => decide (f i < port)) 0 vs.length).1.toNat) nl') :: news) := by
  unfold Claim
  k_fill
  intro dp un gd cn cs a ccd cl outer A₀ base h₀ L m s Q E p loose mean mg mb B F X N T hk hd hu ret
  have st6 : StopAt "call ref" := ⟨⟩
  have st6 : StopAt "call builtin:list.insert" := ⟨⟩
  refine wpAny_call ?_
  k_dflt (refine' code_def ?k1 ?k2 ?k3 ?k4 ?k5 ?kA ?kF ?kK ?k6 ?k7 ?k8 ?k9 ?kB ?_ ?c2 ?c3 ?c4 ?c5; (case kA => exact rfl); (case kF => exact rfl); (case kK => assumption); (case k1 => k_asm); (case k2 => k_asm); (case k3 => k_asm); (case k4 => k_asm); (case k5 => k_asm); (case k6 => k_is); (case k7 => k_is); (case k8 => ktr_room); (case k9 => first | exact binds_K (by k_in) rfl (by k_is) rfl rfl rfl | exact BindsTo.of_eq rfl); (case c5 => decide); (case kB => exact locs rfl); (case c2 => exact rfl); (case c3 => exact rfl); (case c4 => exact rfl); k_whole; intro g' L' h' FG' F' N' B' X' T'; (try dsimp only); (try k_lift B'); (try k_fold))
  refine gen_tok0 ?_
  intro tk0
  k_steps
  repeat' ((with_reducible refine Hold.out ?_); (first | (refine Claim.use1 ⟨by k_asm, by k_asm, by k_asm, by k_asm, by k_asm, by first | exact rfl | assumption, by first | exact room1 (by with_reducible assumption) (by decide) | ktr_room, by first | exact units1 (by with_reducible assumption) (by decide) | ktr_units⟩ (port_ok _ _ _ _ _ (by with_reducible assumption)) ?_; intro _ _ _ _ _; (try dsimp only)) | ((rename Ports _ _ => hP'); (rename Strs _ => hS'); refine Claim.use3 ⟨by k_asm, by k_asm, by k_asm, by k_asm, by k_asm, by first | exact rfl | assumption, by first | exact room1 (by with_reducible assumption) (by decide) | ktr_room, by first | exact units1 (by with_reducible assumption) (by decide) | ktr_units⟩ (bisr_none _ _ _ _ _ hS' _ _ _ _ _ _ (Int.le_refl _) (by with_reducible assumption) [] (ins_B (by with_reducible assumption)) (port_fn _ _ _ _ _) (port_key _ _ _ _ _ _ hP')) ?_; intro _ _ _ _ _ _ _; (try dsimp only)) | ((rename Ports _ _ => hP'); (rename Strs _ => hS'); refine Claim.use3 ⟨by k_asm, by k_asm, by k_asm, by k_asm, by k_asm, by first | exact rfl | assumption, by first | exact room1 (by with_reducible assumption) (by decide) | ktr_room, by first | exact units1 (by with_reducible assumption) (by decide) | ktr_units⟩ (bisl_none _ _ _ _ _ hS' _ _ _ _ _ _ (Int.le_refl _) (by with_reducible assumption) [] (ins_B (by with_reducible assumption)) (port_fn _ _ _ _ _) (port_key _ _ _ _ _ _ hP')) ?_; intro _ _ _ _ _ _ _; (try dsimp only)) | (refine kl_insert (by k_asm) (by k_asm) (fits_small (bisP_lo _ (Int.le_refl _)) (bisP_le _ (by lia)) (by lia)) rfl (.head (by with_reducible assumption)) (z_fit (by lia)) ?_; intro _ _ _; (try dsimp only)) | fail); k_steps)
  exact ret _ _ _ _ ⟨nl + 1, rfl, ins_led (bisP_lo _ (Int.le_refl _)) (bisP_le _ (by lia))⟩ (by assumption) (by assumption)
end Mine
namespace Mine
/-- what parse257 reads from place i on, behind d -/
noncomputable def scan (r : Str) : Nat → Int → Str → Str
  | 0, _, d => d
  | k + 1, i, d =>
    if i < r.length then
      if Txt.item r i = Str.ofString "\"" then
        (if i + 1 < r.length then
          (if Txt.item r (i + 1) = Str.ofString "\"" then scan r k (i + 2) (d ++ Txt.item r i) else d)
        else d)
      else scan r k (i + 1) (d ++ Txt.item r i)
    else d
section
variable {r d : Str} {i : Int} {k : Nat}
theorem scan_pos (h : i < r.length) (hk : (r.length - i : Int).toNat < k) : ∃ j, k = j + 1 := ⟨k - 1, by lia⟩
theorem scan_out (h : i < r.length) (e : Txt.item r i = Str.ofString "\"") (h2 : ¬ i + 1 < r.length) (hk : (r.length - i : Int).toNat < k) : scan r k i d = d := by
  obtain ⟨j, rfl⟩ := scan_pos h hk
  rw [scan, if_pos h, if_pos e, if_neg h2]
theorem scan_stop (h : i < r.length) (e : Txt.item r i = Str.ofString "\"") (h2 : i + 1 < r.length) (e2 : ¬ Txt.item r (i + 1) = Str.ofString "\"") (hk : (r.length - i : Int).toNat < k) : scan r k i d = d := by
  obtain ⟨j, rfl⟩ := scan_pos h hk
  rw [scan, if_pos h, if_pos e, if_pos h2, if_neg e2]
theorem scan_two (h : i < r.length) (e : Txt.item r i = Str.ofString "\"") (h2 : i + 1 < r.length) (e2 : Txt.item r (i + 1) = Str.ofString "\"") (hk : (r.length - i : Int).toNat < k) : scan r k i d = scan r (k - 1) (i + 2) (d ++ Txt.item r i) := by
  obtain ⟨j, rfl⟩ := scan_pos h hk
  rw [scan, if_pos h, if_pos e, if_pos h2, if_pos e2]
  rfl
theorem scan_one (h : i < r.length) (e : ¬ Txt.item r i = Str.ofString "\"") (hk : (r.length - i : Int).toNat < k) : scan r k i d = scan r (k - 1) (i + 1) (d ++ Txt.item r i) := by
  obtain ⟨j, rfl⟩ := scan_pos h hk
  rw [scan, if_pos h, if_neg e]
  rfl
theorem scan_end (h : ¬ i < r.length) (hk : (r.length - i : Int).toNat < k) : scan r k i d = d := by
  cases k with
  | zero => rfl
  | succ j => rw [scan, if_neg h]
end
structure PS where
  i : Int
  d : Str
  ti : Tok
  td : Tok
noncomputable abbrev pLed (news : List (Addr × Obj)) (_ : PS) : List (Addr × Obj) := news
noncomputable abbrev pPs (c : PS) : List (Str × Value) := [(Str.ofString "i", .int c.i c.ti), (Str.ofString "dirname", .str c.d c.td)]
noncomputable abbrev pStored : List Str := [Str.ofString "c", Str.ofString "i", Str.ofString "dirname"]
noncomputable abbrev PInv (r : Str) (res : Str) (c : PS) : Prop := 0 ≤ c.i ∧ c.d.length ≤ c.i ∧ c.i ≤ r.length + 1 ∧ ∃ k, (r.length - c.i : Int).toNat < k ∧ scan r k c.i c.d = res
noncomputable abbrev pMu (r : Str) (c : PS) : Nat := (r.length - c.i : Int).toNat
theorem p_contains {z : Str} (h1 : z ≠ Str.ofString "c") (h2 : z ≠ Str.ofString "i") (h3 : z ≠ Str.ofString "dirname") : pStored.contains z = false := by
  simp [pStored, h1, h2, h3]
theorem p_end {h₀ : Heap} {L : Addr} {s : Shared} {r res : Str} {news : List (Addr × Obj)} {m₀ m' : Str → Option Value} {c : PS} {h' : Heap} {tk : Nat} (i2 : Int) (d2 : Str)
    (F : Fr h₀ L h' m') (N : News h₀ L h' news) (h1 : ∃ t, m' (Str.ofString "i") = some (.int i2 t)) (h2 : ∃ t, m' (Str.ofString "dirname") = some (.str d2 t))
    (hr : ∀ z, z ≠ Str.ofString "c" → z ≠ Str.ofString "i" → z ≠ Str.ofString "dirname" → m' z = m₀ z) (hp : ∀ t1 t2, PInv r res ⟨i2, d2, t1, t2⟩) (hm : ((r.length : Int) - i2).toNat < pMu r c) :
    KswEnd h₀ L s (pLed news) pPs (fun _ => True) pStored m₀ (PInv r res) (pMu r) c { s with heap := h', toks := tk } := by
  obtain ⟨t1, e1⟩ := h1
  obtain ⟨t2, e2⟩ := h2
  refine ⟨⟨i2, d2, t1, t2⟩, h', tk, m', _, rfl, F, N, fun _ => id, trivial, List.forall_mem_cons.mpr ⟨e1, List.forall_mem_cons.mpr ⟨e2, fun _ h => nomatch h⟩⟩, fun z hz hc => hr z (by rintro rfl; exact absurd hc (by decide)) (hz (Str.ofString "i", .int i2 t1) (.head _)) (hz (Str.ofString "dirname", .str d2 t2) (.tail _ (.head _))), hp _ _, hm⟩
set_option maxHeartbeats 4000000 in
theorem parse257_ok (w : World) (r : Str) (t : Tok) (hr : r.length ≤ 100) (h3 : (Txt.slice r none (some 3) != Str.ofString "257") = false) (h4 : (Txt.slice r (some 3) (some 5) != Str.ofString " \"") = false) (h5 : 5 ≤ r.length) (news : List (Addr × Obj)) :
    Claim w 1 101 [.str r t] [] news (fun v nw => ∃ t', v = .str (scan r 200 5 Str.empty) t' ∧ nw = news) := by
  unfold Claim
  k_fill
  intro dp un gd cn cs a ccd cl outer A₀ base h₀ L m s Q E p loose mean mg mb B F X N T hk hd hu ret
  have st6 : StopAt "exec While Compare cons nil" := ⟨⟩
  refine wpAny_call ?_
  k_dflt cell_enter
  refine gen_tok0 ?_
  intro tk0
  k_steps
  refine Hold.out ?_
  rename Fr _ _ _ _ => F1
  rename News _ _ _ _ => N1
  refine ksw_while (σ := PS) (pLed news) pPs (fun _ => True) pStored (PInv r (scan r 200 5 Str.empty)) (pMu r) ⟨5, Str.empty, _, _⟩ F1 N1 trivial (List.forall_mem_cons.mpr ⟨rfl, List.forall_mem_cons.mpr ⟨rfl, fun _ h => nomatch h⟩⟩) ⟨(by decide : (0 : Int) ≤ 5), (by decide : ((Str.empty.length : Nat) : Int) ≤ 5), (by show (5 : Int) ≤ _; lia), 200, (by show ((r.length : Int) - 5).toNat < 200; lia), rfl⟩ ?_
  rintro ⟨i', d', ti', td'⟩ u h1 tk1 - ⟨hp0, hp1, hp2, k', hk', hs'⟩ F2 N2
  dsimp only [pLed, pPs] at hp0 hp1 hp2 hk' hs' F2 N2 ⊢
  clear F1 N1
  k_steps
  · rename i' < _ => hlt
    rename _ ≤ i' + 1 => hge
    rename (Txt.item r i' == _) = true => hq
    exact ret _ _ _ _ ⟨td', by rw [← hs', scan_out hlt (eq_of_beq hq) (by lia) hk'], rfl⟩ (by assumption) (by assumption)
  · rename i' < _ => hlt
    rename ¬ _ ≤ i' + 1 => hge
    rename (Txt.item r i' == _) = true => hq
    rename (Txt.item r (i' + 1) != _) = true => hq2
    exact ret _ _ _ _ ⟨td', by rw [← hs', scan_stop hlt (eq_of_beq hq) (by lia) (by intro e; rw [e] at hq2; simp at hq2) hk'], rfl⟩ (by assumption) (by assumption)
  · rename i' < _ => hlt
    rename ¬ _ ≤ i' + 1 => hge
    rename (Txt.item r i' == _) = true => hq
    rename (Txt.item r (i' + 1) != _) = false => hq2
    rename Fr _ _ _ _ => F9
    rename News _ _ _ _ => N9
    rename Str.length d' + _ ≤ _ ∧ _ => hl
    rename 1 ≤ Str.length (Txt.item r i') ∧ _ => hl1
    rw [scan_two hlt (eq_of_beq hq) (by lia) (by simpa using hq2) hk'] at hs'
    exact p_end (i' + 1 + 1) (d' ++ Txt.item r i') F9 N9 ⟨_, rfl⟩ ⟨_, rfl⟩ (by intro z h1 h2 h3; simp only [if_neg h1, if_neg h2, if_neg h3, kstB, p_contains h1 h2 h3, Bool.false_eq_true, if_false]) (fun _ _ => ⟨(by show (0 : Int) ≤ i' + 1 + 1; lia), (by show (((d' ++ Txt.item r i').length : Nat) : Int) ≤ i' + 1 + 1; lia), (by show i' + 1 + 1 ≤ (r.length : Int) + 1; lia), k' - 1, (by show ((r.length : Int) - (i' + 1 + 1)).toNat < k' - 1; lia), by rw [← hs']; exact congrArg (fun x => scan r (k' - 1) x _) (Int.add_assoc i' 1 1)⟩) (by show ((r.length : Int) - (i' + 1 + 1)).toNat < ((r.length : Int) - i').toNat; lia)
  · rename i' < _ => hlt
    rename (Txt.item r i' == _) = false => hq
    rename Fr _ _ _ _ => F9
    rename News _ _ _ _ => N9
    rename Str.length d' + _ ≤ _ ∧ _ => hl
    rename 1 ≤ Str.length (Txt.item r i') ∧ _ => hl1
    rw [scan_one hlt (by intro e; rw [e] at hq; simp at hq) hk'] at hs'
    exact p_end (i' + 1) (d' ++ Txt.item r i') F9 N9 ⟨_, rfl⟩ ⟨_, rfl⟩ (by intro z h1 h2 h3; simp only [if_neg h1, if_neg h2, if_neg h3, kstB, p_contains h1 h2 h3, Bool.false_eq_true, if_false]) (fun _ _ => ⟨(by show (0 : Int) ≤ i' + 1; lia), (by show (((d' ++ Txt.item r i').length : Nat) : Int) ≤ i' + 1; lia), (by show i' + 1 ≤ (r.length : Int) + 1; lia), k' - 1, (by show ((r.length : Int) - (i' + 1)).toNat < k' - 1; lia), hs'⟩) (by show ((r.length : Int) - (i' + 1)).toNat < ((r.length : Int) - i').toNat; lia)
  · rename ¬ i' < _ => hlt
    exact ret _ _ _ _ ⟨td', by rw [← hs', scan_end hlt hk'], rfl⟩ (by assumption) (by assumption)
end Mine
namespace Mine
section
variable {prog : Program} {w : World} {A : Around} {E : Value → Shared → Prop} {Q : Flow → Shared → Prop} {s : Shared} {env : Env} {h₀ : Heap} {L : Addr}
/-- the tokens have come to n -/
structure TokLe (n tk : Nat) : Prop where
  out : n ≤ tk
theorem gen_toks {M : Model} {A : Around} {α : Type} {t : Sem α} {Q : α → Shared → Prop} {E : Value → Shared → Prop} {h : Heap} {g : Array GenState} {d : Drawn} {os : OsState} {n₀ tk0 X : Nat} (h0 : TokLe n₀ tk0) (hX : tk0 ≤ X)
    (k : ∀ tk, TokLe n₀ tk → wpAny M A t Q E ⟨h, g, d, tk, os⟩) : wpAny M A t Q E ⟨h, g, d, X, os⟩ := k X ⟨Nat.le_trans h0.out hX⟩
theorem gen_toks1 {M : Model} {A : Around} {α : Type} {t : Sem α} {Q : α → Shared → Prop} {E : Value → Shared → Prop} {h : Heap} {g : Array GenState} {d : Drawn} {os : OsState} {n₀ X : Nat} (hX : n₀ ≤ X)
    (k : ∀ tk, TokLe n₀ tk → wpAny M A t Q E ⟨h, g, d, tk, os⟩) : wpAny M A t Q E ⟨h, g, d, X, os⟩ := k X ⟨hX⟩
/-- what a turn of a for leaves -/
noncomputable def ForPost (h₀ : Heap) (L I : Addr) (oI : Obj) (J : (Str → Option Value) → List (Addr × Obj) → Prop) (s : Shared) (Q : Flow → Shared → Prop) (f : Flow) (s₂ : Shared) : Prop :=
  match f with
  | .ret v => Q (.ret v) s₂
  | .brk => Q .next s₂
  | _ => ∃ h' tk m' news', s₂ = { s with heap := h', toks := tk } ∧ Fr h₀ L h' m' ∧ News h₀ L h' ((I, oI) :: news') ∧ (∀ p ∈ news', p.1 ≠ I) ∧ J m' news'
theorem fr_off {h h' : Heap} {I : Addr} {m : Str → Option Value} (F : Fr h₀ L h m) (hk : ∀ b o, b ≠ I → h.get? b = some o → h'.get? b = some o) (hL : L ≠ I) (hI : h₀.get? I = none) : Fr h₀ L h' m :=
  ⟨F.ns.at' fun o e => hk L o hL e, fun b o e => hk b o (fun hm => by rw [hm, hI] at e; cases e) (F.keep b o e), F.above⟩
theorem news_off {h h' : Heap} {I : Addr} {news : List (Addr × Obj)} (N : News h₀ L h news) (hk : ∀ b o, b ≠ I → h.get? b = some o → h'.get? b = some o) (off : ∀ p ∈ news, p.1 ≠ I) : News h₀ L h' news :=
  fun p hp => ⟨hk _ _ (off p hp) (N p hp).1, (N p hp).2⟩
/-- a for loop over an iterator whose object is known at each turn, the tokens never below n₀ -/
theorem for_T {x : Str} {px : Pos} {body : List Stmt} {m₀ : Str → Option Value} {news : List (Addr × Obj)} {n₀ n : Nat} {I : Addr} (It : Nat → Obj → Prop) (P : Nat → Value → Prop) (Src : Heap → Prop)
    (J : Nat → (Str → Option Value) → List (Addr × Obj) → Prop) (hx : env.kindOf x = some .local)
    (hp : (env.scope.kind == .class || (env.scope.kind == .module && env.locals != env.globals)) = false) (hLe : env.locals = L)
    (item : ∀ i (s : Shared) (Q : Option Value → Shared → Prop) (E : Value → Shared → Prop), i < n → (∃ oI, s.heap.get? I = some oI ∧ It i oI) → Src s.heap → n₀ ≤ s.toks →
      (∀ v h' tk, P i v → n₀ ≤ tk → (∃ oI, h'.get? I = some oI ∧ It (i + 1) oI) → (∀ b o, b ≠ I → s.heap.get? b = some o → h'.get? b = some o) → Q (some v) { s with heap := h', toks := tk }) → wpAny (model prog w) A (pyNext (.ref I)) Q E s)
    (done : ∀ (s : Shared) (Q : Option Value → Shared → Prop) (E : Value → Shared → Prop), (∃ oI, s.heap.get? I = some oI ∧ It n oI) → Src s.heap →
      (∀ h' tk, (∀ b o, b ≠ I → s.heap.get? b = some o → h'.get? b = some o) → Q none { s with heap := h', toks := tk }) → wpAny (model prog w) A (pyNext (.ref I)) Q E s)
    (src : ∀ i m₁ news₁ h, J i m₁ news₁ → Fr h₀ L h m₁ → News h₀ L h news₁ → Src h)
    (hn : n₀ ≤ s.toks) (F : Fr h₀ L s.heap m₀) (N : News h₀ L s.heap news) (hI : ∃ oI, s.heap.get? I = some oI ∧ It 0 oI) (hIL : L ≠ I) (hI0 : h₀.get? I = none) (off : ∀ p ∈ news, p.1 ≠ I) (hJ : J 0 m₀ news)
    (step : ∀ i v m₁ news₁ oI h tk, i < n → P i v → It (i + 1) oI → n₀ ≤ tk → J i m₁ news₁ → (∀ p ∈ news₁, p.1 ≠ I) → Fr h₀ L h (fun y => if y = x then some v else m₁ y) → News h₀ L h ((I, oI) :: news₁) →
      wpAny (model prog w) A (execs body env) (ForPost h₀ L I oI (J (i + 1)) s Q) E { s with heap := h, toks := tk })
    (fin : ∀ m' news' h tk, n₀ ≤ tk → J n m' news' → Fr h₀ L h m' → News h₀ L h news' → Q .next { s with heap := h, toks := tk })
    (hE : PassesOwn (model prog w) A env E := by passes_own) :
    codeAny (model prog w) A (.forLoop (.Name x px) (.ref I) body [] env) (fun r s' => match r with | .ok f => Q f s' | .error e => cameBackBy (model prog w) A env E e s') s := by
  subst hLe
  refine codeAny_forLoop (fun k s' => ∃ h tk m₁ news₁ i, s' = { s with heap := h, toks := tk } ∧ n₀ ≤ tk ∧ (∃ oI, h.get? I = some oI ∧ It i oI) ∧ Fr h₀ env.locals h m₁ ∧ News h₀ env.locals h news₁ ∧ (∀ p ∈ news₁, p.1 ≠ I) ∧ J i m₁ news₁ ∧ i ≤ n ∧ k = n + 1 - i) ?_ (n + 1)
    ⟨s.heap, s.toks, m₀, news, 0, rfl, hn, hI, F, N, off, hJ, Nat.zero_le _, rfl⟩
  rintro k s' ⟨h, tk, m₁, news₁, i, rfl, htk, hit, F₁, N₁, off₁, hJ₁, hi, rfl⟩
  by_cases hlt : i < n
  · refine item i _ _ _ hlt hit (src _ _ _ _ hJ₁ F₁ N₁) htk fun v h₁ tk₁ hP htk₁ hit₁ hk₁ => ?_
    refine wpAny_assign_Name (wpAny_storeName_local hx (fr_off F₁ hk₁ hIL hI0).ns (fun h₂ hn₂ hs₂ => ?_) hp)
    have F₂ := (fr_off F₁ hk₁ hIL hI0).set hn₂ hs₂
    have N₂ := (news_off N₁ hk₁ off₁).set hs₂
    obtain ⟨oI, hit₁, hIt⟩ := hit₁
    have hit₂ : h₂.get? I = some oI := (hs₂.2 I (Ne.symm hIL)).trans hit₁
    have N₃ : News h₀ env.locals h₂ ((I, oI) :: news₁) := fun p hp => by
      rcases List.mem_cons.mp hp with rfl | hp
      · exact ⟨hit₂, Ne.symm hIL, hI0⟩
      · exact N₂ p hp
    refine wpAny_mono (wpAny_toks_of (n := n₀) (Nat.le_succ_of_le htk₁) (step i v m₁ news₁ oI h₂ (tk₁ + 1) hlt hP hIt (Nat.le_succ_of_le htk₁) hJ₁ off₁ F₂ N₃)) (fun f s₃ h₃ => ?_) fun e s' h' => hE e s' h'.2
    obtain ⟨htk₃, h₃⟩ := h₃
    cases f with
    | ret v => exact h₃
    | brk => exact h₃
    | next =>
      obtain ⟨h', tk', m', news', rfl, F', N', off', J'⟩ := h₃
      exact ⟨n + 1 - (i + 1), by lia, h', tk', m', news', i + 1, rfl, htk₃, ⟨oI, (N' _ (.head _)).1, hIt⟩, F', fun p hp => N' p (.tail _ hp), off', J', hlt, rfl⟩
    | cont =>
      obtain ⟨h', tk', m', news', rfl, F', N', off', J'⟩ := h₃
      exact ⟨n + 1 - (i + 1), by lia, h', tk', m', news', i + 1, rfl, htk₃, ⟨oI, (N' _ (.head _)).1, hIt⟩, F', fun p hp => N' p (.tail _ hp), off', J', hlt, rfl⟩
  · obtain rfl : i = n := by lia
    refine wpAny_with_toks (n := n₀) htk (done _ _ _ hit (src _ _ _ _ hJ₁ F₁ N₁) fun h₁ tk₁ hk₁ htk₁ => wpAny_execs_nil ?_)
    exact fin m₁ news₁ h₁ tk₁ htk₁ hJ₁ (fr_off F₁ hk₁ hIL hI0) (news_off N₁ hk₁ off₁)
theorem iter_str {x : Str} {px : Pos} {body : List Stmt} {m₀ : Str → Option Value} {news : List (Addr × Obj)} {n₀ : Nat} {r : Str} {t : Tok}
    (J : Nat → (Str → Option Value) → List (Addr × Obj) → Prop) (hx : env.kindOf x = some .local)
    (hp : (env.scope.kind == .class || (env.scope.kind == .module && env.locals != env.globals)) = false) (hLe : env.locals = L) (hh : A.handled = none) (ha : r.cps.all (· < 128) = true)
    (hn : n₀ ≤ s.toks) (F : Fr h₀ L s.heap m₀) (N : News h₀ L s.heap news) (hJ : J 0 m₀ news)
    (step : ∀ i c tc I m₁ news₁ oI h tk, r.cps[i]? = some c → n₀ ≤ tc → n₀ ≤ tk → J i m₁ news₁ → (∀ p ∈ news₁, p.1 ≠ I) → Fr h₀ L h (fun y => if y = x then some (.str ⟨#[c]⟩ tc) else m₁ y) → News h₀ L h ((I, oI) :: news₁) →
      wpAny (model prog w) A (execs body env) (ForPost h₀ L I oI (J (i + 1)) s Q) E { s with heap := h, toks := tk })
    (fin : ∀ m' news' h tk, n₀ ≤ tk → J r.cps.size m' news' → Fr h₀ L h m' → News h₀ L h news' → Q .next { s with heap := h, toks := tk })
    (hE : PassesOwn (model prog w) A env E := by passes_own) :
    wpAny (model prog w) A (pyIter (.str r t)) (fun it s₂ => codeAny (model prog w) A (.forLoop (.Name x px) it body [] env) (fun r s' => match r with | .ok f => Q f s' | .error e => cameBackBy (model prog w) A env E e s') s₂) E s := by
  refine wpAny_pyIter_ascii ha ?_
  have hI0 : h₀.get? s.heap.objs.size = none := next_is_new F
  refine for_T (s := { s with heap := s.heap.push _ }) (n := r.cps.size) (I := s.heap.objs.size) (fun i o => o.cls = .type "str_ascii_iterator" ∧ o.data = .fields #[.str r t, .int i 0]) (fun i v => ∃ c tc, r.cps[i]? = some c ∧ n₀ ≤ tc ∧ v = .str ⟨#[c]⟩ tc) (fun _ => True) J hx hp hLe ?_ ?_ (fun _ _ _ _ _ _ _ => trivial) hn (F.push _) (N.grown fun _ _ e => Heap.get?_push_of_some _ e)
    ⟨_, Heap.get?_push_size _ rfl, rfl, rfl⟩ (Nat.ne_of_lt F.ns.lt) hI0 (fun p hp => Nat.ne_of_lt (Heap.lt_size (N p hp).1)) hJ ?_ ?_ hE
  · intro i s' Q' E' hi hit _ hn' k
    have hit' : s'.heap.IsStrIter s.heap.objs.size "str_ascii_iterator" r t i := hit
    have hc : r.cps[i]? = some r.cps[i] := Array.getElem?_eq_getElem hi
    refine wpAny_pyNext_ascii_item hit' hc fun h' hit₁ hs₁ => k _ h' _ ⟨_, _, hc, hn', rfl⟩ (Nat.le_succ_of_le hn') hit₁ fun b o hb e => hs₁.extBut b o hb e
  · intro s' Q' E' hit _ k
    have hit' : s'.heap.IsStrIter s.heap.objs.size "str_ascii_iterator" r t r.cps.size := hit
    exact wpAny_pyNext_ascii_end hh hit' (by simp) fun h' he => k h' s'.toks fun b o hb e => he b o hb e
  · rintro i v m₁ news₁ oI h tk hi ⟨c, tc, hc, htc, rfl⟩ _ htk hJ₁ off F₁ N₁
    exact step i c tc _ m₁ news₁ oI h tk hc htc htk hJ₁ off F₁ N₁
  · intro m' news' h tk htk hJ' F' N'
    exact fin m' news' h tk htk hJ' F' N'
theorem iter_range {x : Str} {px : Pos} {body : List Stmt} {m₀ : Str → Option Value} {news : List (Addr × Obj)} {n₀ n : Nat} {r : Addr} {a b : Int} {t u v : Tok}
    (J : Nat → (Str → Option Value) → List (Addr × Obj) → Prop) (hx : env.kindOf x = some .local)
    (hp : (env.scope.kind == .class || (env.scope.kind == .module && env.locals != env.globals)) = false) (hLe : env.locals = L) (hh : A.handled = none)
    (hr : IsRange s.heap r a b 1 t u v) (hsm : Builtin.Range.small a b 1 = true) (hsz : Builtin.Range.rangeSize a b 1 = ((n : Nat) : Int))
    (hn : n₀ ≤ s.toks) (F : Fr h₀ L s.heap m₀) (N : News h₀ L s.heap news) (hJ : J 0 m₀ news)
    (step : ∀ i ti I m₁ news₁ oI h tk, i < n → n₀ ≤ tk → J i m₁ news₁ → (∀ p ∈ news₁, p.1 ≠ I) → Fr h₀ L h (fun y => if y = x then some (.int (a + (i : Int)) ti) else m₁ y) → News h₀ L h ((I, oI) :: news₁) →
      wpAny (model prog w) A (execs body env) (ForPost h₀ L I oI (J (i + 1)) s Q) E { s with heap := h, toks := tk })
    (fin : ∀ m' news' h tk, n₀ ≤ tk → J n m' news' → Fr h₀ L h m' → News h₀ L h news' → Q .next { s with heap := h, toks := tk })
    (hE : PassesOwn (model prog w) A env E := by passes_own) :
    wpAny (model prog w) A (pyIter (.ref r)) (fun it s₂ => codeAny (model prog w) A (.forLoop (.Name x px) it body [] env) (fun r s' => match r with | .ok f => Q f s' | .error e => cameBackBy (model prog w) A env E e s') s₂) E s := by
  refine wpAny_pyIter_range hr hsm ?_
  have hI0 : h₀.get? s.heap.objs.size = none := next_is_new F
  have W := Walks.range (prog := prog) (w := w) hh s.heap.objs.size a 1 n
  refine for_T (s := { s with heap := s.heap.push _ }) (n := n) (I := s.heap.objs.size) (fun i o => o = { cls := .type "range_iterator", data := .fields #[rawInt (a + (i : Nat) * 1), rawInt ((n : Int) - (i : Nat)), rawInt 1] }) (fun i v => ∃ t, v = .int (a + (i : Int) * 1) t) (fun _ => True) J hx hp hLe ?_ ?_ (fun _ _ _ _ _ _ _ => trivial) hn (F.push _) (N.grown fun _ _ e => Heap.get?_push_of_some _ e)
    ⟨_, Heap.get?_push_size _ rfl, ?_⟩ (Nat.ne_of_lt F.ns.lt) hI0 (fun p hp => Nat.ne_of_lt (Heap.lt_size (N p hp).1)) hJ ?_ ?_ hE
  · rintro i s' Q' E' hi ⟨_, hit, rfl⟩ _ hn' k
    refine wpAny_with_toks (n := n₀) hn' (W.item i s' _ _ hi hit fun v' h' tk' hP hst hk htk => k v' h' tk' hP htk ⟨_, hst, rfl⟩ fun b o hb e => hk b o (by simpa using hb) e)
  · rintro s' Q' E' ⟨_, hit, rfl⟩ _ k
    exact W.done s' _ _ hit fun h' tk' hk => k h' tk' fun b o hb e => hk b o (by simpa using hb) e
  · rw [hsz]
    simp
  · rintro i v' m₁ news₁ oI h tk hi ⟨ti, rfl⟩ _ htk hJ₁ off F₁ N₁
    rw [Int.mul_one] at F₁
    exact step i ti _ m₁ news₁ oI h tk hi htk hJ₁ off F₁ N₁
  · intro m' news' h tk htk hJ' F' N'
    exact fin m' news' h tk htk hJ' F' N'
theorem iter_list {x : Str} {px : Pos} {body : List Stmt} {m₀ : Str → Option Value} {news : List (Addr × Obj)} {n₀ : Nat} {ax : Addr} {vs : List Value} {nl : Nat}
    (J : Nat → (Str → Option Value) → List (Addr × Obj) → Prop) (hx : env.kindOf x = some .local)
    (hp : (env.scope.kind == .class || (env.scope.kind == .module && env.locals != env.globals)) = false) (hLe : env.locals = L) (hh : A.handled = none)
    (hm : (ax, lstO vs nl) ∈ news) (src : ∀ i m₁ news₁, J i m₁ news₁ → (ax, lstO vs nl) ∈ news₁)
    (hn : n₀ ≤ s.toks) (F : Fr h₀ L s.heap m₀) (N : News h₀ L s.heap news) (hJ : J 0 m₀ news)
    (step : ∀ i v I m₁ news₁ oI h tk, vs[i]? = some v → n₀ ≤ tk → J i m₁ news₁ → (∀ p ∈ news₁, p.1 ≠ I) → Fr h₀ L h (fun y => if y = x then some v else m₁ y) → News h₀ L h ((I, oI) :: news₁) →
      wpAny (model prog w) A (execs body env) (ForPost h₀ L I oI (J (i + 1)) s Q) E { s with heap := h, toks := tk })
    (fin : ∀ m' news' h tk, n₀ ≤ tk → J vs.length m' news' → Fr h₀ L h m' → News h₀ L h news' → Q .next { s with heap := h, toks := tk })
    (hE : PassesOwn (model prog w) A env E := by passes_own) :
    wpAny (model prog w) A (pyIter (.ref ax)) (fun it s₂ => codeAny (model prog w) A (.forLoop (.Name x px) it body [] env) (fun r s' => match r with | .ok f => Q f s' | .error e => cameBackBy (model prog w) A env E e s') s₂) E s := by
  have hl := isList_of N hm
  refine wpAny_pyIter_list hl ?_
  have hI0 : h₀.get? s.heap.objs.size = none := next_is_new F
  refine for_T (s := { s with heap := s.heap.push _ }) (n := vs.length) (I := s.heap.objs.size) (fun i o => o.cls = .type "list_iterator" ∧ o.data = .fields #[.ref ax, .int i 0]) (fun i v => vs[i]? = some v) (fun h => h.IsList ax vs.toArray) J hx hp hLe ?_ ?_ (fun i m₁ news₁ h hJ _ N₁ => isList_of N₁ (src i m₁ news₁ hJ)) hn (F.push _) (N.grown fun _ _ e => Heap.get?_push_of_some _ e)
    ⟨_, Heap.get?_push_size _ rfl, rfl, rfl⟩ (Nat.ne_of_lt F.ns.lt) hI0 (fun p hp => Nat.ne_of_lt (Heap.lt_size (N p hp).1)) hJ ?_ ?_ hE
  · intro i s' Q' E' hi hit hl' hn' k
    have hit' : s'.heap.IsListIter s.heap.objs.size ax i := hit
    have hv : vs[i]? = some vs[i] := List.getElem?_eq_getElem hi
    exact wpAny_pyNext_list_item hit' hl' (by simpa using hv) fun h' hit₁ hs₁ => k _ h' _ hv hn' hit₁ fun b o hb e => hs₁.extBut b o hb e
  · intro s' Q' E' hit hl' k
    have hit' : s'.heap.IsListIter s.heap.objs.size ax vs.length := hit
    exact wpAny_pyNext_list_end hh hit' hl' (by simp) fun h' he => k h' s'.toks fun b o hb e => he b o hb e
  · intro i v m₁ news₁ oI h tk hi hv _ htk hJ₁ off F₁ N₁
    exact step i v _ m₁ news₁ oI h tk hv htk hJ₁ off F₁ N₁
  · intro m' news' h tk htk hJ' F' N'
    exact fin m' news' h tk htk hJ' F' N'
end
end Mine
namespace Mine
theorem tk_facts {t u : Nat} (h1 : 1 ≤ u) (h2 : u < t) : (t == 0 || u == 0) = false ∧ (t == u) = false := by
  simp only [Bool.or_eq_false_iff, beq_eq_false_iff_ne, ne_eq]
  lia
theorem is_str {prog : Program} {w : World} {A : Around} {E : Value → Shared → Prop} {s : Shared} {x y : Str} {t u : Tok} {Q : Value → Shared → Prop} (h1 : 1 ≤ u) (h2 : u < t) (hb : NoneBooked s.heap)
    (hq : ∀ b : Bool, (b = true → x = y) → Q (.bool b) s) : wpAny (model prog w) A (compareOp .Is (.str x t) (.str y u)) Q E s := by
  show wpAny _ A (isSame (.str x t) (.str y u) >>= fun b => pure (Value.bool b)) Q E s
  refine wpAny_bind ?_
  show wpAny _ A (isSame.created (x == y) t u) _ E s
  have e0 : (t == 0 || u == 0) = false := (tk_facts h1 h2).1
  have e1 : (t == u) = false := (tk_facts h1 h2).2
  unfold isSame.created
  rw [e0, e1]
  simp only [Bool.false_eq_true, if_false]
  cases e : (x == y) with
  | false =>
    simp only [Bool.not_false, if_true]
    exact wpAny_pure (wpAny_pure (hq false fun h => by cases h))
  | true =>
    have hxy : x = y := eq_of_beq e
    simp only [Bool.not_true, Bool.false_eq_true, if_false]
    refine wpAny_bind (wpAny_sharingNotTold_none hb ?_)
    simp only [Bool.false_eq_true, if_false]
    refine wpAny_bind (wpAny_sharingNotTold_none hb ?_)
    simp only [Bool.false_eq_true, if_false]
    exact wpAny_bind (wpAny_rule (wpAny_bind (wpAny_askSetting (wpAny_pure (wpAny_pure (hq _ fun _ => hxy))))))
/-- the state of countOf's loop -/
noncomputable def CntJ (r : Str) (news : List (Addr × Obj)) (m₀ : Str → Option Value) (i : Nat) (m : Str → Option Value) (nx : List (Addr × Obj)) : Prop :=
  nx = news ∧ (∃ t, m (Str.ofString "count") = some (.int ((r.cps.toList.take i).count 34 : Int) t)) ∧ ∀ z, z ≠ Str.ofString "i" → z ≠ Str.ofString "count" → m z = m₀ z
theorem cnt_fr {h₀ h : Heap} {L : Addr} {m₁ m₀ : Str → Option Value} {v k : Value} (e : m₁ (Str.ofString "count") = some k) (hr : ∀ z, z ≠ Str.ofString "i" → z ≠ Str.ofString "count" → m₁ z = m₀ z)
    (F : Fr h₀ L h (fun y => if y = Str.ofString "i" then some v else m₁ y)) : Fr h₀ L h (fun y => if y = Str.ofString "i" then some v else if y = Str.ofString "count" then some k else m₀ y) := by
  have e2 : (fun y => if y = Str.ofString "i" then some v else m₁ y) = fun y => if y = Str.ofString "i" then some v else if y = Str.ofString "count" then some k else m₀ y := by
    funext y
    by_cases h1 : y = Str.ofString "i"
    · rw [if_pos h1, if_pos h1]
    · rw [if_neg h1, if_neg h1]
      by_cases h2 : y = Str.ofString "count"
      · rw [if_pos h2, h2, e]
      · rw [if_neg h2, hr y h1 h2]
  rw [← e2]
  exact F
theorem cnt_fr2 {h₀ h : Heap} {L : Addr} {m₁ : Str → Option Value} {k : Value} (e : m₁ (Str.ofString "count") = some k) (F : Fr h₀ L h m₁) : Fr h₀ L h (fun y => if y = Str.ofString "count" then some k else m₁ y) := by
  have e2 : m₁ = fun y => if y = Str.ofString "count" then some k else m₁ y := by
    funext y
    by_cases h2 : y = Str.ofString "count"
    · rw [if_pos h2, h2, e]
    · rw [if_neg h2]
  rw [← e2]
  exact F
theorem quote_is : Str.ofString "\"" = ⟨#[34]⟩ := by decide +kernel
theorem cnt_take {r : Str} {i c : Nat} (hc : r.cps[i]? = some c) : r.cps.toList.take (i + 1) = r.cps.toList.take i ++ [c] := by
  rw [List.take_add_one, Array.getElem?_toList, hc]
  rfl
theorem cnt_yes {r : Str} {i c : Nat} (hc : r.cps[i]? = some c) (e : (⟨#[c]⟩ : Str) = Str.ofString "\"") : ((r.cps.toList.take i).count 34 : Int) + 1 = ((r.cps.toList.take (i + 1)).count 34 : Int) := by
  rw [quote_is] at e
  have e2 : c = 34 := by
    have := congrArg Str.cps e
    simpa using this
  rw [cnt_take hc, e2, List.count_append]
  simp
theorem cnt_no {r : Str} {i c : Nat} (hc : r.cps[i]? = some c) (e : ((⟨#[c]⟩ : Str) == Str.ofString "\"") = false) : ((r.cps.toList.take i).count 34 : Int) = ((r.cps.toList.take (i + 1)).count 34 : Int) := by
  have e2 : c ≠ 34 := by
    rintro rfl
    rw [quote_is] at e
    simp at e
  rw [cnt_take hc, List.count_append]
  simp [e2]
theorem cnt_end {h₀ h' : Heap} {L I : Addr} {oI : Obj} {s : Shared} {Q : Flow → Shared → Prop} {r : Str} {news : List (Addr × Obj)} {m₀ m' : Str → Option Value} {i : Nat} {k : Int} {tk : Nat}
    (F : Fr h₀ L h' m') (N : News h₀ L h' ((I, oI) :: news)) (off : ∀ p ∈ news, p.1 ≠ I) (he : ∃ t, m' (Str.ofString "count") = some (.int k t)) (hk : k = ((r.cps.toList.take (i + 1)).count 34 : Int))
    (hr : ∀ z, z ≠ Str.ofString "i" → z ≠ Str.ofString "count" → m' z = m₀ z) : ForPost h₀ L I oI (CntJ r news m₀ (i + 1)) s Q .next { s with heap := h', toks := tk } := by
  subst hk
  exact ⟨h', tk, m', news, rfl, F, N, off, rfl, he, hr⟩
noncomputable def noKey (o : Option Obj) : Bool := match o with
  | some ⟨_, _, .dict es _, _⟩ => (nsFind es sharingNotToldKey).isNone
  | _ => false
theorem none_booked {w : World} {h₀ h : Heap} {L : Addr} {m mg mb : Str → Option Value} {p : Program} {loose : List Str} {mean : ExcName → Option Value} (X : (hd0.heap_1_39 w.params).In h₀) (F : Fr h₀ L h m) (T : Top p loose mean mg mb h₀) : NoneBooked h := by
  obtain ⟨mc, ⟨o, es, ep, ho, hd9, hk, hf⟩, _⟩ := T.nolimit
  refine ⟨mc, ⟨o, es, ep, F.keep _ _ ho, hd9, hk, hf⟩, ?_⟩
  rw [← hf]
  have e : noKey ((hd0.heap_1_39 w.params).lookup 2) = true := by rfl
  unfold noKey at e
  split at e
  · rename_i q
    have h2 := X _ _ q
    have h3 : h₀.get? 2 = some o := ho
    rw [h3] at h2
    cases h2
    cases hd9
    exact Option.isNone_iff_eq_none.mp e
  · cases e
set_option maxHeartbeats 4000000 in
theorem countOf_ok (w : World) (r : Str) (t u : Tok) (hu1 : 1 ≤ u) (ha : r.cps.all (· < 128) = true) (news : List (Addr × Obj)) :
    ClaimT w (u + 1) 1 122 [.str r t, .str (Str.ofString "\"") u] [] news (fun v nw => ∃ t', v = .int (r.cps.toList.count 34 : Int) t' ∧ nw = news) := by
  unfold ClaimT
  k_fill
  intro dp un gd cn cs a ccd cl outer A₀ base h₀ L m s Q E p loose mean mg mb B F X N T hk hd hu hn ret
  have st6 : StopAt "compareOp Is str str" := ⟨⟩
  have st6 : StopAt "execs cons" := ⟨⟩
  have st6 : StopAt "execs nil" := ⟨⟩
  have st6 : StopAt "pyIter str" := ⟨⟩
  have st6 : StopAt "exec For Name Name cons nil" := ⟨⟩
  have hT := TokLe.mk hn
  refine wpAny_call ?_
  k_dflt cell_enter
  k_steps
  repeat' ((with_reducible refine Hold.out ?_); (first | (refine is_str (by assumption) (by assumption) (none_booked (by k_asm) (by k_asm) (by k_asm)) ?_; intro _ _) | (refine gen_toks (by assumption) (by (try dsimp only); lia) ?_; intro _ _; refine wpAny_execs_cons ?_; (try dsimp only)) | (refine gen_toks (by assumption) (by (try dsimp only); lia) ?_; intro _ _; refine wpAny_execs_nil ?_; (try dsimp only)) | fail); k_steps)
  refine Hold.out ?_
  refine wpAny_For ?_
  k_steps
  repeat' ((with_reducible refine Hold.out ?_); (first | (refine is_str (by assumption) (by assumption) (none_booked (by k_asm) (by k_asm) (by k_asm)) ?_; intro _ _) | (refine gen_toks (by assumption) (by (try dsimp only); lia) ?_; intro _ _; refine wpAny_execs_cons ?_; (try dsimp only)) | (refine gen_toks (by assumption) (by (try dsimp only); lia) ?_; intro _ _; refine wpAny_execs_nil ?_; (try dsimp only)) | fail); k_steps)
  refine Hold.out ?_
  rename Fr _ _ _ _ => F1
  rename News _ _ _ _ => N1
  rename TokLe _ _ => hT1
  refine iter_str (n₀ := u + 1) (CntJ r news _) rfl rfl rfl rfl ha hT1.out F1 N1 ⟨rfl, ⟨_, rfl⟩, fun _ _ _ => rfl⟩ ?_ ?_
  · rintro i c tc I m₁ news₁ oI h tk2 hc htc htk ⟨rfl, ⟨t1, e1⟩, hr⟩ off F2 N2
    replace F2 := cnt_fr e1 hr F2
    have hT2 := TokLe.mk htk
    clear F1 N1 hT1
    k_steps
    repeat' ((with_reducible refine Hold.out ?_); (first | (refine is_str (by assumption) (by assumption) (none_booked (by k_asm) (by k_asm) (by k_asm)) ?_; intro _ _) | (refine gen_toks (by assumption) (by (try dsimp only); lia) ?_; intro _ _; refine wpAny_execs_cons ?_; (try dsimp only)) | (refine gen_toks (by assumption) (by (try dsimp only); lia) ?_; intro _ _; refine wpAny_execs_nil ?_; (try dsimp only)) | fail); k_steps)
    · rename Fr _ _ _ _ => F9
      rename News _ _ _ _ => N9
      rename _ = true => hb
      rename _ → _ = Str.ofString "\"" => hbi
      exact cnt_end F9 N9 off ⟨_, rfl⟩ (cnt_yes hc (hbi hb)) (by intro z h1 h2; simp only [if_neg h1, if_neg h2])
    · rename Fr _ _ _ _ => F9
      rename News _ _ _ _ => N9
      rename (_ == Str.ofString "\"") = true => hb
      exact cnt_end F9 N9 off ⟨_, rfl⟩ (cnt_yes hc (eq_of_beq hb)) (by intro z h1 h2; simp only [if_neg h1, if_neg h2])
    · rename (_ == Str.ofString "\"") = false => hb
      exact cnt_end F2 N2 off ⟨_, rfl⟩ (cnt_no hc hb) (by intro z h1 h2; simp only [if_neg h1, if_neg h2])
  · rintro m' news' h tk2 htk ⟨rfl, ⟨t1, e1⟩, hr⟩ F2 N2
    replace F2 := cnt_fr2 e1 F2
    have hT2 := TokLe.mk htk
    clear F1 N1 hT1
    k_steps
    repeat' ((with_reducible refine Hold.out ?_); (first | (refine is_str (by assumption) (by assumption) (none_booked (by k_asm) (by k_asm) (by k_asm)) ?_; intro _ _) | (refine gen_toks (by assumption) (by (try dsimp only); lia) ?_; intro _ _; refine wpAny_execs_cons ?_; (try dsimp only)) | (refine gen_toks (by assumption) (by (try dsimp only); lia) ?_; intro _ _; refine wpAny_execs_nil ?_; (try dsimp only)) | fail); k_steps)
    exact ret _ _ _ _ ⟨t1, by rw [List.take_of_length_le (by simp)], rfl⟩ (by assumption) (by assumption)
end Mine
namespace Mine
noncomputable abbrev qtext (M : Int) : Str := Str.ofString "257 \"" ++ Txt.mul (Str.ofString "\"") M ++ Str.ofString "z\""
noncomputable def qOk (M : Nat) : Bool := decide ((qtext M).length ≤ 100) && decide (5 ≤ (qtext M).length) && (Txt.slice (qtext M) none (some 3) != Str.ofString "257") == false && (Txt.slice (qtext M) (some 3) (some 5) != Str.ofString " \"") == false &&
  (scan (qtext M) 200 5 Str.empty).cps.all (· < 128) && decide (((scan (qtext M) 200 5 Str.empty).cps.toList.count 34 : Int) = (M : Int) / 2) &&
  decide (scan (qtext M) 200 5 Str.empty = Txt.mul (Str.ofString "\"") (Int.fdiv M 2) ++ Txt.mul (Str.ofString "z") (1 - Int.fmod M 2))
theorem qOk_all : ∀ M, M < 10 → qOk M = true := by decide +kernel
structure QFacts (M : Int) : Prop where
  len : (qtext M).length ≤ 100
  five : 5 ≤ (qtext M).length
  s3 : (Txt.slice (qtext M) none (some 3) != Str.ofString "257") = false
  s5 : (Txt.slice (qtext M) (some 3) (some 5) != Str.ofString " \"") = false
  asc : (scan (qtext M) 200 5 Str.empty).cps.all (· < 128) = true
  cnt : ((scan (qtext M) 200 5 Str.empty).cps.toList.count 34 : Int) = M / 2
  txt : scan (qtext M) 200 5 Str.empty = Txt.mul (Str.ofString "\"") (Int.fdiv M 2) ++ Txt.mul (Str.ofString "z") (1 - Int.fmod M 2)
theorem qfacts {M : Int} (h0 : 0 ≤ M) (h1 : M ≤ 9) : QFacts M := by
  obtain ⟨n, rfl⟩ := Int.eq_ofNat_of_zero_le h0
  have h := qOk_all n (by lia)
  simp only [qOk, Bool.and_eq_true, decide_eq_true_eq, beq_iff_eq] at h
  obtain ⟨⟨⟨⟨⟨⟨a, b⟩, c⟩, d⟩, e⟩, f⟩, g⟩ := h
  exact ⟨a, b, c, d, e, f, g⟩
theorem tok_le {n tk X : Nat} (h : TokLe n tk) (k : tk ≤ X) : n ≤ X := Nat.le_trans h.out k
/-- how often m can be halved and be no fewer than few -/
noncomputable def halv (few : Int) : Nat → Int → Int
  | 0, _ => 0
  | k + 1, m => if m / 2 < few then 0 else halv few k (m / 2) + 1
noncomputable def HalvJ (few many : Int) (news : List (Addr × Obj)) (m₀ : Str → Option Value) (i : Nat) (m : Str → Option Value) (nx : List (Addr × Obj)) : Prop :=
  nx = news ∧ ∃ M c tM tc, m (Str.ofString "many") = some (.int M tM) ∧ m (Str.ofString "times") = some (.int c tc) ∧ few ≤ M ∧ M + i ≤ many ∧ ∃ k, M.toNat ≤ k ∧ c + halv few k M = halv few 20 many ∧
    ∀ z, z ≠ Str.ofString "_" → z ≠ Str.ofString "many" → z ≠ Str.ofString "times" → m z = m₀ z
theorem halv_fr {h₀ h : Heap} {L : Addr} {m₁ m₀ : Str → Option Value} {v k1 k2 : Value} (e1 : m₁ (Str.ofString "many") = some k1) (e2 : m₁ (Str.ofString "times") = some k2) (hr : ∀ z, z ≠ Str.ofString "_" → z ≠ Str.ofString "many" → z ≠ Str.ofString "times" → m₁ z = m₀ z)
    (F : Fr h₀ L h (fun y => if y = Str.ofString "_" then some v else m₁ y)) : Fr h₀ L h (fun y => if y = Str.ofString "_" then some v else if y = Str.ofString "many" then some k1 else if y = Str.ofString "times" then some k2 else m₀ y) := by
  have e : (fun y => if y = Str.ofString "_" then some v else m₁ y) = fun y => if y = Str.ofString "_" then some v else if y = Str.ofString "many" then some k1 else if y = Str.ofString "times" then some k2 else m₀ y := by
    funext y
    by_cases h1 : y = Str.ofString "_"
    · rw [if_pos h1, if_pos h1]
    · rw [if_neg h1, if_neg h1]
      by_cases h2 : y = Str.ofString "many"
      · rw [if_pos h2, h2, e1]
      · rw [if_neg h2]
        by_cases h3 : y = Str.ofString "times"
        · rw [if_pos h3, h3, e2]
        · rw [if_neg h3, hr y h1 h2 h3]
  rw [← e]
  exact F
theorem halv_lo {few M : Int} {k : Nat} (h : 1 ≤ M) (hk : M.toNat ≤ k) (hl : M / 2 < few) : halv few k M = 0 := by
  obtain ⟨j, rfl⟩ : ∃ j, k = j + 1 := ⟨k - 1, by lia⟩
  rw [halv, if_pos hl]
theorem halv_hi {few M : Int} {k : Nat} (h : 1 ≤ M) (hk : M.toNat ≤ k) (hl : ¬ M / 2 < few) : halv few k M = halv few (k - 1) (M / 2) + 1 := by
  obtain ⟨j, rfl⟩ : ∃ j, k = j + 1 := ⟨k - 1, by lia⟩
  rw [halv, if_neg hl]
  rfl
local macro_rules | `(tactic| walk_at "eval BinOp") => `(tactic| (k_here; (with_reducible show wpAny _ _ (eval (Expr.BinOp (Expr.BinOp (Expr.Constant _ _ _) _ _ _) _ (Expr.Constant _ _ _) _) _) _ _ _); refine Hold.of ?_))
set_option maxHeartbeats 4000000 in
theorem halv_ok (w : World) (many few : Int) (t u : Tok) (h1 : 1 ≤ few) (h2 : few ≤ many) (h3 : many ≤ 9) (news : List (Addr × Obj)) :
    Claim w 3 164 [.int many t, .int few u] [] news (fun v nw => ∃ t', v = .int (halv few 20 many) t' ∧ nw = news) := by
  unfold Claim
  k_fill
  intro dp un gd cn cs a ccd cl outer A₀ base h₀ L m s Q E p loose mean mg mb B F X N T hk hd hu ret
  have st6 : StopAt "call ref" := ⟨⟩
  have st6 : StopAt "execs cons" := ⟨⟩
  have st6 : StopAt "execs nil" := ⟨⟩
  have st6 : StopAt "exec For Name Call cons nil" := ⟨⟩
  have st6 : StopAt "pyIter ref" := ⟨⟩
  refine wpAny_call ?_
  k_dflt cell_enter
  refine gen_toks1 (Nat.le_trans (by decide : 1 ≤ 2) (Nat.le_add_left 2 s.toks)) ?_
  intro tk0 hT0
  k_steps
  repeat' ((with_reducible refine Hold.out ?_); (first | (refine wpAny_with_toks (n := 1) (tok_le (by assumption) (by (try dsimp only); lia)) (wpAny_BinOp ?_)) | (refine gen_toks (by assumption) (by (try dsimp only); lia) ?_; intro _ _; refine wpAny_execs_cons ?_; (try dsimp only)) | (refine gen_toks (by assumption) (by (try dsimp only); lia) ?_; intro _ _; refine wpAny_execs_nil ?_; (try dsimp only)) | ((rename QFacts _ => hq'); refine ClaimT.useS (n₀ := 0) (n₁ := 1) ⟨by k_asm, by k_asm, by k_asm, by k_asm, by k_asm, by first | exact rfl | assumption, by first | exact room1 (by with_reducible assumption) (by decide) | ktr_room, by first | exact units1 (by with_reducible assumption) (by decide) | ktr_units⟩ (Claim.toT (parse257_ok _ _ _ hq'.len hq'.s3 hq'.s5 hq'.five _)) (Nat.zero_le _) (by assumption) ?_; (intro _ _ _ _ hTk' hRet' _ _); (obtain ⟨t', hv', hx'⟩ := hRet'); subst hv'; subst hx'; (try dsimp only)) | ((rename QFacts _ => hq'); refine ClaimT.useS (n₁ := 1) ⟨by k_asm, by k_asm, by k_asm, by k_asm, by k_asm, by first | exact rfl | assumption, by first | exact room1 (by with_reducible assumption) (by decide) | ktr_room, by first | exact units1 (by with_reducible assumption) (by decide) | ktr_units⟩ (countOf_ok _ _ _ _ (by assumption) hq'.asc _) (Nat.le_refl _) (Nat.le_succ_of_le (by assumption)) ?_; (intro _ _ _ _ hTk' hRet' _ _); (obtain ⟨t', hv', hx'⟩ := hRet'); (rw [hq'.cnt] at hv'); subst hv'; subst hx'; (have hT' := TokLe.mk hTk'); (try dsimp only)) | (refine ClaimT.useS (n₀ := 0) (n₁ := 1) ⟨by k_asm, by k_asm, by k_asm, by k_asm, by k_asm, by first | exact rfl | assumption, by first | exact room1 (by with_reducible assumption) (by decide) | ktr_room, by first | exact units1 (by with_reducible assumption) (by decide) | ktr_units⟩ (Claim.toT (gt_ok _ _ _ _ _ _)) (Nat.zero_le _) (tok_le (by assumption) (by (try dsimp only); lia)) ?_; (intro _ _ _ _ hTk' hRet' _ _); (obtain ⟨hv', hx'⟩ := hRet'); subst hv'; subst hx'; (have hT' := TokLe.mk hTk'); (try dsimp only)) | fail); k_steps)
  refine Hold.out ?_
  rename TokLe _ _ => hT1
  refine wpAny_For (wpAny_with_toks (n := 1) hT1.out ?_)
  k_steps
  repeat' ((with_reducible refine Hold.out ?_); (first | (refine wpAny_with_toks (n := 1) (tok_le (by assumption) (by (try dsimp only); lia)) (wpAny_BinOp ?_)) | (refine gen_toks (by assumption) (by (try dsimp only); lia) ?_; intro _ _; refine wpAny_execs_cons ?_; (try dsimp only)) | (refine gen_toks (by assumption) (by (try dsimp only); lia) ?_; intro _ _; refine wpAny_execs_nil ?_; (try dsimp only)) | ((rename QFacts _ => hq'); refine ClaimT.useS (n₀ := 0) (n₁ := 1) ⟨by k_asm, by k_asm, by k_asm, by k_asm, by k_asm, by first | exact rfl | assumption, by first | exact room1 (by with_reducible assumption) (by decide) | ktr_room, by first | exact units1 (by with_reducible assumption) (by decide) | ktr_units⟩ (Claim.toT (parse257_ok _ _ _ hq'.len hq'.s3 hq'.s5 hq'.five _)) (Nat.zero_le _) (by assumption) ?_; (intro _ _ _ _ hTk' hRet' _ _); (obtain ⟨t', hv', hx'⟩ := hRet'); subst hv'; subst hx'; (try dsimp only)) | ((rename QFacts _ => hq'); refine ClaimT.useS (n₁ := 1) ⟨by k_asm, by k_asm, by k_asm, by k_asm, by k_asm, by first | exact rfl | assumption, by first | exact room1 (by with_reducible assumption) (by decide) | ktr_room, by first | exact units1 (by with_reducible assumption) (by decide) | ktr_units⟩ (countOf_ok _ _ _ _ (by assumption) hq'.asc _) (Nat.le_refl _) (Nat.le_succ_of_le (by assumption)) ?_; (intro _ _ _ _ hTk' hRet' _ _); (obtain ⟨t', hv', hx'⟩ := hRet'); (rw [hq'.cnt] at hv'); subst hv'; subst hx'; (have hT' := TokLe.mk hTk'); (try dsimp only)) | (refine ClaimT.useS (n₀ := 0) (n₁ := 1) ⟨by k_asm, by k_asm, by k_asm, by k_asm, by k_asm, by first | exact rfl | assumption, by first | exact room1 (by with_reducible assumption) (by decide) | ktr_room, by first | exact units1 (by with_reducible assumption) (by decide) | ktr_units⟩ (Claim.toT (gt_ok _ _ _ _ _ _)) (Nat.zero_le _) (tok_le (by assumption) (by (try dsimp only); lia)) ?_; (intro _ _ _ _ hTk' hRet' _ _); (obtain ⟨hv', hx'⟩ := hRet'); subst hv'; subst hx'; (have hT' := TokLe.mk hTk'); (try dsimp only)) | fail); k_steps)
  refine Hold.out ?_
  rename Fr _ _ _ _ => F1
  rename News _ _ _ _ => N1
  rename IsRange _ _ _ _ _ _ _ _ => R1
  rename 1 ≤ _ => hT2
  refine iter_range (n₀ := 1) (n := many.toNat) (HalvJ few many news _) rfl rfl rfl rfl R1 (small_one (by decide) (by decide) (by lia) (by lia)) (by rw [rangeSize_nat, Int.sub_zero]) hT2 F1 N1 ⟨rfl, many, 0, _, _, rfl, rfl, h2, by simp, 20, by lia, Int.zero_add _, fun _ _ _ _ => rfl⟩ ?_ ?_
  · rintro i ti I m₁ news₁ oI h tk2 hi htk ⟨rfl, M, c, tM, tc, eM, ec, hM, hMi, k', hk', hs', hr⟩ off F2 N2
    replace F2 := halv_fr eM ec hr F2
    have hT3 := TokLe.mk htk
    have hq := qfacts (M := M) (by lia) (by lia)
    clear F1 N1 hT1 hT2 hr
    k_steps
    repeat' ((with_reducible refine Hold.out ?_); (first | (refine wpAny_with_toks (n := 1) (tok_le (by assumption) (by (try dsimp only); lia)) (wpAny_BinOp ?_)) | (refine gen_toks (by assumption) (by (try dsimp only); lia) ?_; intro _ _; refine wpAny_execs_cons ?_; (try dsimp only)) | (refine gen_toks (by assumption) (by (try dsimp only); lia) ?_; intro _ _; refine wpAny_execs_nil ?_; (try dsimp only)) | ((rename QFacts _ => hq'); refine ClaimT.useS (n₀ := 0) (n₁ := 1) ⟨by k_asm, by k_asm, by k_asm, by k_asm, by k_asm, by first | exact rfl | assumption, by first | exact room1 (by with_reducible assumption) (by decide) | ktr_room, by first | exact units1 (by with_reducible assumption) (by decide) | ktr_units⟩ (Claim.toT (parse257_ok _ _ _ hq'.len hq'.s3 hq'.s5 hq'.five _)) (Nat.zero_le _) (by assumption) ?_; (intro _ _ _ _ hTk' hRet' _ _); (obtain ⟨t', hv', hx'⟩ := hRet'); subst hv'; subst hx'; (try dsimp only)) | ((rename QFacts _ => hq'); refine ClaimT.useS (n₁ := 1) ⟨by k_asm, by k_asm, by k_asm, by k_asm, by k_asm, by first | exact rfl | assumption, by first | exact room1 (by with_reducible assumption) (by decide) | ktr_room, by first | exact units1 (by with_reducible assumption) (by decide) | ktr_units⟩ (countOf_ok _ _ _ _ (by assumption) hq'.asc _) (Nat.le_refl _) (Nat.le_succ_of_le (by assumption)) ?_; (intro _ _ _ _ hTk' hRet' _ _); (obtain ⟨t', hv', hx'⟩ := hRet'); (rw [hq'.cnt] at hv'); subst hv'; subst hx'; (have hT' := TokLe.mk hTk'); (try dsimp only)) | (refine ClaimT.useS (n₀ := 0) (n₁ := 1) ⟨by k_asm, by k_asm, by k_asm, by k_asm, by k_asm, by first | exact rfl | assumption, by first | exact room1 (by with_reducible assumption) (by decide) | ktr_room, by first | exact units1 (by with_reducible assumption) (by decide) | ktr_units⟩ (Claim.toT (gt_ok _ _ _ _ _ _)) (Nat.zero_le _) (tok_le (by assumption) (by (try dsimp only); lia)) ?_; (intro _ _ _ _ hTk' hRet' _ _); (obtain ⟨hv', hx'⟩ := hRet'); subst hv'; subst hx'; (have hT' := TokLe.mk hTk'); (try dsimp only)) | fail); k_steps)
    · dsimp only [ForPost]
      rename M / 2 < few => hl
      rw [halv_lo (by lia) hk' hl, Int.add_zero] at hs'
      k_steps
      repeat' ((with_reducible refine Hold.out ?_); (first | (refine wpAny_with_toks (n := 1) (tok_le (by assumption) (by (try dsimp only); lia)) (wpAny_BinOp ?_)) | (refine gen_toks (by assumption) (by (try dsimp only); lia) ?_; intro _ _; refine wpAny_execs_cons ?_; (try dsimp only)) | (refine gen_toks (by assumption) (by (try dsimp only); lia) ?_; intro _ _; refine wpAny_execs_nil ?_; (try dsimp only)) | ((rename QFacts _ => hq'); refine ClaimT.useS (n₀ := 0) (n₁ := 1) ⟨by k_asm, by k_asm, by k_asm, by k_asm, by k_asm, by first | exact rfl | assumption, by first | exact room1 (by with_reducible assumption) (by decide) | ktr_room, by first | exact units1 (by with_reducible assumption) (by decide) | ktr_units⟩ (Claim.toT (parse257_ok _ _ _ hq'.len hq'.s3 hq'.s5 hq'.five _)) (Nat.zero_le _) (by assumption) ?_; (intro _ _ _ _ hTk' hRet' _ _); (obtain ⟨t', hv', hx'⟩ := hRet'); subst hv'; subst hx'; (try dsimp only)) | ((rename QFacts _ => hq'); refine ClaimT.useS (n₁ := 1) ⟨by k_asm, by k_asm, by k_asm, by k_asm, by k_asm, by first | exact rfl | assumption, by first | exact room1 (by with_reducible assumption) (by decide) | ktr_room, by first | exact units1 (by with_reducible assumption) (by decide) | ktr_units⟩ (countOf_ok _ _ _ _ (by assumption) hq'.asc _) (Nat.le_refl _) (Nat.le_succ_of_le (by assumption)) ?_; (intro _ _ _ _ hTk' hRet' _ _); (obtain ⟨t', hv', hx'⟩ := hRet'); (rw [hq'.cnt] at hv'); subst hv'; subst hx'; (have hT' := TokLe.mk hTk'); (try dsimp only)) | (refine ClaimT.useS (n₀ := 0) (n₁ := 1) ⟨by k_asm, by k_asm, by k_asm, by k_asm, by k_asm, by first | exact rfl | assumption, by first | exact room1 (by with_reducible assumption) (by decide) | ktr_room, by first | exact units1 (by with_reducible assumption) (by decide) | ktr_units⟩ (Claim.toT (gt_ok _ _ _ _ _ _)) (Nat.zero_le _) (tok_le (by assumption) (by (try dsimp only); lia)) ?_; (intro _ _ _ _ hTk' hRet' _ _); (obtain ⟨hv', hx'⟩ := hRet'); subst hv'; subst hx'; (have hT' := TokLe.mk hTk'); (try dsimp only)) | fail); k_steps)
      exact ret _ _ _ _ ⟨_, by rw [← hs'], rfl⟩ (by assumption) (news_sub (by assumption) (fun p hp => .tail _ hp))
    · rename ¬ M / 2 < few => hl
      rename Fr _ _ _ _ => F9
      rename News _ _ _ _ => N9
      rw [halv_hi (by lia) hk' hl] at hs'
      exact ⟨_, _, _, _, rfl, F9, N9, off, rfl, M / 2, c + 1, _, _, rfl, rfl, by lia, by lia, k' - 1, by lia, by lia, fun z h1 h2 h3 => by simp only [if_neg h1, if_neg h2, if_neg h3]⟩
  · rintro m' news' h tk2 htk ⟨rfl, M, c, tM, tc, eM, ec, hM, hMi, k', hk', hs', hr⟩ F2 N2
    exfalso
    lia
end Mine
namespace Mine
theorem slot_md_get : Slot "method_descriptor" "__get__" "method_descriptor.__get__" :=
  .of (owner := "method_descriptor") (n := "__get__") (by rw [typeLookup_type, builtinLookup_eq_fast]; kernel_rfl) (by decide +kernel) (by decide +kernel) (by decide +kernel)
    (by first | exact .inl (by decide +kernel) | exact .inr (by decide +kernel)) (by rw [isSubtype_type]; kernel_rfl)
theorem entry_md_get : entryFor table "method_descriptor.__get__" = some Builtin.«method_descriptor.__get__» := entryFor_of_tree (by kernel_rfl)
theorem args_md_get (a b c : Value) : argsOk "method_descriptor.__get__" ⟨[a, b, c], []⟩ := by unfold argsOk; kernel_rfl
theorem type_lgi : typeOf (.builtin "list.__getitem__") = pure (.type "method_descriptor") := by show builtinType _ = _; rw [builtinType_eq_fast]; kernel_rfl
theorem lk_list_gi : typeLookup (.type "list") "__getitem__" = pure (some (.builtin "list.__getitem__")) := by rw [typeLookup_type, builtinLookup_eq_fast]; kernel_rfl
theorem lk_md_set : typeLookup (.type "method_descriptor") "__set__" = pure none := by rw [typeLookup_type, builtinLookup_eq_fast]; kernel_rfl
theorem lk_md_del : typeLookup (.type "method_descriptor") "__delete__" = pure none := by rw [typeLookup_type, builtinLookup_eq_fast]; kernel_rfl
theorem sub_list_gi : isSubtype (.type "list") (.type (".".intercalate ("list.__getitem__".cutAt '.').dropLast)) = pure true := by
  rw [show ".".intercalate ("list.__getitem__".cutAt '.').dropLast = "list" by decide +kernel, isSubtype_type]; kernel_rfl
theorem entry_hasattr : entryFor table "hasattr" = some Builtin.«hasattr» := entryFor_of_tree (by kernel_rfl)
section
variable {prog : Program} {w : World} {A : Around} {E : Value → Shared → Prop} {h : Heap} {g : Array GenState} {d : Drawn} {t : Nat} {os : OsState} {a : Addr} {vs : List Value} {n : Nat}
theorem gi_get_list {R : Result → Shared → Prop} (hx : h.get? a = some (lstO vs n)) (hq : R (.ok (.ret (.ref h.objs.size))) ⟨h.push { cls := .type "builtin_function_or_method", data := .fields #[.builtin "list.__getitem__", .ref a] }, g, d, t, os⟩) :
    codeAny (model prog w) A (.call (.builtin "method_descriptor.__get__") ⟨[.builtin "list.__getitem__", .ref a, .type "list"], []⟩) R ⟨h, g, d, t, os⟩ := by
  have hT : (⟨h, g, d, t, os⟩ : Shared).TypeIs (.ref a) "list" := ⟨_, hx, rfl⟩
  have hT5 : (⟨h, g, d, t, os⟩ : Shared).TypeIs (.builtin "list.__getitem__") "method_descriptor" := type_lgi
  have f8 := sub_list_gi
  refine codeAny_call_builtin slot_md_get.plain entry_md_get (slot_md_get.check _ _ _ _ _ _ _ _ hT5 (args_md_get _ _ _) ?_)
  repeat (any_goals (first | assumption | wp_step))
theorem gi_entry_list {tk : Tok} {Q : Fin → Shared → Prop} (hx : h.get? a = some (lstO vs n)) (hq : Q (.done (.ret (.ref h.objs.size))) ⟨h.push { cls := .type "builtin_function_or_method", data := .fields #[.builtin "list.__getitem__", .ref a] }, g, d, t, os⟩) :
    wpAny (model prog w) A (Builtin.«object.__getattribute__» ⟨[.ref a, .str "__getitem__" tk], []⟩) Q E ⟨h, g, d, t, os⟩ := by
  have hT : (⟨h, g, d, t, os⟩ : Shared).TypeIs (.ref a) "list" := ⟨_, hx, rfl⟩
  have hT5 : (⟨h, g, d, t, os⟩ : Shared).TypeIs (.builtin "list.__getitem__") "method_descriptor" := type_lgi
  have f4 := lk_list_gi
  have f5 := type_lgi
  have f6 := slot_md_get.lookup
  have f7 := lk_md_set
  have f8 := lk_md_del
  repeat (any_goals (first | assumption | wp_step))
  refine gi_get_list hx ?_
  repeat (any_goals (first | assumption | wp_step))
theorem gi_call_list {tk : Tok} {R : Result → Shared → Prop} (hx : h.get? a = some (lstO vs n)) (hq : R (.ok (.ret (.ref h.objs.size))) ⟨h.push { cls := .type "builtin_function_or_method", data := .fields #[.builtin "list.__getitem__", .ref a] }, g, d, t, os⟩) :
    codeAny (model prog w) A (.call (.builtin "list.__getattribute__") ⟨[.ref a, .str "__getitem__" tk], []⟩) R ⟨h, g, d, t, os⟩ :=
  codeAny_call_builtin F.slot_list_getattribute.plain F.entry_list_ga (F.slot_list_getattribute.check _ _ _ _ _ _ _ _ (show (⟨h, g, d, t, os⟩ : Shared).TypeIs (.ref a) "list" from ⟨_, hx, rfl⟩) (F.args_list_getattribute_2 _ _) (gi_entry_list hx hq))
theorem gi_by_list {tk : Tok} {Q : Value → Shared → Prop} (hx : h.get? a = some (lstO vs n)) (hq : Q (.ref h.objs.size) ⟨h.push { cls := .type "builtin_function_or_method", data := .fields #[.builtin "list.__getitem__", .ref a] }, g, d, t, os⟩) :
    wpAny (model prog w) A (getAttrBy (.ref a) (.str "__getitem__" tk) false) Q E ⟨h, g, d, t, os⟩ := by
  have hT : (⟨h, g, d, t, os⟩ : Shared).TypeIs (.ref a) "list" := ⟨_, hx, rfl⟩
  have f2 := F.slot_list_getattribute.lookup
  have f3 := F.slot_list_getattribute.bind (.ref a)
  repeat (any_goals (first | assumption | wp_step))
  refine gi_call_list hx ?_
  repeat (any_goals (first | assumption | wp_step))
theorem sub_list_module : isSubtype (.type "list") (.type "module") = pure false := by rw [isSubtype_type]; kernel_rfl
theorem kind_hasattr : builtinKind "hasattr" = none := by decide +kernel
theorem plain_hasattr : plainId "hasattr" = true := by decide +kernel
theorem args_hasattr (a b : Value) : argsOk "hasattr" ⟨[a, b], []⟩ := by unfold argsOk; kernel_rfl
theorem hasattr_gi {s : Shared} {tk : Tok} {Q : Value → Shared → Prop} (hx : s.heap.get? a = some (lstO vs n)) (hq : Q (.bool true) { s with heap := s.heap.push { cls := .type "builtin_function_or_method", data := .fields #[.builtin "list.__getitem__", .ref a] } }) :
    wpAny (model prog w) A (call (.builtin "hasattr") [.ref a, .str (Str.ofString "__getitem__") tk]) Q E s := by
  obtain ⟨h, g, d, t, os⟩ := s
  have hT : (⟨h, g, d, t, os⟩ : Shared).TypeIs (.ref a) "list" := ⟨_, hx, rfl⟩
  have f2 := F.slot_list_getattribute.lookup
  have f4 := lk_list_gi
  have f5 := sub_list_module
  refine Calls.call_function_entry kind_hasattr plain_hasattr entry_hasattr (args_hasattr _ _) ?_
  unfold Builtin.«hasattr»
  refine wpAny_bind (wpAny_of_eq (a := [.ref a, _]) (by first | rfl | kernel_rfl) ?_)
  dsimp only
  refine wpAny_bind (wpAny_of_eq (a := ()) (by first | rfl | kernel_rfl) ?_)
  repeat (any_goals (first | assumption | (unfold getAttrBy?) | with_reducible apply gi_by_list hx | wp_step))
  exact ⟨_, rfl, hq⟩
end
end Mine
namespace Mine
section
variable {prog : Program} {w : World} {A : Around} {E : Value → Shared → Prop} {s : Shared} {h₀ : Heap} {L : Addr} {m : Str → Option Value} {news : List (Addr × Obj)}
theorem fill_list_iadd : fillsInplaceSlot (.type "list") "add" (Operator.Add == .Add) = pure false := by
  unfold fillsInplaceSlot
  show (typeLookup (.type "list") (dunderI "add") >>= fun fi => pure (fi.isSome && !isSeqSlot fi)) = pure false
  rw [F.slot_list_iadd.lookup, pure_bind]
  rw [show (isSeqSlot (some (Value.builtin "list.__iadd__"))) = true by decide +kernel]
  rfl
theorem seq_list_iadd : seqSlot? (.type "list") (dunderI "add") = pure (some (.builtin "list.__iadd__")) := PySem.seqSlot_of F.slot_list_iadd.lookup (by decide +kernel)
theorem iadd_L {D an : Addr} {ds ws : List Value} {nd na : Nat} {Q : Value → Shared → Prop} (F : Fr h₀ L s.heap m) (N : News h₀ L s.heap ((D, lstO ds nd) :: news)) (hb : (an, lstO ws na) ∈ news) (hne : ∀ q ∈ news, q.1 ≠ D) (hsz : ds.length + ws.length ≤ 100)
    (h : ∀ h' n', Fr h₀ L h' m → News h₀ L h' ((D, lstO (ds ++ ws) n') :: news) → Q (.ref D) { s with heap := h' }) :
    wpAny (model prog w) A (inplaceOp .Add (.ref D) (.ref an)) Q E s := by
  have o1 := (N _ (.head _)).1
  have o2 := (N _ (.tail _ hb)).1
  have z : ds.toArray.size + ws.toArray.size ≤ sizeLine := by rw [List.size_toArray, List.size_toArray, sizeLine_eq]; lia
  have ha : s.TypeIs (.ref D) "list" := ⟨_, o1, rfl⟩
  unfold inplaceOp
  refine wpAny_holding ?_
  refine wpAny_bind (wpAny_typeOf ha (wpAny_bind (wpAny_of_eq fill_list_iadd ?_)))
  show wpAny _ A (if false = true then _ else _) Q E s
  rw [if_neg Bool.false_ne_true]
  refine wpAny_bind (wpAny_binaryOp1_none (nm := "add") ha ⟨_, o2, rfl⟩ noFill_list_add ?_)
  refine wpAny_bind (wpAny_of_eq seq_list_iadd ?_)
  refine wpAny_bind (wpAny_rule ?_)
  refine call_meets PySem.F.slot_list_iadd ha PySem.F.entry_list_iadd (PySem.F.args_list_iadd_2 _ _) (AutoSeq1.list___iadd___list_list_0 D ds.toArray nd an ws.toArray na (extend_door z) (by lia) (by lia)) ⟨o1, o2, ?_⟩
  show Q _ _
  refine h _ (if (ds.toArray ++ ws.toArray).size == ds.toArray.size then nd else nd + 1) (F.change (Heap.SameBut.update ..) (N _ (.head _)).2.1 (N _ (.head _)).2.2) (N.setHead hne (Heap.SameBut.update ..) ?_)
  rw [Heap.get?_update_self _ o1 (by rw [mapSeq_app]; rfl), mapSeq_app]
  simp only [List.append_toArray]
end
end Mine
namespace Mine
theorem hasattr_L {prog : Program} {w : World} {A : Around} {E : Value → Shared → Prop} {s : Shared} {h₀ : Heap} {L l : Addr} {m : Str → Option Value} {news : List (Addr × Obj)} {vs : List Value} {n : Nat} {tk : Tok} {Q : Value → Shared → Prop}
    (F : Fr h₀ L s.heap m) (N : News h₀ L s.heap news) (hm : (l, lstO vs n) ∈ news) (h : ∀ h', Fr h₀ L h' m → News h₀ L h' news → Q (.bool true) { s with heap := h' }) :
    wpAny (model prog w) A (call (.builtin "hasattr") [.ref l, .str (Str.ofString "__getitem__") tk]) Q E s :=
  hasattr_gi (N _ hm).1 (h _ (F.push _) (news_sub (News.push F N _) (fun p hp => .tail _ hp)))
set_option maxHeartbeats 4000000 in
theorem ilshift_ok (w : World) (y : Int) (t u : Tok) (h0 : 0 ≤ y) (h1 : y ≤ 9) (news : List (Addr × Obj)) : Claim w 1 136 [.int 1 t, .int y u] [] news (fun v nw => ∃ t', v = .int (2 ^ y.toNat) t' ∧ nw = news) := by
  unfold Claim
  k_fill
  intro dp un gd cn cs a ccd cl outer A₀ base h₀ L m s Q E p loose mean mg mb B F X N T hk hd hu ret
  have st6 : StopAt "inplaceOp LShift int int" := ⟨⟩
  have st6 : StopAt "call builtin:hasattr" := ⟨⟩
  have st6 : StopAt "inplaceOp Add ref" := ⟨⟩
  refine wpAny_call ?_
  k_dflt cell_enter
  refine gen_tok0 ?_
  intro tk0
  k_steps
  repeat' ((with_reducible refine Hold.out ?_); (first | (with_reducible refine ilshift_int_small (by with_reducible assumption) (by lia) (by decide) ?_) | (refine hasattr_L (by k_asm) (by k_asm) (by k_mem) ?_; intro _ _ _) | (refine iadd_L (by k_asm) (by k_asm) (by assumption) (by assumption) (by assumption) ?_; intro _ _ _ _) | fail); k_steps)
  exact ret _ _ _ _ ⟨_, by rw [Int.one_mul], rfl⟩ (by assumption) (by assumption)
set_option maxHeartbeats 4000000 in
theorem iconcat_ok (w : World) (dn an : Addr) (ds ws : List Value) (nd na : Nat) (news : List (Addr × Obj)) (ha : (an, lstO ws na) ∈ news) (hne : ∀ q ∈ news, q.1 ≠ dn) (hsz : ds.length + ws.length ≤ 100) :
    Claim w 1 129 [.ref dn, .ref an] [] ((dn, lstO ds nd) :: news) (fun v nw => ∃ n', v = .ref dn ∧ nw = (dn, lstO (ds ++ ws) n') :: news) := by
  unfold Claim
  k_fill
  intro dp un gd cn cs a ccd cl outer A₀ base h₀ L m s Q E p loose mean mg mb B F X N T hk hd hu ret
  have st6 : StopAt "inplaceOp LShift int int" := ⟨⟩
  have st6 : StopAt "call builtin:hasattr" := ⟨⟩
  have st6 : StopAt "inplaceOp Add ref" := ⟨⟩
  refine wpAny_call ?_
  k_dflt cell_enter
  refine gen_tok0 ?_
  intro tk0
  k_steps
  repeat' ((with_reducible refine Hold.out ?_); (first | (with_reducible refine ilshift_int_small (by with_reducible assumption) (by lia) (by decide) ?_) | (refine hasattr_L (by k_asm) (by k_asm) (by k_mem) ?_; intro _ _ _) | (refine iadd_L (by k_asm) (by k_asm) (by assumption) (by assumption) (by assumption) ?_; intro _ _ _ _) | fail); k_steps)
  exact ret _ _ _ _ ⟨_, rfl, rfl⟩ (by assumption) (by assumption)
end Mine
namespace Mine
/-- the two rows merged: of like ports the second's first -/
noncomputable def mrg (f1 f2 : Int → Int) (vs1 vs2 : List Value) : Nat → Nat → List Value
  | 0, b => vs2.take b
  | a + 1, 0 => vs1.take (a + 1)
  | a + 1, b + 1 => if f1 a < f2 b then mrg f1 f2 vs1 vs2 (a + 1) b ++ (vs2.drop b).take 1 else mrg f1 f2 vs1 vs2 a (b + 1) ++ (vs1.drop a).take 1
termination_by a b => a + b
theorem take_succ' {α : Type} (l : List α) (n : Nat) : l.take (n + 1) = l.take n ++ (l.drop n).take 1 := by
  rw [List.take_add]
theorem mrg_2 {f1 f2 : Int → Int} {vs1 vs2 : List Value} {a b : Nat} (h : a = 0 ∨ f1 ((a - 1 : Nat) : Int) < f2 b) : mrg f1 f2 vs1 vs2 a (b + 1) = mrg f1 f2 vs1 vs2 a b ++ (vs2.drop b).take 1 := by
  cases a with
  | zero => rw [mrg, mrg, take_succ']
  | succ a =>
    have h' : f1 a < f2 b := by
      rcases h with h | h
      · lia
      · simpa using h
    rw [mrg, if_pos h']
theorem mrg_1 {f1 f2 : Int → Int} {vs1 vs2 : List Value} {a b : Nat} (h : b = 0 ∨ ¬ f1 a < f2 ((b - 1 : Nat) : Int)) : mrg f1 f2 vs1 vs2 (a + 1) b = mrg f1 f2 vs1 vs2 a b ++ (vs1.drop a).take 1 := by
  cases b with
  | zero =>
    rw [mrg, take_succ']
    cases a with
    | zero => rw [mrg]; rfl
    | succ a => rw [mrg]
  | succ b =>
    have h' : ¬ f1 a < f2 b := by
      rcases h with h | h
      · lia
      · simpa using h
    rw [mrg, if_neg h']
theorem drop_take {α : Type} (l : List α) (p n : Nat) : (l.drop p).take (n + 1) = (l.drop p).take n ++ (l.drop (p + n)).take 1 := by
  rw [take_succ', List.drop_drop]
theorem mrg_run2 {f1 f2 : Int → Int} {vs1 vs2 : List Value} {a p : Nat} : ∀ (n : Nat), (∀ i, p ≤ i → i < p + n → (a = 0 ∨ f1 ((a - 1 : Nat) : Int) < f2 (i : Nat))) → mrg f1 f2 vs1 vs2 a (p + n) = mrg f1 f2 vs1 vs2 a p ++ (vs2.drop p).take n
  | 0, _ => by simp
  | n + 1, h => by
    rw [show p + (n + 1) = (p + n) + 1 by lia, mrg_2 (h (p + n) (by lia) (by lia)), mrg_run2 n (fun i h1 h2 => h i h1 (by lia)), drop_take vs2 p n, List.append_assoc]
theorem mrg_run1 {f1 f2 : Int → Int} {vs1 vs2 : List Value} {b p : Nat} : ∀ (n : Nat), (∀ i, p ≤ i → i < p + n → (b = 0 ∨ ¬ f1 (i : Nat) < f2 ((b - 1 : Nat) : Int))) → mrg f1 f2 vs1 vs2 (p + n) b = mrg f1 f2 vs1 vs2 p b ++ (vs1.drop p).take n
  | 0, _ => by simp
  | n + 1, h => by
    rw [show p + (n + 1) = (p + n) + 1 by lia, mrg_1 (h (p + n) (by lia) (by lia)), mrg_run1 n (fun i h1 h2 => h i h1 (by lia)), drop_take vs1 p n, List.append_assoc]
/-- what the halving finds -/
theorem bisP_spec (up : Int → Bool) : ∀ (n : Nat) (lo hi : Int), (hi - lo).toNat ≤ n → (∀ i j, lo ≤ i → i ≤ j → j < hi → up j = true → up i = true) →
    (∀ i, lo ≤ i → i < (bisP up lo hi).1 → up i = true) ∧ (∀ i, (bisP up lo hi).1 ≤ i → i < hi → up i = false)
  | 0, lo, hi, h, _ => by
    rw [bisP_ge (by lia)]
    exact ⟨fun i h1 h2 => absurd h2 (by lia), fun i h1 h2 => absurd h2 (by dsimp only at h1; lia)⟩
  | n + 1, lo, hi, h, hm => by
    by_cases hl : lo < hi
    · have h0 := half_eq (lo + hi)
      cases hx : up ((lo + hi).fdiv 2)
      · obtain ⟨a, b⟩ := bisP_spec up n lo ((lo + hi).fdiv 2) (by lia) (fun i j h1 h2 h3 h4 => hm i j h1 h2 (by lia) h4)
        rw [bisP_dn hl hx]
        refine ⟨a, fun i h1 h2 => ?_⟩
        by_cases h3 : i < (lo + hi).fdiv 2
        · exact b i h1 h3
        · cases hy : up i
          · rfl
          · rw [hm ((lo + hi).fdiv 2) i (by lia) (by lia) h2 hy] at hx
            cases hx
      · obtain ⟨a, b⟩ := bisP_spec up n ((lo + hi).fdiv 2 + 1) hi (by lia) (fun i j h1 h2 h3 h4 => hm i j (by lia) h2 h3 h4)
        rw [bisP_up hl hx]
        refine ⟨fun i h1 h2 => ?_, b⟩
        by_cases h3 : i ≤ (lo + hi).fdiv 2
        · exact hm i _ h1 h3 (by lia) hx
        · exact a i (by lia) h2
    · rw [bisP_ge hl]
      exact ⟨fun i h1 h2 => absurd h2 (by dsimp only; lia), fun i h1 h2 => absurd h2 (by dsimp only at h1; lia)⟩
/-- no more is read than this -/
noncomputable def hvN (few many : Nat) : Nat := (halv few 20 many).toNat
noncomputable def bnd (a b : Nat) : Nat := if a = 0 ∨ b = 0 then 0 else if a ≤ b then a * (1 + hvN a b) + b / 2 ^ hvN a b - 1 else b * (1 + hvN b a) + a / 2 ^ hvN b a - 1
noncomputable def bndOk1 (a b : Nat) : Bool := decide (0 ≤ halv a 20 b) && decide (halv a 20 b ≤ 9) && decide (2 ^ hvN a b ≤ b) && decide (1 + bnd a (b - 2 ^ hvN a b) ≤ bnd a b) &&
  (List.range 10).all (fun p => !(decide (b - 2 ^ hvN a b < p) && decide (p ≤ b)) || decide (1 + hvN a b + bnd (a - 1) p ≤ bnd a b))
noncomputable def bndOk2 (a b : Nat) : Bool := decide (0 ≤ halv b 20 a) && decide (halv b 20 a ≤ 9) && decide (2 ^ hvN b a ≤ a) && decide (1 + bnd (a - 2 ^ hvN b a) b ≤ bnd a b) &&
  (List.range 10).all (fun p => !(decide (a - 2 ^ hvN b a < p) && decide (p ≤ a)) || decide (1 + hvN b a + bnd p (b - 1) ≤ bnd a b))
theorem bnd_all1 : ∀ a, a < 5 → ∀ b, b < 10 → 0 < a → a ≤ b → bndOk1 a b = true := by decide +kernel
theorem bnd_all2 : ∀ a, a < 5 → ∀ b, b < 10 → 0 < b → b < a → bndOk2 a b = true := by decide +kernel
structure Step (few many : Nat) (one : Nat → Nat) (two : Nat → Nat) (W : Nat) : Prop where
  h0 : 0 ≤ halv few 20 many
  h9 : halv few 20 many ≤ 9
  le : 2 ^ hvN few many ≤ many
  far : 1 + one (many - 2 ^ hvN few many) ≤ W
  near : ∀ p, many - 2 ^ hvN few many < p → p ≤ many → 1 + hvN few many + two p ≤ W
theorem step1 {a b : Nat} (ha : a < 5) (hb : b < 10) (h0 : 0 < a) (h : a ≤ b) : Step a b (fun p => bnd a p) (fun p => bnd (a - 1) p) (bnd a b) := by
  have q := bnd_all1 a ha b hb h0 h
  simp only [bndOk1, Bool.and_eq_true, decide_eq_true_eq, List.all_eq_true, List.mem_range, Bool.or_eq_true, Bool.not_eq_true', Bool.and_eq_false_iff, decide_eq_false_iff_not] at q
  obtain ⟨⟨⟨⟨q1, q2⟩, q3⟩, q4⟩, q5⟩ := q
  refine ⟨q1, q2, q3, q4, fun p h1 h2 => ?_⟩
  rcases q5 p (by lia) with z | z
  · lia
  · exact z
theorem step2 {a b : Nat} (ha : a < 5) (hb : b < 10) (h0 : 0 < b) (h : b < a) : Step b a (fun p => bnd p b) (fun p => bnd p (b - 1)) (bnd a b) := by
  have q := bnd_all2 a ha b hb h0 h
  simp only [bndOk2, Bool.and_eq_true, decide_eq_true_eq, List.all_eq_true, List.mem_range, Bool.or_eq_true, Bool.not_eq_true', Bool.and_eq_false_iff, decide_eq_false_iff_not] at q
  obtain ⟨⟨⟨⟨q1, q2⟩, q3⟩, q4⟩, q5⟩ := q
  refine ⟨q1, q2, q3, q4, fun p h1 h2 => ?_⟩
  rcases q5 p (by lia) with z | z
  · lia
  · exact z
end Mine
namespace Mine
noncomputable abbrev bookO (bv : List Value) : Obj := lstO bv bv.length
theorem Claim.conv {w : World} {k : Nat} {f : Addr} {args : List Value} {kw : List (Str × Value)} {news1 news : List (Addr × Obj)} {Ret1 Ret : (Value → List (Addr × Obj) → Prop)} (C : Claim w k f args kw news1 Ret1)
    (h1 : ∀ p ∈ news1, p ∈ news) (h2 : ∀ v nw1, Ret1 v nw1 → ∃ nw, Ret v nw ∧ ∀ p ∈ nw, p ∈ nw1) : Claim w k f args kw news Ret := by
  intro dp un gd cn cs a ccd cl outer A₀ base h₀ L m s Q E p loose mean mg mb B F X N T hk hd hu ret
  refine C dp un gd cn cs a ccd cl outer A₀ base h₀ L m s Q E p loose mean mg mb B F X (news_sub N h1) T hk hd hu ?_
  intro v nw1 h' tk' hR F' N'
  obtain ⟨nw, hR', hs⟩ := h2 v nw1 hR
  exact ret v nw h' tk' hR' F' (news_sub N' hs)
theorem upd_map {d : Addr} {o o' : Obj} : ∀ {l a : List (Addr × Obj)}, Upd d o o' l a → a = l.map (fun p => if p.1 = d then (d, o') else p)
  | _, _, .head (r := r) h => by
    have e : r.map (fun p => if p.1 = d then (d, o') else p) = r.map id := List.map_congr_left fun p hp => if_neg (h p hp)
    rw [List.map_cons, if_pos rfl, e, List.map_id]
  | _, _, .tail h r => by rw [List.map_cons, if_neg h, ← upd_map r]
theorem upd_inj {d : Addr} {o o' : Obj} {l a b : List (Addr × Obj)} (h1 : Upd d o o' l a) (h2 : Upd d o o' l b) : a = b := (upd_map h1).trans (upd_map h2).symm
theorem upd_use {d : Addr} {o o' : Obj} {l a b : List (Addr × Obj)} {G : Prop} (h : Upd d o o' l a) (h2 : Upd d o o' l b) (k : a = b → G) : G := k (upd_inj h h2)
theorem upd_mk {d : Addr} {o o' : Obj} {post : List (Addr × Obj)} (hq : ∀ p ∈ post, p.1 ≠ d) : ∀ (pre : List (Addr × Obj)), (∀ p ∈ pre, p.1 ≠ d) → Upd d o o' (pre ++ (d, o) :: post) (pre ++ (d, o') :: post)
  | [], _ => .head hq
  | p :: r, h => .tail (h p (.head _)) (upd_mk hq r fun q hq => h q (.tail _ hq))
theorem sub_pull {α : Type} {x : α} {pre post : List α} : ∀ p ∈ x :: (pre ++ post), p ∈ pre ++ x :: post := by
  intro p hp
  simp only [List.mem_cons, List.mem_append] at hp ⊢
  rcases hp with h | h | h
  · exact .inr (.inl h)
  · exact .inl h
  · exact .inr (.inr h)
theorem sub_push {α : Type} {x : α} {pre post : List α} : ∀ p ∈ pre ++ x :: post, p ∈ x :: (pre ++ post) := by
  intro p hp
  simp only [List.mem_cons, List.mem_append] at hp ⊢
  rcases hp with h | h | h
  · exact .inr (.inl h)
  · exact .inl h
  · exact .inr (.inr h)
theorem mem_off {x q : Addr × Obj} {pre post : List (Addr × Obj)} (h : q ∈ pre ++ x :: post) (hne : q.1 ≠ x.1) : q ∈ pre ++ post := by
  simp only [List.mem_cons, List.mem_append] at h ⊢
  rcases h with h | rfl | h
  · exact .inl h
  · exact absurd rfl hne
  · exact .inr h
theorem ne_both {d : Addr} {pre post : List (Addr × Obj)} (h1 : ∀ p ∈ pre, p.1 ≠ d) (h2 : ∀ p ∈ post, p.1 ≠ d) : ∀ p ∈ pre ++ post, p.1 ≠ d := by
  intro p hp
  rcases List.mem_append.mp hp with h | h
  · exact h1 p h
  · exact h2 p h
theorem iconcat_U (w : World) (dn an : Addr) (ds ws : List Value) (nd na : Nat) {news news' : List (Addr × Obj)} (ha : (an, lstO ws na) ∈ news) (hne : an ≠ dn) (U : Upd dn (lstO ds nd) (lstO ds nd) news news') (hsz : ds.length + ws.length ≤ 100) :
    Claim w 1 129 [.ref dn, .ref an] [] news (fun v nw => ∃ n', v = .ref dn ∧ Upd dn (lstO ds nd) (lstO (ds ++ ws) n') news nw) := by
  obtain ⟨pre, post, rfl, -, h1, h2⟩ := U.split
  refine (iconcat_ok w dn an ds ws nd na (pre ++ post) (mem_off ha hne) (ne_both h1 h2) hsz).conv sub_pull ?_
  rintro v nw1 ⟨n', rfl, rfl⟩
  exact ⟨_, ⟨n', rfl, upd_mk h2 pre h1⟩, sub_push⟩
theorem fnAt_news {h₀ h : Heap} {L kf : Addr} {fo : Obj} {news : List (Addr × Obj)} (N : News h₀ L h news) (hm : (kf, fo) ∈ news) (hfo : isFnO (some fo) = true) : FnAt kf h :=
  fnAt_of hfo (fun x e => by cases e; exact (N _ hm).1)
/-- noted, wherever the book stands in the ledger -/
noncomputable def NotedU (w : World) (kf c' cell bk : Addr) (fo oc o' : Obj) : Prop :=
  ∀ (r : Str) (t : Tok) (port : Int) (bv : List Value) (news news' : List (Addr × Obj)), Good r port → (kf, fo) ∈ news → (c', oc) ∈ news → (cell, o') ∈ news → Upd bk (bookO bv) (bookO (bv ++ [.str r t])) news news' → bv.length ≤ 1000 →
    Claim w 3 kf [.str r t] [] news (fun v nw => ∃ t', v = .int port t' ∧ nw = news')
structure NotedAt (w : World) (kf bk : Addr) (c' cell : Addr) (fo oc o' : Obj) : Prop where
  fn : isFnO (some fo) = true
  k : kf ≠ bk
  c : c' ≠ bk
  l : cell ≠ bk
  ok : NotedU w kf c' cell bk fo oc o'
section
variable {w : World} {kf bk c' cell al : Addr} {fo oc o' : Obj} {vs : List Value} {nl : Nat} {news news' : List (Addr × Obj)} {f : Int → Int} {bv : List Value}
theorem noted_key {pre post : List (Addr × Obj)} (H : NotedAt w kf bk c' cell fo oc o') (hP : Ports vs f) (h1 : ∀ p ∈ pre, p.1 ≠ bk) (h2 : ∀ p ∈ post, p.1 ≠ bk) (hal : al ≠ bk) (m1 : (kf, fo) ∈ pre ++ post) (m2 : (c', oc) ∈ pre ++ post) (m3 : (cell, o') ∈ pre ++ post) :
    ∀ bv, bv.length ≤ 1000 → ∀ (i : Nat) r t, vs[i]? = some (.str r t) → Claim w 3 kf [.str r t] [] ((al, lstO vs nl) :: (bk, bookO bv) :: (pre ++ post)) (fun v nw => ∃ t' b', v = .int (f i) t' ∧ nw = (al, lstO vs nl) :: (bk, bookO b') :: (pre ++ post) ∧ b'.length = bv.length + 1) := by
  intro bv hbv i r t hi
  refine (H.ok r t (f i) bv _ _ (hP i r t hi) (.tail _ (.tail _ m1)) (.tail _ (.tail _ m2)) (.tail _ (.tail _ m3)) (.tail hal (.head (ne_both h1 h2))) hbv).conv (fun p hp => hp) ?_
  rintro v nw1 ⟨t', rfl, rfl⟩
  exact ⟨_, ⟨t', _, rfl, rfl, by simp⟩, fun p hp => hp⟩

theorem bisr_U (H : NotedAt w kf bk c' cell fo oc o') (ha : (al, lstO vs nl) ∈ news) (hs : Strs vs) (hP : Ports vs f) (x lo hi : Int) (t tl th : Tok) (hlo : 0 ≤ lo) (hhi : hi ≤ vs.length) (hsz : vs.length ≤ 100)
    (hal : al ≠ bk) (m1 : (kf, fo) ∈ news) (m2 : (c', oc) ∈ news) (m3 : (cell, o') ∈ news) (U : Upd bk (bookO bv) (bookO bv) news news') (hB : bv.length + (bisP (fun i => !decide (x < f i)) lo hi).2 ≤ 900) :
    Claim w 4 32 [.ref al, .int x t, .int lo tl, .int hi th] [(Str.ofString "key", .ref kf)] news
      (fun v nw => ∃ t' b', v = .int (bisP (fun i => !decide (x < f i)) lo hi).1 t' ∧ Upd bk (bookO bv) (bookO b') news nw ∧ b'.length = bv.length + (bisP (fun i => !decide (x < f i)) lo hi).2) := by
  obtain ⟨pre, post, rfl, -, h1, h2⟩ := U.split
  have m1' := mem_off m1 H.k
  have m2' := mem_off m2 H.c
  have m3' := mem_off m3 H.l
  refine (bisr_ok w al kf vs nl hs f x lo hi t tl th (fun b => (bk, bookO b) :: (pre ++ post)) hlo hhi hsz bv hB (fun h₀ h L m bv X F N => fnAt_news N (.tail _ (.tail _ m1')) H.fn)
    (fun bv i r t hb hi => noted_key H hP h1 h2 hal m1' m2' m3' bv (by lia) i r t hi)).conv ?_ ?_
  · intro p hp
    rcases List.mem_cons.mp hp with rfl | hp
    · exact ha
    · exact sub_pull p hp
  · rintro v nw1 ⟨t', b', rfl, rfl, hb⟩
    exact ⟨_, ⟨t', b', rfl, upd_mk h2 pre h1, hb⟩, fun p hp => .tail _ (sub_push p hp)⟩
theorem bisl_U (H : NotedAt w kf bk c' cell fo oc o') (ha : (al, lstO vs nl) ∈ news) (hs : Strs vs) (hP : Ports vs f) (x lo hi : Int) (t tl th : Tok) (hlo : 0 ≤ lo) (hhi : hi ≤ vs.length) (hsz : vs.length ≤ 100)
    (hal : al ≠ bk) (m1 : (kf, fo) ∈ news) (m2 : (c', oc) ∈ news) (m3 : (cell, o') ∈ news) (U : Upd bk (bookO bv) (bookO bv) news news') (hB : bv.length + (bisP (fun i => decide (f i < x)) lo hi).2 ≤ 900) :
    Claim w 4 50 [.ref al, .int x t, .int lo tl, .int hi th] [(Str.ofString "key", .ref kf)] news
      (fun v nw => ∃ t' b', v = .int (bisP (fun i => decide (f i < x)) lo hi).1 t' ∧ Upd bk (bookO bv) (bookO b') news nw ∧ b'.length = bv.length + (bisP (fun i => decide (f i < x)) lo hi).2) := by
  obtain ⟨pre, post, rfl, -, h1, h2⟩ := U.split
  have m1' := mem_off m1 H.k
  have m2' := mem_off m2 H.c
  have m3' := mem_off m3 H.l
  refine (bisl_ok w al kf vs nl hs f x lo hi t tl th (fun b => (bk, bookO b) :: (pre ++ post)) hlo hhi hsz bv hB (fun h₀ h L m bv X F N => fnAt_news N (.tail _ (.tail _ m1')) H.fn)
    (fun bv i r t hb hi => noted_key H hP h1 h2 hal m1' m2' m3' bv (by lia) i r t hi)).conv ?_ ?_
  · intro p hp
    rcases List.mem_cons.mp hp with rfl | hp
    · exact ha
    · exact sub_pull p hp
  · rintro v nw1 ⟨t', b', rfl, rfl, hb⟩
    exact ⟨_, ⟨t', b', rfl, upd_mk h2 pre h1, hb⟩, fun p hp => .tail _ (sub_push p hp)⟩
end
end Mine
namespace Mine
section
variable {prog : Program} {w : World} {A : Around} {E : Value → Shared → Prop} {s : Shared} {h₀ : Heap} {L l b : Addr} {m : Str → Option Value} {news : List (Addr × Obj)} {vs ws : List Value} {n1 n2 : Nat} {Q : Value → Shared → Prop}
theorem rev_T {value slice : PySem.Expr} {vk : Value} {ops : List Value} (F : Fr h₀ L s.heap m) (N : News h₀ L s.heap news) (hm : (l, lstO vs n1) ∈ news) (pk : IsPart vk (some (-1)))
    (h : ∀ D h', Fr h₀ L h' m → News h₀ L h' ((D, lstO vs.reverse 0) :: news) → (∀ p ∈ news, p.1 < D) → Q (.ref D) { s with heap := h' })
    (hs : subscripted slice false (.ref l) (.ref s.heap.objs.size) = operate ops (getItem (.ref l) (.ref s.heap.objs.size))) (hz : vs.length ≤ 1000) :
    wpAny (model prog w) A (subscriptTail value slice (.ref l) (.ref s.heap.objs.size)) Q E { s with heap := s.heap.push { cls := .type "slice", data := .fields #[.none, .none, vk] } } := by
  have hl := isList_of N hm
  refine tail_any (Heap.IsList.typeIs (s := { s with heap := s.heap.push { cls := .type "slice", data := .fields #[.none, .none, vk] } }) (hl.push _)) list_getitem_lookup
    (wpAny_getItem_list_slice (hl.push _) (Heap.IsSliceOf.new ..) .none .none pk (by decide) ?_ (by rw [sizeLine_eq, List.size_toArray]; lia)) hs
  have N1 := News.push (F.push { cls := .type "slice", data := .fields #[.none, .none, vk] }) (N.grown fun _ _ e => Heap.get?_push_of_some _ e) { cls := .type "list", data := .seq (slicePick vs.toArray none none (some (-1))) }
  rw [Heap.size_push, krv_pick] at N1
  show Q (.ref (s.heap.push _).objs.size) _
  rw [Heap.size_push]
  refine h _ _ ((F.push _).push _) ?_ (fun p hp => Nat.lt_succ_of_lt (Heap.lt_size (N p hp).1))
  rw [krv_pick]
  exact N1
theorem add_L (F : Fr h₀ L s.heap m) (N : News h₀ L s.heap news) (hl : (l, lstO vs n1) ∈ news) (hb : (b, lstO ws n2) ∈ news) (z1 : vs.length ≤ 100) (z2 : ws.length ≤ 100)
    (h : ∀ D h', Fr h₀ L h' m → News h₀ L h' ((D, lstO (vs ++ ws) 0) :: news) → (∀ p ∈ news, p.1 < D) → Q (.ref D) { s with heap := h' }) :
    wpAny (model prog w) A (binaryOp .Add (.ref l) (.ref b)) Q E s :=
  add_lists F N (isList_of N hl) (isList_of N hb) (fun h' F' N' => h _ h' F' N' fun p hp => Heap.lt_size (N p hp).1) (by rw [sizeLine_eq]; lia)
theorem item_port {value slice : PySem.Expr} {vs : List Value} {nl : Nat} {k : Int} {u : Tok} {f : Int → Int}
    (N : News h₀ L s.heap news) (hm : (l, lstO vs nl) ∈ news) (S : Strs vs) (P : Ports vs f) (h0 : 0 ≤ k) (h1 : k < vs.length) (hsz : vs.length ≤ 100) (h : ∀ r t, vs[k.toNat]? = some (.str r t) → Good r (f k) → Q (.str r t) s)
    (hs : subscripted slice false (.ref l) (.int k u) = operate [.ref l, .int k u] (getItem (.ref l) (.int k u)) := by with_unfolding_all rfl) :
    wpAny (model prog w) A (subscriptTail value slice (.ref l) (.int k u)) Q E s :=
  item_str N hm S h0 h1 hsz (fun r t hv => h r t hv (by have g := P k.toNat r t hv; rwa [Int.toNat_of_nonneg h0] at g)) hs
end
theorem allLt_ne {d : Addr} : ∀ {l : List (Addr × Obj)}, AllLt d l → ∀ q ∈ l, q.1 ≠ d
  | [], _ => fun q hq => (nomatch hq)
  | p :: r, h => fun q hq => by
    rcases List.mem_cons.mp hq with rfl | hq
    · exact Nat.ne_of_lt h.1
    · exact allLt_ne h.2 q hq
theorem sub_second {α : Type} {a b : α} {l : List α} : ∀ p ∈ a :: l, p ∈ a :: b :: l := by
  intro p hp
  rcases List.mem_cons.mp hp with rfl | hp
  · exact .head _
  · exact .tail _ (.tail _ hp)
theorem sub_c {α : Type} {x : α} {l l' : List α} (h : x ∈ l') (hs : ∀ p ∈ l, p ∈ l') : ∀ p ∈ x :: l, p ∈ l' := by
  intro p hp
  rcases List.mem_cons.mp hp with rfl | hp
  · exact h
  · exact hs p hp
theorem pick_run {vs : List Value} {x : Int} {j : Nat} (h : 0 ≤ x) : (slicePick vs.toArray (some x) (some (j : Int)) none).toList = (vs.drop x.toNat).take (j - x.toNat) := by
  rw [kms_pick_eq]
  show kms_pick vs (some x) (some (j : Int)) = _
  unfold kms_pick kms_lo kms_hi
  dsimp only
  rw [if_neg (by lia), if_neg (by lia), Int.toNat_natCast, kmk_drop_min]
  by_cases hx : x.toNat ≤ vs.length
  · rw [Nat.min_eq_left hx]
    by_cases hj : j ≤ vs.length
    · rw [Nat.min_eq_left hj]
    · rw [Nat.min_eq_right (by lia), List.take_of_length_le (by rw [List.length_drop]; lia), List.take_of_length_le (by rw [List.length_drop]; lia)]
  · rw [List.drop_of_length_le (by lia), List.take_nil, List.take_nil]
theorem pick_upto {vs : List Value} {j : Nat} : (slicePick vs.toArray none (some (j : Int)) none).toList = vs.take j := by
  rw [kms_pick_eq]
  show kms_pick vs none (some (j : Int)) = _
  unfold kms_pick kms_lo kms_hi
  dsimp only
  rw [if_neg (by lia), Int.toNat_natCast, List.drop_zero, Nat.sub_zero, kmk_take_min]
theorem z_arr {vs : List Value} (h : vs.length ≤ 1000) : vs.toArray.size ≤ sizeLine := by rw [sizeLine_eq, List.size_toArray]; lia
theorem hB_of {up : Int → Bool} {lo hi : Int} {n : Nat} {bv : List Value} (h : bv.length ≤ 60) (h0 : 0 ≤ lo) (h1 : hi ≤ n) (h2 : n ≤ 100) : bv.length + (bisP up lo hi).2 ≤ 900 := by
  have := bisP_few (up := up) h0 h1 h2
  lia
/-- a list has at most n things -/
noncomputable def Short (n : Nat) (l : List Value) : Prop := l.length ≤ n
theorem Short.app {a b : Nat} {xs ys : List Value} (h1 : Short a xs) (h2 : Short b ys) : Short (a + b) (xs ++ ys) := by unfold Short at *; rw [List.length_append]; exact Nat.add_le_add h1 h2
theorem Short.take {n a : Nat} {xs : List Value} (h : Short n xs) : Short n (xs.take a) := by unfold Short at *; rw [List.length_take]; exact Nat.le_trans (Nat.min_le_right _ _) h
theorem Short.drop {n a : Nat} {xs : List Value} (h : Short n xs) : Short n (xs.drop a) := by unfold Short at *; rw [List.length_drop]; exact Nat.le_trans (Nat.sub_le _ _) h
theorem Short.rev {n : Nat} {xs : List Value} (h : Short n xs) : Short n xs.reverse := by unfold Short at *; rw [List.length_reverse]; exact h
theorem Short.one {v : Value} : Short 1 [v] := Nat.le_refl 1
theorem Short.nil : Short 0 [] := Nat.le_refl 0
theorem Short.le {n m : Nat} {l : List Value} (h : Short n l) (k : n ≤ m) : l.length ≤ m := Nat.le_trans h k
theorem Short.sum {a b m : Nat} {xs ys : List Value} (h1 : Short a xs) (h2 : Short b ys) (k : a + b ≤ m) : xs.length + ys.length ≤ m := Nat.le_trans (Nat.add_le_add h1 h2) k
theorem bnd_le : ∀ a, a < 5 → ∀ b, b < 10 → bnd a b ≤ 50 := by decide +kernel
end Mine
namespace Mine
structure MgInv (f1 f2 : Int → Int) (vs1 vs2 : List Value) (a b : Nat) (ds bv : List Value) : Prop where
  la : a ≤ vs1.length
  lb : b ≤ vs2.length
  m : mrg f1 f2 vs1 vs2 vs1.length vs2.length = mrg f1 f2 vs1 vs2 a b ++ ds.reverse
  l : ds.length + (a + b) = vs1.length + vs2.length
  r : bv.length + bnd a b ≤ bnd vs1.length vs2.length
theorem near_sum {d i j p t n : Nat} (hl : d + (i + j) = t) (hn : j ≤ n) (hp : p ≤ j) (hi : 0 < i) : d + (min (j - p) (n - p) + (0 + 1)) + (i - 1 + p) = t := by
  rw [Nat.min_eq_left (Nat.sub_le_sub_right hn p)]
  lia
theorem far_sum {d i j p t n : Nat} (hl : d + (i + j) = t) (hn : j ≤ n) (hp : p ≤ j) : d + (min (j - p) (n - p) + 0) + (i + p) = t := by
  rw [Nat.min_eq_left (Nat.sub_le_sub_right hn p)]
  lia
theorem drop_one {l : List Value} {k : Nat} {v : Value} (h : l[k]? = some v) : (l.drop k).take 1 = [v] := by
  obtain ⟨hk, rfl⟩ := List.getElem?_eq_some_iff.mp h
  rw [List.drop_eq_getElem_cons hk]
  rfl
theorem pow_nat (a b : Nat) : ((2 ^ hvN a b : Nat) : Int) = 2 ^ (halv a 20 b).toNat := by rw [Int.natCast_pow]; rfl
section
variable {f1 f2 : Int → Int} {vs1 vs2 ds bv bv' : List Value} {i j : Nat} {P : Int} {v : Value}
theorem inv1_far (so2 : ∀ i j : Int, 0 ≤ i → i ≤ j → j < vs2.length → f2 i ≤ f2 j) (I : MgInv f1 f2 vs1 vs2 i j ds bv) (st : Step i j (fun p => bnd i p) (fun p => bnd (i - 1) p) (bnd i j)) (hi : 0 < i)
    (hP : P = (j : Int) - 2 ^ (halv i 20 j).toNat) (h : f1 ((i : Int) - 1) < f2 P) (hb : bv'.length = bv.length + 1) :
    MgInv f1 f2 vs1 vs2 i P.toNat (ds ++ (((vs2.drop P.toNat).take (j - P.toNat)).reverse ++ [])) bv' := by
  have e := pow_nat i j
  have h1 := st.le
  have h2 := st.far
  have hpos : 0 < 2 ^ hvN i j := Nat.pow_pos (by decide)
  rw [← e] at hP
  generalize 2 ^ hvN i j = H at hP h1 h2 hpos
  have hp : P.toNat = j - H := by lia
  have hpj : P.toNat ≤ j := by lia
  have hlb := I.lb
  have hl := I.l
  have hr := I.r
  have em : mrg f1 f2 vs1 vs2 i j = mrg f1 f2 vs1 vs2 i P.toNat ++ (vs2.drop P.toNat).take (j - P.toNat) := by
    have q := mrg_run2 (f1 := f1) (f2 := f2) (vs1 := vs1) (vs2 := vs2) (a := i) (p := P.toNat) (j - P.toNat) (fun k k1 k2 => .inr (by
      rw [show ((i - 1 : Nat) : Int) = (i : Int) - 1 by lia]
      exact Int.lt_of_lt_of_le h (so2 _ _ (by lia) (by lia) (by lia))))
    rwa [show P.toNat + (j - P.toNat) = j by lia] at q
  refine ⟨I.la, by lia, ?_, ?_, ?_⟩
  · rw [I.m, em]
    simp
  · simp only [List.length_append, List.length_reverse, List.length_take, List.length_drop, List.length_nil]
    exact far_sum hl hlb hpj
  · rw [hp, hb]
    lia
theorem inv1_near (so2 : ∀ i j : Int, 0 ≤ i → i ≤ j → j < vs2.length → f2 i ≤ f2 j) (I : MgInv f1 f2 vs1 vs2 i j ds bv) (st : Step i j (fun p => bnd i p) (fun p => bnd (i - 1) p) (bnd i j)) (hi : 0 < i)
    (hP : P = (j : Int) - 2 ^ (halv i 20 j).toNat) (h : ¬ f1 ((i : Int) - 1) < f2 P) (hv : vs1[((i : Int) - 1).toNat]? = some v)
    (hb : bv'.length = bv.length + 1 + (bisP (fun k => !decide (f1 ((i : Int) - 1) < f2 k)) (P + 1) j).2) :
    MgInv f1 f2 vs1 vs2 (i - 1) (bisP (fun k => !decide (f1 ((i : Int) - 1) < f2 k)) (P + 1) j).1.toNat
      (ds ++ (((vs2.drop (bisP (fun k => !decide (f1 ((i : Int) - 1) < f2 k)) (P + 1) j).1.toNat).take (j - (bisP (fun k => !decide (f1 ((i : Int) - 1) < f2 k)) (P + 1) j).1.toNat)).reverse ++ [v])) bv' := by
  obtain ⟨p, rfl⟩ : ∃ p : Nat, P = (p : Int) := ⟨j - 2 ^ hvN i j, by rw [hP, ← pow_nat i j]; have := st.le; lia⟩
  have hp : p + 2 ^ hvN i j = j := by rw [← pow_nat i j] at hP; have := st.le; lia
  clear hP
  have hpos : 0 < 2 ^ hvN i j := Nat.pow_pos (by decide)
  have hlb := I.lb
  have hl := I.l
  have hr := I.r
  have q0 := bisP_range (fun k => !decide (f1 ((i : Int) - 1) < f2 k)) _ ((p : Int) + 1) j (Nat.le_refl _)
  have q1 := q0.2 (by lia)
  have q0 := q0.1
  obtain ⟨s1, s2⟩ := bisP_spec (fun k => !decide (f1 ((i : Int) - 1) < f2 k)) _ ((p : Int) + 1) j (Nat.le_refl _) (fun x y x1 x2 x3 x4 => by
    have := so2 x y (by lia) x2 (by lia)
    simp only [Bool.not_eq_true', decide_eq_false_iff_not] at x4 ⊢
    lia)
  have rd := bisP_reads (fun k => !decide (f1 ((i : Int) - 1) < f2 k)) (hvN i j) ((p : Int) + 1) j (by lia)
  revert hb s1 s2 rd q0 q1
  generalize bisP (fun k => !decide (f1 ((i : Int) - 1) < f2 k)) ((p : Int) + 1) j = B
  obtain ⟨B1, B2⟩ := B
  dsimp only
  intro hb q0 q1 s1 s2 rd
  obtain ⟨b, rfl⟩ : ∃ b : Nat, B1 = (b : Int) := ⟨B1.toNat, by lia⟩
  rw [Int.toNat_natCast]
  have b0 : p + 1 ≤ b := by lia
  have b1 : b ≤ j := by lia
  have h2 := st.near b (by lia) b1
  have em : mrg f1 f2 vs1 vs2 i j = mrg f1 f2 vs1 vs2 i b ++ (vs2.drop b).take (j - b) := by
    have q := mrg_run2 (f1 := f1) (f2 := f2) (vs1 := vs1) (vs2 := vs2) (a := i) (p := b) (j - b) (fun k k1 k2 => .inr (by
      rw [Int.natCast_sub hi]
      have := s2 k (Int.ofNat_le.mpr k1) (by lia)
      simpa using this))
    rwa [Nat.add_sub_cancel' b1] at q
  have em2 : mrg f1 f2 vs1 vs2 i b = mrg f1 f2 vs1 vs2 (i - 1) b ++ [v] := by
    have q := mrg_1 (f1 := f1) (f2 := f2) (vs1 := vs1) (vs2 := vs2) (a := i - 1) (b := b) (.inr (by
      rw [Int.natCast_sub hi]
      by_cases hq : b = p + 1
      · rw [hq, Nat.add_sub_cancel]
        exact h
      · have := s1 ((b - 1 : Nat) : Int) (by lia) (by lia)
        simpa using this))
    rw [Nat.sub_add_cancel hi] at q
    rw [q, drop_one (v := v) (by rw [← hv]; congr 1; lia)]
  refine ⟨Nat.le_trans (Nat.sub_le _ _) I.la, Nat.le_trans b1 hlb, ?_, ?_, ?_⟩
  · rw [I.m, em, em2]
    simp
  · simp only [List.length_append, List.length_reverse, List.length_take, List.length_drop, List.length_nil, List.length_cons]
    exact near_sum hl hlb b1 hi
  · rw [hb]
    lia
theorem inv2_far (so1 : ∀ i j : Int, 0 ≤ i → i ≤ j → j < vs1.length → f1 i ≤ f1 j) (I : MgInv f1 f2 vs1 vs2 i j ds bv) (st : Step j i (fun p => bnd p j) (fun p => bnd p (j - 1)) (bnd i j)) (hj : 0 < j)
    (hP : P = (i : Int) - 2 ^ (halv j 20 i).toNat) (h : f2 ((j : Int) - 1) ≤ f1 P) (hb : bv'.length = bv.length + 1) :
    MgInv f1 f2 vs1 vs2 P.toNat j (ds ++ (((vs1.drop P.toNat).take (i - P.toNat)).reverse ++ [])) bv' := by
  have e := pow_nat j i
  have h1 := st.le
  have h2 := st.far
  have hpos : 0 < 2 ^ hvN j i := Nat.pow_pos (by decide)
  rw [← e] at hP
  generalize 2 ^ hvN j i = H at hP h1 h2 hpos
  have hp : P.toNat = i - H := by lia
  have hpj : P.toNat ≤ i := by lia
  have hla := I.la
  have hl := I.l
  have hr := I.r
  have em : mrg f1 f2 vs1 vs2 i j = mrg f1 f2 vs1 vs2 P.toNat j ++ (vs1.drop P.toNat).take (i - P.toNat) := by
    have q := mrg_run1 (f1 := f1) (f2 := f2) (vs1 := vs1) (vs2 := vs2) (b := j) (p := P.toNat) (i - P.toNat) (fun k k1 k2 => .inr (by
      rw [show ((j - 1 : Nat) : Int) = (j : Int) - 1 by lia]
      have := so1 P k (by lia) (by lia) (by lia)
      lia))
    rwa [show P.toNat + (i - P.toNat) = i by lia] at q
  refine ⟨by lia, I.lb, ?_, ?_, ?_⟩
  · rw [I.m, em]
    simp
  · simp only [List.length_append, List.length_reverse, List.length_take, List.length_drop, List.length_nil]
    rw [Nat.add_comm P.toNat j]
    exact far_sum (by rw [Nat.add_comm j i]; exact hl) hla hpj
  · rw [hp, hb]
    lia
theorem inv2_near (so1 : ∀ i j : Int, 0 ≤ i → i ≤ j → j < vs1.length → f1 i ≤ f1 j) (I : MgInv f1 f2 vs1 vs2 i j ds bv) (st : Step j i (fun p => bnd p j) (fun p => bnd p (j - 1)) (bnd i j)) (hj : 0 < j)
    (hP : P = (i : Int) - 2 ^ (halv j 20 i).toNat) (h : ¬ f2 ((j : Int) - 1) ≤ f1 P) (hv : vs2[((j : Int) - 1).toNat]? = some v)
    (hb : bv'.length = bv.length + 1 + (bisP (fun k => decide (f1 k < f2 ((j : Int) - 1))) (P + 1) i).2) :
    MgInv f1 f2 vs1 vs2 (bisP (fun k => decide (f1 k < f2 ((j : Int) - 1))) (P + 1) i).1.toNat (j - 1)
      (ds ++ (((vs1.drop (bisP (fun k => decide (f1 k < f2 ((j : Int) - 1))) (P + 1) i).1.toNat).take (i - (bisP (fun k => decide (f1 k < f2 ((j : Int) - 1))) (P + 1) i).1.toNat)).reverse ++ [v])) bv' := by
  obtain ⟨p, rfl⟩ : ∃ p : Nat, P = (p : Int) := ⟨i - 2 ^ hvN j i, by rw [hP, ← pow_nat j i]; have := st.le; lia⟩
  have hp : p + 2 ^ hvN j i = i := by rw [← pow_nat j i] at hP; have := st.le; lia
  clear hP
  have hpos : 0 < 2 ^ hvN j i := Nat.pow_pos (by decide)
  have hla := I.la
  have hl := I.l
  have hr := I.r
  have q0 := bisP_range (fun k => decide (f1 k < f2 ((j : Int) - 1))) _ ((p : Int) + 1) i (Nat.le_refl _)
  have q1 := q0.2 (by lia)
  have q0 := q0.1
  obtain ⟨s1, s2⟩ := bisP_spec (fun k => decide (f1 k < f2 ((j : Int) - 1))) _ ((p : Int) + 1) i (Nat.le_refl _) (fun x y x1 x2 x3 x4 => by
    have := so1 x y (by lia) x2 (by lia)
    simp only [decide_eq_true_eq] at x4 ⊢
    lia)
  have rd := bisP_reads (fun k => decide (f1 k < f2 ((j : Int) - 1))) (hvN j i) ((p : Int) + 1) i (by lia)
  revert hb s1 s2 rd q0 q1
  generalize bisP (fun k => decide (f1 k < f2 ((j : Int) - 1))) ((p : Int) + 1) i = B
  obtain ⟨B1, B2⟩ := B
  dsimp only
  intro hb q0 q1 s1 s2 rd
  obtain ⟨b, rfl⟩ : ∃ b : Nat, B1 = (b : Int) := ⟨B1.toNat, by lia⟩
  rw [Int.toNat_natCast]
  have b0 : p + 1 ≤ b := by lia
  have b1 : b ≤ i := by lia
  have h2 := st.near b (by lia) b1
  have em : mrg f1 f2 vs1 vs2 i j = mrg f1 f2 vs1 vs2 b j ++ (vs1.drop b).take (i - b) := by
    have q := mrg_run1 (f1 := f1) (f2 := f2) (vs1 := vs1) (vs2 := vs2) (b := j) (p := b) (i - b) (fun k k1 k2 => .inr (by
      rw [Int.natCast_sub hj]
      have := s2 k (Int.ofNat_le.mpr k1) (by lia)
      simpa using this))
    rwa [Nat.add_sub_cancel' b1] at q
  have em2 : mrg f1 f2 vs1 vs2 b j = mrg f1 f2 vs1 vs2 b (j - 1) ++ [v] := by
    have q := mrg_2 (f1 := f1) (f2 := f2) (vs1 := vs1) (vs2 := vs2) (a := b) (b := j - 1) (.inr (by
      rw [Int.natCast_sub hj]
      by_cases hq : b = p + 1
      · rw [hq, Nat.add_sub_cancel]
        exact Int.lt_of_not_ge h
      · have := s1 ((b - 1 : Nat) : Int) (by lia) (by lia)
        simpa using this))
    rw [Nat.sub_add_cancel hj] at q
    rw [q, drop_one (v := v) (by rw [← hv]; congr 1; lia)]
  refine ⟨Nat.le_trans b1 hla, Nat.le_trans (Nat.sub_le _ _) I.lb, ?_, ?_, ?_⟩
  · rw [I.m, em, em2]
    simp
  · simp only [List.length_append, List.length_reverse, List.length_take, List.length_drop, List.length_nil, List.length_cons]
    rw [Nat.add_comm _ (j - 1)]
    exact near_sum (by rw [Nat.add_comm j i]; exact hl) hla b1 hj
  · rw [hb]
    lia
end
end Mine
namespace Mine
noncomputable def ClaimM (w : World) (k : Nat) (f : Addr) (args : List Value) (kw : List (Str × Value)) (news : List (Addr × Obj)) (Ret : (Value → List (Addr × Obj) → Prop)) : Prop :=
  ∀ (dp un : Nat) (gd : Option (List Code)) (cn : Str) (cs : Scope) (a : Addr) (ccd : Value) (cl : List (Str × Addr)) (outer : List Env) (A₀ : Around) (base h₀ : Heap) (L : Addr) (m : Str → Option Value) (s : Shared) (Q E : Value → Shared → Prop)
    (p : Program) (loose : List Str) (mean : ExcName → Option Value) (mg mb : Str → Option Value),
    Below A₀ base outer h₀ → Fr h₀ L s.heap m → (hd0.heap_1_39 w.params).In h₀ → News h₀ L s.heap news → Top p loose mean mg mb h₀ → cs.kind = .function →
    dp + k < recursionLimit → un + 20 * k < cLine → CodeHd base 170 166 →
    (∀ v news' h' tk', Ret v news' → Fr h₀ L h' m → News h₀ L h' news' → Q v { s with heap := h', toks := tk' }) →
      wpAny (model PySem.Challenge.rw_wu0062_01.row.prog w) (ktrTop dp un gd cn cs L a ccd cl outer) (call (.ref f) args kw) Q E s
theorem sub_swap {α : Type} (a b : α) (l : List α) : ∀ p ∈ b :: a :: l, p ∈ a :: b :: l := by
  intro p hp
  rcases List.mem_cons.mp hp with rfl | hp
  · exact .tail _ (.head _)
  · rcases List.mem_cons.mp hp with rfl | hp
    · exact .head _
    · exact .tail _ (.tail _ hp)
theorem have_noted {G : Prop} {w : World} {h₀ h : Heap} {L kf c' : Addr} {fo oc : Obj} {rest : List (Addr × Obj)} (_ : News h₀ L h ((kf, fo) :: (c', oc) :: rest)) (cell : Addr) (o' : Obj) (mk0 : isFnO (some fo) = true) (mk : ∀ bk, kf ≠ bk → c' ≠ bk → cell ≠ bk → o'.data = .cell (some (.ref bk)) → NotedU w kf c' cell bk fo oc o') (k : isFnO (some fo) = true → (∀ bk, kf ≠ bk → c' ≠ bk → cell ≠ bk → o'.data = .cell (some (.ref bk)) → NotedU w kf c' cell bk fo oc o') → G) : G := k mk0 mk
theorem sub_noted {α : Type} {b a1 a2 a3 : α} {fixed : List α} (h1 : a1 ∈ fixed) (h2 : a2 ∈ fixed) (h3 : a3 ∈ fixed) : ∀ p ∈ b :: a1 :: a2 :: a3 :: fixed, p ∈ b :: fixed := by
  intro p hp
  simp only [List.mem_cons] at hp ⊢
  rcases hp with rfl | rfl | rfl | rfl | hp
  · exact .inl rfl
  · exact .inr h1
  · exact .inr h2
  · exact .inr h3
  · exact .inr hp
theorem sub_noted2 {α : Type} {b a1 a2 a3 : α} {fixed : List α} : ∀ p ∈ b :: fixed, p ∈ b :: a1 :: a2 :: a3 :: fixed := by
  intro p hp
  simp only [List.mem_cons] at hp ⊢
  rcases hp with rfl | hp
  · exact .inl rfl
  · exact .inr (.inr (.inr (.inr hp)))
theorem ne_noted {bk : Addr} {a1 a2 a3 : Addr × Obj} {fixed : List (Addr × Obj)} (hne : ∀ q ∈ fixed, q.1 ≠ bk) (h1 : a1 ∈ fixed) (h2 : a2 ∈ fixed) (h3 : a3 ∈ fixed) : ∀ q ∈ a1 :: a2 :: a3 :: fixed, q.1 ≠ bk := by
  intro q hq
  simp only [List.mem_cons] at hq
  rcases hq with rfl | rfl | rfl | hq
  · exact hne _ h1
  · exact hne _ h2
  · exact hne _ h3
  · exact hne _ hq
theorem append_head {prog : Program} {w : World} {A : Around} {E : Value → Shared → Prop} {s : Shared} {h₀ : Heap} {L D : Addr} {m : Str → Option Value} {vs : List Value} {n : Nat} {tail : List (Addr × Obj)} {x : Value} {Q : Value → Shared → Prop}
    (F : Fr h₀ L s.heap m) (N : News h₀ L s.heap ((D, lstO vs n) :: tail)) (hne : ∀ q ∈ tail, q.1 ≠ D) (hsz : vs.length ≤ 1000) (h : ∀ h', Fr h₀ L h' m → News h₀ L h' ((D, lstO (vs ++ [x]) (n + 1)) :: tail) → Q .none { s with heap := h' }) :
    wpAny (model prog w) A (call (.builtin "list.append") [.ref D, x]) Q E s :=
  append_K F N (Upd.head hne) (fun h' F' N' => h h' F' (by simpa only [List.push_toArray] using N')) (by rw [List.size_toArray, sizeLine_eq]; lia)
local macro_rules | `(tactic| walk_at "eval Name") => `(tactic| (k_here; (with_reducible show wpAny _ _ (eval (Expr.Name (Str.ofString "book") _) (envX _ _ _ _ _ [_])) _ _ _); refine Hold.of ?_))
structure MS where
  a : Nat
  b : Nat
  ta : Tok
  tb : Tok
  ds : List Value
  nd : Nat
  bv : List Value
noncomputable abbrev mgLed (Led : List Value → Nat → List Value → List (Addr × Obj)) (c : MS) : List (Addr × Obj) := Led c.ds c.nd c.bv
noncomputable abbrev mgPs (c : MS) : List (Str × Value) := [(Str.ofString "a", .int (c.a : Int) c.ta), (Str.ofString "b", .int (c.b : Int) c.tb)]
noncomputable abbrev mgStored : List Str := [Str.ofString "a", Str.ofString "b", Str.ofString "lone", Str.ofString "place", Str.ofString "port", Str.ofString "grown"]
theorem mg_contains {z : Str} (h1 : z ≠ Str.ofString "a") (h2 : z ≠ Str.ofString "b") (h3 : z ≠ Str.ofString "lone") (h4 : z ≠ Str.ofString "place") (h5 : z ≠ Str.ofString "port") (h6 : z ≠ Str.ofString "grown") : mgStored.contains z = false := by
  simp [mgStored, h1, h2, h3, h4, h5, h6]
noncomputable abbrev mgMu (c : MS) : Nat := c.a + c.b
theorem mg_two {m : Str → Option Value} {a b : Nat} {t1 t2 : Tok} {ds bv : List Value} {nd : Nat} (e1 : m (Str.ofString "a") = some (.int (a : Int) t1)) (e2 : m (Str.ofString "b") = some (.int (b : Int) t2)) : ∀ p ∈ mgPs ⟨a, b, t1, t2, ds, nd, bv⟩, m p.1 = some p.2 := by
  intro p hp
  rcases List.mem_cons.mp hp with rfl | hp
  · exact e1
  · rcases List.mem_cons.mp hp with rfl | hp
    · exact e2
    · cases hp
theorem mg_end {h₀ : Heap} {L : Addr} {s : Shared} {f1 f2 : Int → Int} {vs1 vs2 : List Value} {Led : List Value → Nat → List Value → List (Addr × Obj)} {m₀ m' : Str → Option Value} {c : MS} {h' : Heap} {tk : Nat} (a b : Nat) {ds bv : List Value} {nd : Nat}
    (F : Fr h₀ L h' m') (N : News h₀ L h' (Led ds nd bv)) (h1 : ∃ t, m' (Str.ofString "a") = some (.int (a : Int) t)) (h2 : ∃ t, m' (Str.ofString "b") = some (.int (b : Int) t))
    (hr : ∀ z, z ≠ Str.ofString "a" → z ≠ Str.ofString "b" → z ≠ Str.ofString "lone" → z ≠ Str.ofString "place" → z ≠ Str.ofString "port" → z ≠ Str.ofString "grown" → m' z = m₀ z) (hp : MgInv f1 f2 vs1 vs2 a b ds bv) (hm : a + b < mgMu c) :
    KswEnd h₀ L s (mgLed Led) mgPs (fun _ => True) mgStored m₀ (fun c => MgInv f1 f2 vs1 vs2 c.a c.b c.ds c.bv) mgMu c { s with heap := h', toks := tk } := by
  obtain ⟨t1, e1⟩ := h1
  obtain ⟨t2, e2⟩ := h2
  exact ⟨⟨a, b, t1, t2, ds, nd, bv⟩, h', tk, m', _, rfl, F, N, fun _ => id, trivial, mg_two e1 e2, fun z hz hc => by
    simp only [mgStored, List.contains_cons, List.contains_nil, Bool.or_false, Bool.or_eq_false_iff, beq_eq_false_iff_ne, ne_eq] at hc
    exact hr z hc.1 hc.2.1 hc.2.2.1 hc.2.2.2.1 hc.2.2.2.2.1 hc.2.2.2.2.2, hp, hm⟩
theorem mg_loop {prog : Program} {w : World} {A : Around} {E : Value → Shared → Prop} {Q : Flow → Shared → Prop} {s : Shared} {env : Env} {h₀ : Heap} {L : Addr} {test : Expr} {body : List Stmt} {pos : Pos} {m₀ : Str → Option Value}
    (f1 f2 : Int → Int) (vs1 vs2 : List Value) (Led : List Value → Nat → List Value → List (Addr × Obj)) {nd : Nat}
    (F : Fr h₀ L s.heap m₀) (N : News h₀ L s.heap (Led [] nd [])) (h1 : ∃ t, m₀ (Str.ofString "a") = some (.int (vs1.length : Int) t)) (h2 : ∃ t, m₀ (Str.ofString "b") = some (.int (vs2.length : Int) t))
    (turn : ∀ (KP : Flow → Shared → Prop) (a b : Nat) ta tb ds nd' bv (u : Str → Option Value) h tk, (∀ s', KswEnd h₀ L s (mgLed Led) mgPs (fun _ => True) mgStored m₀ (fun c => MgInv f1 f2 vs1 vs2 c.a c.b c.ds c.bv) mgMu ⟨a, b, ta, tb, ds, nd', bv⟩ s' → KP .next s') → MgInv f1 f2 vs1 vs2 a b ds bv →
      Fr h₀ L h (kstB (fun z => if mgStored.contains z then u z else m₀ z) [(Str.ofString "a", .int (a : Int) ta), (Str.ofString "b", .int (b : Int) tb)]) → News h₀ L h (Led ds nd' bv) →
      wpAny (model prog w) A (isTrue test env (eval test env)) (fun b' s₂ =>
        if b' = true then wpAny (model prog w) A (execs body env) KP E s₂ else Q .next s₂) E { s with heap := h, toks := tk })
    (hE : PassesOwn (model prog w) A env E := by passes_own) :
    wpAny (model prog w) A (exec (.While test body [] pos) env) Q E s := by
  obtain ⟨t1, e1⟩ := h1
  obtain ⟨t2, e2⟩ := h2
  refine ksw_while (σ := MS) (mgLed Led) mgPs (fun _ => True) mgStored (fun c => MgInv f1 f2 vs1 vs2 c.a c.b c.ds c.bv) mgMu ⟨vs1.length, vs2.length, t1, t2, [], nd, []⟩ F N trivial (mg_two e1 e2) ⟨Nat.le_refl _, Nat.le_refl _, by simp, by simp, by simp⟩ ?_ hE
  rintro ⟨a, b, ta, tb, ds, nd', bv⟩ u h tk - hp F2 N2
  exact turn _ a b ta tb ds nd' bv u h tk (fun _ h => h) hp F2 N2
local macro_rules | `(tactic| walk_at "call builtin:len") => `(tactic| (k_here; (with_reducible show wpAny _ _ (call (Value.builtin "len") [Value.ref _]) _ _ _); refine Hold.of ?_))
theorem sub4 {α : Type} {a b c d : α} {l : List α} : ∀ p ∈ l, p ∈ a :: b :: c :: d :: l := fun p hp => .tail _ (.tail _ (.tail _ (.tail _ hp)))
theorem sub5 {α : Type} {a b c d e : α} {l : List α} : ∀ p ∈ l, p ∈ a :: b :: c :: d :: e :: l := fun p hp => .tail _ (.tail _ (.tail _ (.tail _ (.tail _ hp))))
theorem callWith_N {M : Model} {w : World} {kf bk c' cell : Addr} {fo oc o' : Obj} {A : Around} {E : Value → Shared → Prop} {s : Shared} {env : Env} {pos : Pos} {first : List Value} {Q : Value → Shared → Prop} {e : Expr} {rest : List Expr} (_ : NotedAt w kf bk c' cell fo oc o')
    (h : wpAny M A (spliced (backTo pos (starEach (e :: rest) env))) (fun vs s₁ => FnAt kf s₁.heap ∧ wpAny M A (call (.ref kf) (first ++ vs)) Q E s₁) E s)
    (he : starEach (e :: rest) env = (false, eval e env) :: starEach rest env := by rfl) (hplain : (backTo pos (starEach rest env)).any (·.1) = false := by rfl) :
    wpAny M A (callWith pos (.ref kf) first (backTo pos (starEach (e :: rest) env)) []) Q E s := callWith_P h he hplain
local macro_rules | `(tactic| k_all) => `(tactic| with_reducible assumption)
local macro_rules | `(tactic| walk_at "callWith ref") => `(tactic| (k_here; (rename NotedAt _ _ _ _ _ _ _ _ => H9); refine callWith_N H9 ?_))
local macro_rules | `(tactic| walk_at "And") => `(tactic| (k_here; (with_reducible show FnAt _ _ ∧ _); refine Hold.of ?_))
local macro_rules | `(tactic| k_mem) => `(tactic| with_reducible_and_instances assumption)
theorem cold_all {h₀ h : Heap} {L dn kf c' a1 a2 bk : Addr} {od oF oC o6 oL o1 o2 ob : Obj} {rest : List (Addr × Obj)} {e6 eL : Addr} (N : News h₀ L h ((dn, od) :: (kf, oF) :: (c', oC) :: (e6, o6) :: (eL, oL) :: (a1, o1) :: (a2, o2) :: (bk, ob) :: rest))
    (b1 : kf ≠ bk) (b2 : c' ≠ bk) (b3 : e6 ≠ bk) (b4 : eL ≠ bk) (b5 : a1 ≠ bk) (b6 : a2 ≠ bk) (b7 : ∀ q ∈ rest, q.1 ≠ bk)
    (d1 : kf ≠ dn) (d2 : c' ≠ dn) (d3 : e6 ≠ dn) (d4 : eL ≠ dn) (d5 : a1 ≠ dn) (d6 : a2 ≠ dn) (d7 : ∀ q ∈ rest, q.1 ≠ dn) :
    ∃ RR : List (Addr × Obj), News h₀ L h ((dn, od) :: (bk, ob) :: RR) ∧ (kf, oF) ∈ RR ∧ (c', oC) ∈ RR ∧ (e6, o6) ∈ RR ∧ (eL, oL) ∈ RR ∧ (a1, o1) ∈ RR ∧ (a2, o2) ∈ RR ∧
      (∀ q ∈ RR, q.1 ≠ bk) ∧ (∀ q ∈ RR, q.1 ≠ dn) ∧ (∀ q ∈ rest, q ∈ RR) := by
  refine ⟨(kf, oF) :: (c', oC) :: (e6, o6) :: (eL, oL) :: (a1, o1) :: (a2, o2) :: rest, news_sub N ?_, by k_mem, by k_mem, by k_mem, by k_mem, by k_mem, by k_mem, ?_, ?_, fun q hq => .tail _ (.tail _ (.tail _ (.tail _ (.tail _ (.tail _ hq)))))⟩
  · intro p hp
    simp only [List.mem_cons] at hp ⊢
    grind
  · simp only [List.forall_mem_cons]
    exact ⟨b1, b2, b3, b4, b5, b6, b7⟩
  · simp only [List.forall_mem_cons]
    exact ⟨d1, d2, d3, d4, d5, d6, d7⟩
set_option maxHeartbeats 4000000 in
theorem merged_ok (w : World) (al1 al2 bk : Addr) (vs1 vs2 : List Value) (n1 n2 : Nat) (rest : List (Addr × Obj)) (f1 f2 : Int → Int) (hap : ∀ q ∈ ((al1, lstO vs1 n1) :: (al2, lstO vs2 n2) :: (bk, lstO [] 0) :: rest), q.1 ≠ 166)
    (hs1 : Strs vs1) (hs2 : Strs vs2) (P1 : Ports vs1 f1) (P2 : Ports vs2 f2) (so1 : ∀ i j : Int, 0 ≤ i → i ≤ j → j < vs1.length → f1 i ≤ f1 j) (so2 : ∀ i j : Int, 0 ≤ i → i ≤ j → j < vs2.length → f2 i ≤ f2 j)
    (hn1 : vs1.length < 5) (hn2 : vs2.length < 10) (hb1 : al1 ≠ bk) (hb2 : al2 ≠ bk) (hbr : ∀ q ∈ rest, q.1 ≠ bk) :
    ClaimM w 5 171 [.ref al1, .ref al2, .ref bk] [] ((166, tabObj #[]) :: (al1, lstO vs1 n1) :: (al2, lstO vs2 n2) :: (bk, lstO [] 0) :: rest)
      (fun v nw => ∃ D nd bv ps, v = .ref D ∧ nw = (D, lstO (mrg f1 f2 vs1 vs2 vs1.length vs2.length) nd) :: (166, tabObj ps) :: (al1, lstO vs1 n1) :: (al2, lstO vs2 n2) :: (bk, bookO bv) :: rest ∧ bv.length ≤ bnd vs1.length vs2.length) := by
  unfold ClaimM
  k_fill
  intro dp un gd cn cs a ccd cl outer A₀ base h₀ L m s Q E p loose mean mg mb B F X N T hk hd hu hcd ret
  have st6 : StopAt "call builtin:list.append" := ⟨⟩
  have st6 : StopAt "call ref" := ⟨⟩
  have st6 : StopAt "exec FunctionDef" := ⟨⟩
  have st6 : StopAt "exec While" := ⟨⟩
  have st6 : StopAt "subscriptTail Name Slice ref ref" := ⟨⟩
  have st6 : StopAt "binaryOp Add ref ref" := ⟨⟩
  have st6 : StopAt "subscriptTail Name BinOp ref int" := ⟨⟩
  have st6 : StopAt "subscriptTail Name Name ref int" := ⟨⟩
  obtain ⟨sh, sg, sd, st, so⟩ := s
  dsimp only at F N ret
  refine wpAny_call ?_
  k_dflt (refine' code_defC ?k1 ?k2 ?k3 ?k4 ?k5 ?kA ?kF ?kK ?k6 ?k7 ?k8 ?k9 ?kB ?kD ?_ ?c2 ?c3 ?c4; (case kA => exact rfl); (case kF => exact rfl); (case kK => assumption); (case k1 => k_asm); (case k2 => k_asm); (case k3 => k_asm); (case k4 => k_asm); (case k5 => k_asm); (case k6 => k_is); (case k7 => k_is); (case k8 => ktr_room); (case k9 => exact BindsTo.of_eq rfl); (case kB => exact rfl); (case kD => decide +kernel); (case c2 => exact rfl); (case c3 => exact rfl); (case c4 => exact rfl); k_whole; intro g' L' h' tk' cells' FG' F' N' Y' B' X' T' l1; (try k_lt l1); (have hY := CellsAre.one Y'; obtain ⟨o', hE', d1'⟩ := hY; subst hE'; clear Y'); (try simp only [List.cons_append, List.nil_append] at N'); (try dsimp only); (try k_lift B'); (try k_fold))
  refine gen_tok0 ?_
  intro tk0
  k_steps
  repeat' ((with_reducible refine Hold.out ?_); (first | ((with_reducible show wpAny _ _ (call (Value.builtin "list.append") _) _ _ _); refine append_head (by k_asm) (by k_asm) (by assumption) (by assumption) ?_; intro _ _ _) | ((with_reducible show wpAny _ _ (eval (Expr.Name (Str.ofString "book") _) (envX _ _ _ _ _ [_])) _ _ _); refine nameX_F (by k_asm) (by rfl) (by k_mem) (by with_reducible assumption) ?_ rfl rfl) | ((with_reducible show wpAny _ _ (subscriptTail _ (PySem.Expr.Slice none (some _) none _) (Value.ref _) (Value.ref _)) _ _ _); refine kmk_slice_lit (by k_asm) (by k_asm) (by kmk_list) (by kmk_part) (by kmk_part) pick_upto ?_ (by with_unfolding_all rfl) (by kmk_pure) (z_arr (Short.le (by (repeat' (first | with_reducible assumption | apply Short.app | apply Short.take | apply Short.drop | apply Short.rev | exact Short.one | exact Short.nil))) (by decide))); intro _ _ _ _ l1; (try k_lt l1)) | ((with_reducible show wpAny _ _ (subscriptTail _ (PySem.Expr.Slice (some _) (some _) none _) (Value.ref _) (Value.ref _)) _ _ _); refine kmk_slice_lit (by k_asm) (by k_asm) (by kmk_list) (by kmk_part) (by kmk_part) (pick_run (by first | with_reducible assumption | exact bisP_lo _ (by with_reducible assumption))) ?_ (by with_unfolding_all rfl) (by kmk_pure) (z_arr (Short.le (by (repeat' (first | with_reducible assumption | apply Short.app | apply Short.take | apply Short.drop | apply Short.rev | exact Short.one | exact Short.nil))) (by decide))); intro _ _ _ _ l1; (try k_lt l1)) | ((with_reducible show wpAny _ _ (binaryOp _ _ _) _ _ _); refine add_L (by k_asm) (by k_asm) (by k_mem) (by k_mem) (Short.le (by (repeat' (first | with_reducible assumption | apply Short.app | apply Short.take | apply Short.drop | apply Short.rev | exact Short.one | exact Short.nil))) (by decide)) (Short.le (by (repeat' (first | with_reducible assumption | apply Short.app | apply Short.take | apply Short.drop | apply Short.rev | exact Short.one | exact Short.nil))) (by decide)) ?_; intro _ _ _ _ l1; (try k_lt l1)) | ((with_reducible show wpAny _ _ (call (Value.builtin "len") [Value.ref _]) _ _ _); refine len_any (by k_asm) (by k_mem) (by lia) ?_) | ((with_reducible show wpAny _ _ (subscriptTail _ _ (Value.ref _) (Value.int _ _)) _ _ _); refine item_port (by k_asm) (by k_mem) (by with_reducible assumption) (by with_reducible assumption) (by with_reducible assumption) (by with_reducible assumption) (by lia) ?_ (by with_unfolding_all rfl); intro _ _ _ _) | ((with_reducible show wpAny _ _ (subscriptTail _ (PySem.Expr.Slice none none (some _) _) (Value.ref _) (Value.ref _)) _ _ _); refine rev_T (by k_asm) (by k_asm) (by k_mem) (IsPart.int _ _) ?_ (by with_unfolding_all rfl) (Short.le (by (repeat' (first | with_reducible assumption | apply Short.app | apply Short.take | apply Short.drop | apply Short.rev | exact Short.one | exact Short.nil))) (by decide)); intro _ _ _ _ l1; (try k_lt l1)) | ((with_reducible show FnAt _ _ ∧ _); (rename NotedAt _ _ _ _ _ _ _ _ => H9); refine ⟨fnAt_news (by k_asm) (by k_mem) H9.fn, ?_⟩) | ((with_reducible show wpAny _ _ (call (Value.ref 164) _ _) _ _ _); (rename NotedAt _ _ _ _ _ _ _ _ => H9); refine Claim.use1 ⟨by k_asm, by k_asm, by k_asm, by k_asm, by k_asm, by first | exact rfl | assumption, by first | exact room1 (by with_reducible assumption) (by decide) | ktr_room, by first | exact units1 (by with_reducible assumption) (by decide) | ktr_units⟩ (halv_ok _ _ _ _ _ (by with_reducible assumption) (by with_reducible assumption) (by lia) _) ?_; intro _ _ _ _ _; (try dsimp only)) | ((with_reducible show wpAny _ _ (call (Value.ref 136) _ _) _ _ _); (rename NotedAt _ _ _ _ _ _ _ _ => H9); refine Claim.use1 ⟨by k_asm, by k_asm, by k_asm, by k_asm, by k_asm, by first | exact rfl | assumption, by first | exact room1 (by with_reducible assumption) (by decide) | ktr_room, by first | exact units1 (by with_reducible assumption) (by decide) | ktr_units⟩ (ilshift_ok _ _ _ _ (by with_reducible assumption) (by with_reducible assumption) _) ?_; intro _ _ _ _ _; (try dsimp only)) | ((with_reducible show wpAny _ _ (call (Value.ref 150) _ _) _ _ _); refine Claim.use1 ⟨by k_asm, by k_asm, by k_asm, by k_asm, by k_asm, by first | exact rfl | assumption, by first | exact room1 (by with_reducible assumption) (by decide) | ktr_room, by first | exact units1 (by with_reducible assumption) (by decide) | ktr_units⟩ (port_ok _ _ _ _ _ (by with_reducible assumption)) ?_; intro _ _ _ _ _; (try dsimp only)) | ((with_reducible show wpAny _ _ (call (Value.ref 115) _ _) _ _ _); (rename NotedAt _ _ _ _ _ _ _ _ => H9); refine Claim.use0 ⟨by k_asm, by k_asm, by k_asm, by k_asm, by k_asm, by first | exact rfl | assumption, by first | exact room1 (by with_reducible assumption) (by decide) | ktr_room, by first | exact units1 (by with_reducible assumption) (by decide) | ktr_units⟩ (gt_ok _ _ _ _ _ _) ?_; intro _ _ _ _; (try dsimp only)) | ((with_reducible show wpAny _ _ (call (Value.ref 108) _ _) _ _ _); (rename NotedAt _ _ _ _ _ _ _ _ => H9); refine Claim.use0 ⟨by k_asm, by k_asm, by k_asm, by k_asm, by k_asm, by first | exact rfl | assumption, by first | exact room1 (by with_reducible assumption) (by decide) | ktr_room, by first | exact units1 (by with_reducible assumption) (by decide) | ktr_units⟩ (ge_ok _ _ _ _ _ _) ?_; intro _ _ _ _; (try dsimp only)) | ((with_reducible show wpAny _ _ (call (Value.ref 32) _ _) _ _ _); (rename NotedAt _ _ _ _ _ _ _ _ => H9); refine Claim.useS ⟨by k_asm, by k_asm, by k_asm, by k_asm, by k_asm, by first | exact rfl | assumption, by first | exact room1 (by with_reducible assumption) (by decide) | ktr_room, by first | exact units1 (by with_reducible assumption) (by decide) | ktr_units⟩ (bisr_U H9 (by k_mem) (by with_reducible assumption) (by with_reducible assumption) _ _ _ _ _ _ (by with_reducible assumption) (by with_reducible assumption) (by lia) (by assumption) (by k_mem) (by k_mem) (by k_mem) (by k_upd) (hB_of (by first | exact Short.le (by (repeat' (first | with_reducible assumption | apply Short.app | apply Short.take | apply Short.drop | apply Short.rev | exact Short.one | exact Short.nil))) (by decide) | ((try simp only [List.length_append, List.length_take, List.length_drop, List.length_reverse, List.length_cons, List.length_nil]); lia)) (by with_reducible assumption) (by with_reducible assumption) (by lia))) ?_; (intro _ _ _ _ hRet' _ _); (obtain ⟨t', b', hv', hU', hbl'⟩ := hRet'); subst hv'; (refine upd_use hU' (by k_upd) ?_; intro hE'; subst hE'); (try dsimp only)) | ((with_reducible show wpAny _ _ (call (Value.ref 50) _ _) _ _ _); (rename NotedAt _ _ _ _ _ _ _ _ => H9); refine Claim.useS ⟨by k_asm, by k_asm, by k_asm, by k_asm, by k_asm, by first | exact rfl | assumption, by first | exact room1 (by with_reducible assumption) (by decide) | ktr_room, by first | exact units1 (by with_reducible assumption) (by decide) | ktr_units⟩ (bisl_U H9 (by k_mem) (by with_reducible assumption) (by with_reducible assumption) _ _ _ _ _ _ (by with_reducible assumption) (by with_reducible assumption) (by lia) (by assumption) (by k_mem) (by k_mem) (by k_mem) (by k_upd) (hB_of (by first | exact Short.le (by (repeat' (first | with_reducible assumption | apply Short.app | apply Short.take | apply Short.drop | apply Short.rev | exact Short.one | exact Short.nil))) (by decide) | ((try simp only [List.length_append, List.length_take, List.length_drop, List.length_reverse, List.length_cons, List.length_nil]); lia)) (by with_reducible assumption) (by with_reducible assumption) (by lia))) ?_; (intro _ _ _ _ hRet' _ _); (obtain ⟨t', b', hv', hU', hbl'⟩ := hRet'); subst hv'; (refine upd_use hU' (by k_upd) ?_; intro hE'; subst hE'); (try dsimp only)) | ((with_reducible show wpAny _ _ (call (Value.ref 129) _ _) _ _ _); (rename NotedAt _ _ _ _ _ _ _ _ => H9); refine Claim.useS ⟨by k_asm, by k_asm, by k_asm, by k_asm, by k_asm, by first | exact rfl | assumption, by first | exact room1 (by with_reducible assumption) (by decide) | ktr_room, by first | exact units1 (by with_reducible assumption) (by decide) | ktr_units⟩ (iconcat_U _ _ _ _ _ _ _ (by k_mem) (by k_ne) (by k_upd) (Short.sum (by (repeat' (first | with_reducible assumption | apply Short.app | apply Short.take | apply Short.drop | apply Short.rev | exact Short.one | exact Short.nil))) (by (repeat' (first | with_reducible assumption | apply Short.app | apply Short.take | apply Short.drop | apply Short.rev | exact Short.one | exact Short.nil))) (by decide))) ?_; (intro _ _ _ _ hRet' _ _); (obtain ⟨n', hv', hU'⟩ := hRet'); subst hv'; (refine upd_use hU' (by k_upd) ?_; intro hE'; subst hE'); (try dsimp only)) | ((with_reducible show wpAny _ _ (call (Value.ref _) _ _) _ _ _); (rename NotedAt _ _ _ _ _ _ _ _ => H9); refine Claim.use1 ⟨by k_asm, by k_asm, by k_asm, by k_asm, by k_asm, by first | exact rfl | assumption, by first | exact room1 (by with_reducible assumption) (by decide) | ktr_room, by first | exact units1 (by with_reducible assumption) (by decide) | ktr_units⟩ (H9.ok _ _ _ _ _ _ (by with_reducible assumption) (by k_mem) (by k_mem) (by k_mem) (by k_upd) (by lia)) ?_; intro _ _ _ _ _; (try dsimp only)) | fail); k_steps)
  refine Hold.out ?_
  refine nestDef_K (by exact rfl) (by exact rfl) (by exact rfl) ?_
  rename News _ _ _ _ => N1
  rename Fr _ _ _ _ => F1
  have N2 : News _ _ _ ((166, tabObj #[]) :: (L' + 1, o') :: (al1, lstO vs1 n1) :: (al2, lstO vs2 n2) :: (bk, lstO [] 0) :: rest) := news_sub N1 (sub_swap _ _ _)
  have hap2 : ∀ q ∈ ((L' + 1, o') :: (al1, lstO vs1 n1) :: (al2, lstO vs2 n2) :: (bk, lstO [] 0) :: rest), q.1 ≠ 166 := List.forall_mem_cons.mpr ⟨Nat.ne_of_gt (Nat.lt_succ_of_lt l1.1), hap⟩
  refine' nest_K F1 N2 T' (CodeHd.keeps hcd B'.stays) rfl (UpdF.head hap2) ?t ?n ?cl ?_
  (case t => kn_triples)
  (case n => kn_among)
  (case cl => exact rfl)
  k_whole
  intro kf c' oc vsC tC ctv doc h2 tk2 F2 N3 hoc hvc hlt1 hlt2
  generalize qualnameIn _ _ _ = qual at N3 hvc
  dsimp only at N3
  refine have_noted (w := w) N3 (L' + 1) o' rfl ?_ ?_
  · clear ret N3 F2 N2 N1 F1 hap2 hap hlt1 hlt2 d1' N F X T B hk hd hu hcd FG' B' X' T' l1
    intro bk nk nc nl ho' r t port bv news news' hg m1 m2 m3 U hbv
    obtain ⟨pre, post, rfl, rfl, p1, p2⟩ := U.split
    have hm1 := mem_off m1 nk
    have hm2 := mem_off m2 nc
    have hm3 := mem_off m3 nl
    have hne := ne_both p1 p2
    clear U m1 m2 m3
    unfold Claim
    intro dp un gd cn cs a ccd cl outer A₀ base h₀ L m s Q E p loose mean mg mb B F X N T hk hd hu ret
    have N1 : News h₀ L s.heap ((bk, bookO bv) :: (kf, _) :: (c', oc) :: (_, o') :: (pre ++ post)) := news_sub (news_sub N sub_pull) (sub_noted hm1 hm2 hm3)
    have hne1 := ne_noted hne hm1 hm2 hm3
    clear N hm1 hm2 hm3
    refine wpAny_call ?_
    k_dflt (refine' code_nest ?k1 ?k2 ?k3 ?k4 ?k5 ?kA ?kF ?kK ?k6 ?k7 ?k8 ?k9 ?kB ?_ ?c2 ?c3 ?c4 ?c5; (case kA => exact rfl); (case kF => exact rfl); (case kK => assumption); (case k1 => k_asm); (case k2 => k_asm); (case k3 => k_asm); (case k4 => k_asm); (case k5 => k_asm); (case k6 => k_mem); (case k7 => exact codeRec_news N1 (by k_mem) hoc hvc); (case k8 => ktr_room); (case k9 => exact BindsTo.of_eq rfl); (case c5 => decide); (case kB => exact locs rfl); (case c2 => exact rfl); (case c3 => exact rfl); (case c4 => exact rfl); k_whole; intro g' L' h' FG' F' N' B' X' T'; (try dsimp only); (try k_fold))
    refine gen_tok0 ?_
    intro tk0
    k_steps
    repeat' ((with_reducible refine Hold.out ?_); (first | ((with_reducible show wpAny _ _ (call (Value.builtin "list.append") _) _ _ _); refine append_head (by k_asm) (by k_asm) (by assumption) (by assumption) ?_; intro _ _ _) | ((with_reducible show wpAny _ _ (eval (Expr.Name (Str.ofString "book") _) (envX _ _ _ _ _ [_])) _ _ _); refine nameX_F (by k_asm) (by rfl) (by k_mem) (by with_reducible assumption) ?_ rfl rfl) | ((with_reducible show wpAny _ _ (subscriptTail _ (PySem.Expr.Slice none (some _) none _) (Value.ref _) (Value.ref _)) _ _ _); refine kmk_slice_lit (by k_asm) (by k_asm) (by kmk_list) (by kmk_part) (by kmk_part) pick_upto ?_ (by with_unfolding_all rfl) (by kmk_pure) (z_arr (Short.le (by (repeat' (first | with_reducible assumption | apply Short.app | apply Short.take | apply Short.drop | apply Short.rev | exact Short.one | exact Short.nil))) (by decide))); intro _ _ _ _ l1; (try k_lt l1)) | ((with_reducible show wpAny _ _ (subscriptTail _ (PySem.Expr.Slice (some _) (some _) none _) (Value.ref _) (Value.ref _)) _ _ _); refine kmk_slice_lit (by k_asm) (by k_asm) (by kmk_list) (by kmk_part) (by kmk_part) (pick_run (by first | with_reducible assumption | exact bisP_lo _ (by with_reducible assumption))) ?_ (by with_unfolding_all rfl) (by kmk_pure) (z_arr (Short.le (by (repeat' (first | with_reducible assumption | apply Short.app | apply Short.take | apply Short.drop | apply Short.rev | exact Short.one | exact Short.nil))) (by decide))); intro _ _ _ _ l1; (try k_lt l1)) | ((with_reducible show wpAny _ _ (binaryOp _ _ _) _ _ _); refine add_L (by k_asm) (by k_asm) (by k_mem) (by k_mem) (Short.le (by (repeat' (first | with_reducible assumption | apply Short.app | apply Short.take | apply Short.drop | apply Short.rev | exact Short.one | exact Short.nil))) (by decide)) (Short.le (by (repeat' (first | with_reducible assumption | apply Short.app | apply Short.take | apply Short.drop | apply Short.rev | exact Short.one | exact Short.nil))) (by decide)) ?_; intro _ _ _ _ l1; (try k_lt l1)) | ((with_reducible show wpAny _ _ (call (Value.builtin "len") [Value.ref _]) _ _ _); refine len_any (by k_asm) (by k_mem) (by lia) ?_) | ((with_reducible show wpAny _ _ (subscriptTail _ _ (Value.ref _) (Value.int _ _)) _ _ _); refine item_port (by k_asm) (by k_mem) (by with_reducible assumption) (by with_reducible assumption) (by with_reducible assumption) (by with_reducible assumption) (by lia) ?_ (by with_unfolding_all rfl); intro _ _ _ _) | ((with_reducible show wpAny _ _ (subscriptTail _ (PySem.Expr.Slice none none (some _) _) (Value.ref _) (Value.ref _)) _ _ _); refine rev_T (by k_asm) (by k_asm) (by k_mem) (IsPart.int _ _) ?_ (by with_unfolding_all rfl) (Short.le (by (repeat' (first | with_reducible assumption | apply Short.app | apply Short.take | apply Short.drop | apply Short.rev | exact Short.one | exact Short.nil))) (by decide)); intro _ _ _ _ l1; (try k_lt l1)) | ((with_reducible show FnAt _ _ ∧ _); (rename NotedAt _ _ _ _ _ _ _ _ => H9); refine ⟨fnAt_news (by k_asm) (by k_mem) H9.fn, ?_⟩) | ((with_reducible show wpAny _ _ (call (Value.ref 164) _ _) _ _ _); (rename NotedAt _ _ _ _ _ _ _ _ => H9); refine Claim.use1 ⟨by k_asm, by k_asm, by k_asm, by k_asm, by k_asm, by first | exact rfl | assumption, by first | exact room1 (by with_reducible assumption) (by decide) | ktr_room, by first | exact units1 (by with_reducible assumption) (by decide) | ktr_units⟩ (halv_ok _ _ _ _ _ (by with_reducible assumption) (by with_reducible assumption) (by lia) _) ?_; intro _ _ _ _ _; (try dsimp only)) | ((with_reducible show wpAny _ _ (call (Value.ref 136) _ _) _ _ _); (rename NotedAt _ _ _ _ _ _ _ _ => H9); refine Claim.use1 ⟨by k_asm, by k_asm, by k_asm, by k_asm, by k_asm, by first | exact rfl | assumption, by first | exact room1 (by with_reducible assumption) (by decide) | ktr_room, by first | exact units1 (by with_reducible assumption) (by decide) | ktr_units⟩ (ilshift_ok _ _ _ _ (by with_reducible assumption) (by with_reducible assumption) _) ?_; intro _ _ _ _ _; (try dsimp only)) | ((with_reducible show wpAny _ _ (call (Value.ref 150) _ _) _ _ _); refine Claim.use1 ⟨by k_asm, by k_asm, by k_asm, by k_asm, by k_asm, by first | exact rfl | assumption, by first | exact room1 (by with_reducible assumption) (by decide) | ktr_room, by first | exact units1 (by with_reducible assumption) (by decide) | ktr_units⟩ (port_ok _ _ _ _ _ (by with_reducible assumption)) ?_; intro _ _ _ _ _; (try dsimp only)) | ((with_reducible show wpAny _ _ (call (Value.ref 115) _ _) _ _ _); (rename NotedAt _ _ _ _ _ _ _ _ => H9); refine Claim.use0 ⟨by k_asm, by k_asm, by k_asm, by k_asm, by k_asm, by first | exact rfl | assumption, by first | exact room1 (by with_reducible assumption) (by decide) | ktr_room, by first | exact units1 (by with_reducible assumption) (by decide) | ktr_units⟩ (gt_ok _ _ _ _ _ _) ?_; intro _ _ _ _; (try dsimp only)) | ((with_reducible show wpAny _ _ (call (Value.ref 108) _ _) _ _ _); (rename NotedAt _ _ _ _ _ _ _ _ => H9); refine Claim.use0 ⟨by k_asm, by k_asm, by k_asm, by k_asm, by k_asm, by first | exact rfl | assumption, by first | exact room1 (by with_reducible assumption) (by decide) | ktr_room, by first | exact units1 (by with_reducible assumption) (by decide) | ktr_units⟩ (ge_ok _ _ _ _ _ _) ?_; intro _ _ _ _; (try dsimp only)) | ((with_reducible show wpAny _ _ (call (Value.ref 32) _ _) _ _ _); (rename NotedAt _ _ _ _ _ _ _ _ => H9); refine Claim.useS ⟨by k_asm, by k_asm, by k_asm, by k_asm, by k_asm, by first | exact rfl | assumption, by first | exact room1 (by with_reducible assumption) (by decide) | ktr_room, by first | exact units1 (by with_reducible assumption) (by decide) | ktr_units⟩ (bisr_U H9 (by k_mem) (by with_reducible assumption) (by with_reducible assumption) _ _ _ _ _ _ (by with_reducible assumption) (by with_reducible assumption) (by lia) (by assumption) (by k_mem) (by k_mem) (by k_mem) (by k_upd) (hB_of (by first | exact Short.le (by (repeat' (first | with_reducible assumption | apply Short.app | apply Short.take | apply Short.drop | apply Short.rev | exact Short.one | exact Short.nil))) (by decide) | ((try simp only [List.length_append, List.length_take, List.length_drop, List.length_reverse, List.length_cons, List.length_nil]); lia)) (by with_reducible assumption) (by with_reducible assumption) (by lia))) ?_; (intro _ _ _ _ hRet' _ _); (obtain ⟨t', b', hv', hU', hbl'⟩ := hRet'); subst hv'; (refine upd_use hU' (by k_upd) ?_; intro hE'; subst hE'); (try dsimp only)) | ((with_reducible show wpAny _ _ (call (Value.ref 50) _ _) _ _ _); (rename NotedAt _ _ _ _ _ _ _ _ => H9); refine Claim.useS ⟨by k_asm, by k_asm, by k_asm, by k_asm, by k_asm, by first | exact rfl | assumption, by first | exact room1 (by with_reducible assumption) (by decide) | ktr_room, by first | exact units1 (by with_reducible assumption) (by decide) | ktr_units⟩ (bisl_U H9 (by k_mem) (by with_reducible assumption) (by with_reducible assumption) _ _ _ _ _ _ (by with_reducible assumption) (by with_reducible assumption) (by lia) (by assumption) (by k_mem) (by k_mem) (by k_mem) (by k_upd) (hB_of (by first | exact Short.le (by (repeat' (first | with_reducible assumption | apply Short.app | apply Short.take | apply Short.drop | apply Short.rev | exact Short.one | exact Short.nil))) (by decide) | ((try simp only [List.length_append, List.length_take, List.length_drop, List.length_reverse, List.length_cons, List.length_nil]); lia)) (by with_reducible assumption) (by with_reducible assumption) (by lia))) ?_; (intro _ _ _ _ hRet' _ _); (obtain ⟨t', b', hv', hU', hbl'⟩ := hRet'); subst hv'; (refine upd_use hU' (by k_upd) ?_; intro hE'; subst hE'); (try dsimp only)) | ((with_reducible show wpAny _ _ (call (Value.ref 129) _ _) _ _ _); (rename NotedAt _ _ _ _ _ _ _ _ => H9); refine Claim.useS ⟨by k_asm, by k_asm, by k_asm, by k_asm, by k_asm, by first | exact rfl | assumption, by first | exact room1 (by with_reducible assumption) (by decide) | ktr_room, by first | exact units1 (by with_reducible assumption) (by decide) | ktr_units⟩ (iconcat_U _ _ _ _ _ _ _ (by k_mem) (by k_ne) (by k_upd) (Short.sum (by (repeat' (first | with_reducible assumption | apply Short.app | apply Short.take | apply Short.drop | apply Short.rev | exact Short.one | exact Short.nil))) (by (repeat' (first | with_reducible assumption | apply Short.app | apply Short.take | apply Short.drop | apply Short.rev | exact Short.one | exact Short.nil))) (by decide))) ?_; (intro _ _ _ _ hRet' _ _); (obtain ⟨n', hv', hU'⟩ := hRet'); subst hv'; (refine upd_use hU' (by k_upd) ?_; intro hE'; subst hE'); (try dsimp only)) | ((with_reducible show wpAny _ _ (call (Value.ref _) _ _) _ _ _); (rename NotedAt _ _ _ _ _ _ _ _ => H9); refine Claim.use1 ⟨by k_asm, by k_asm, by k_asm, by k_asm, by k_asm, by first | exact rfl | assumption, by first | exact room1 (by with_reducible assumption) (by decide) | ktr_room, by first | exact units1 (by with_reducible assumption) (by decide) | ktr_units⟩ (H9.ok _ _ _ _ _ _ (by with_reducible assumption) (by k_mem) (by k_mem) (by k_mem) (by k_upd) (by lia)) ?_; intro _ _ _ _ _; (try dsimp only)) | fail); k_steps)
    rename News _ _ _ _ => N9
    exact ret _ _ _ _ ⟨_, rfl, rfl⟩ (by assumption) (news_sub (news_sub (by simpa only [bookO, List.length_append, List.length_cons, List.length_nil] using N9) sub_noted2) sub_push)
  intro hfo hNo
  generalize fnMade _ _ _ _ _ _ _ _ _ _ = fo at N3 hNo hfo
  k_steps
  repeat' ((with_reducible refine Hold.out ?_); (first | ((with_reducible show wpAny _ _ (call (Value.builtin "list.append") _) _ _ _); refine append_head (by k_asm) (by k_asm) (by assumption) (by assumption) ?_; intro _ _ _) | ((with_reducible show wpAny _ _ (eval (Expr.Name (Str.ofString "book") _) (envX _ _ _ _ _ [_])) _ _ _); refine nameX_F (by k_asm) (by rfl) (by k_mem) (by with_reducible assumption) ?_ rfl rfl) | ((with_reducible show wpAny _ _ (subscriptTail _ (PySem.Expr.Slice none (some _) none _) (Value.ref _) (Value.ref _)) _ _ _); refine kmk_slice_lit (by k_asm) (by k_asm) (by kmk_list) (by kmk_part) (by kmk_part) pick_upto ?_ (by with_unfolding_all rfl) (by kmk_pure) (z_arr (Short.le (by (repeat' (first | with_reducible assumption | apply Short.app | apply Short.take | apply Short.drop | apply Short.rev | exact Short.one | exact Short.nil))) (by decide))); intro _ _ _ _ l1; (try k_lt l1)) | ((with_reducible show wpAny _ _ (subscriptTail _ (PySem.Expr.Slice (some _) (some _) none _) (Value.ref _) (Value.ref _)) _ _ _); refine kmk_slice_lit (by k_asm) (by k_asm) (by kmk_list) (by kmk_part) (by kmk_part) (pick_run (by first | with_reducible assumption | exact bisP_lo _ (by with_reducible assumption))) ?_ (by with_unfolding_all rfl) (by kmk_pure) (z_arr (Short.le (by (repeat' (first | with_reducible assumption | apply Short.app | apply Short.take | apply Short.drop | apply Short.rev | exact Short.one | exact Short.nil))) (by decide))); intro _ _ _ _ l1; (try k_lt l1)) | ((with_reducible show wpAny _ _ (binaryOp _ _ _) _ _ _); refine add_L (by k_asm) (by k_asm) (by k_mem) (by k_mem) (Short.le (by (repeat' (first | with_reducible assumption | apply Short.app | apply Short.take | apply Short.drop | apply Short.rev | exact Short.one | exact Short.nil))) (by decide)) (Short.le (by (repeat' (first | with_reducible assumption | apply Short.app | apply Short.take | apply Short.drop | apply Short.rev | exact Short.one | exact Short.nil))) (by decide)) ?_; intro _ _ _ _ l1; (try k_lt l1)) | ((with_reducible show wpAny _ _ (call (Value.builtin "len") [Value.ref _]) _ _ _); refine len_any (by k_asm) (by k_mem) (by lia) ?_) | ((with_reducible show wpAny _ _ (subscriptTail _ _ (Value.ref _) (Value.int _ _)) _ _ _); refine item_port (by k_asm) (by k_mem) (by with_reducible assumption) (by with_reducible assumption) (by with_reducible assumption) (by with_reducible assumption) (by lia) ?_ (by with_unfolding_all rfl); intro _ _ _ _) | ((with_reducible show wpAny _ _ (subscriptTail _ (PySem.Expr.Slice none none (some _) _) (Value.ref _) (Value.ref _)) _ _ _); refine rev_T (by k_asm) (by k_asm) (by k_mem) (IsPart.int _ _) ?_ (by with_unfolding_all rfl) (Short.le (by (repeat' (first | with_reducible assumption | apply Short.app | apply Short.take | apply Short.drop | apply Short.rev | exact Short.one | exact Short.nil))) (by decide)); intro _ _ _ _ l1; (try k_lt l1)) | ((with_reducible show FnAt _ _ ∧ _); (rename NotedAt _ _ _ _ _ _ _ _ => H9); refine ⟨fnAt_news (by k_asm) (by k_mem) H9.fn, ?_⟩) | ((with_reducible show wpAny _ _ (call (Value.ref 164) _ _) _ _ _); (rename NotedAt _ _ _ _ _ _ _ _ => H9); refine Claim.use1 ⟨by k_asm, by k_asm, by k_asm, by k_asm, by k_asm, by first | exact rfl | assumption, by first | exact room1 (by with_reducible assumption) (by decide) | ktr_room, by first | exact units1 (by with_reducible assumption) (by decide) | ktr_units⟩ (halv_ok _ _ _ _ _ (by with_reducible assumption) (by with_reducible assumption) (by lia) _) ?_; intro _ _ _ _ _; (try dsimp only)) | ((with_reducible show wpAny _ _ (call (Value.ref 136) _ _) _ _ _); (rename NotedAt _ _ _ _ _ _ _ _ => H9); refine Claim.use1 ⟨by k_asm, by k_asm, by k_asm, by k_asm, by k_asm, by first | exact rfl | assumption, by first | exact room1 (by with_reducible assumption) (by decide) | ktr_room, by first | exact units1 (by with_reducible assumption) (by decide) | ktr_units⟩ (ilshift_ok _ _ _ _ (by with_reducible assumption) (by with_reducible assumption) _) ?_; intro _ _ _ _ _; (try dsimp only)) | ((with_reducible show wpAny _ _ (call (Value.ref 150) _ _) _ _ _); refine Claim.use1 ⟨by k_asm, by k_asm, by k_asm, by k_asm, by k_asm, by first | exact rfl | assumption, by first | exact room1 (by with_reducible assumption) (by decide) | ktr_room, by first | exact units1 (by with_reducible assumption) (by decide) | ktr_units⟩ (port_ok _ _ _ _ _ (by with_reducible assumption)) ?_; intro _ _ _ _ _; (try dsimp only)) | ((with_reducible show wpAny _ _ (call (Value.ref 115) _ _) _ _ _); (rename NotedAt _ _ _ _ _ _ _ _ => H9); refine Claim.use0 ⟨by k_asm, by k_asm, by k_asm, by k_asm, by k_asm, by first | exact rfl | assumption, by first | exact room1 (by with_reducible assumption) (by decide) | ktr_room, by first | exact units1 (by with_reducible assumption) (by decide) | ktr_units⟩ (gt_ok _ _ _ _ _ _) ?_; intro _ _ _ _; (try dsimp only)) | ((with_reducible show wpAny _ _ (call (Value.ref 108) _ _) _ _ _); (rename NotedAt _ _ _ _ _ _ _ _ => H9); refine Claim.use0 ⟨by k_asm, by k_asm, by k_asm, by k_asm, by k_asm, by first | exact rfl | assumption, by first | exact room1 (by with_reducible assumption) (by decide) | ktr_room, by first | exact units1 (by with_reducible assumption) (by decide) | ktr_units⟩ (ge_ok _ _ _ _ _ _) ?_; intro _ _ _ _; (try dsimp only)) | ((with_reducible show wpAny _ _ (call (Value.ref 32) _ _) _ _ _); (rename NotedAt _ _ _ _ _ _ _ _ => H9); refine Claim.useS ⟨by k_asm, by k_asm, by k_asm, by k_asm, by k_asm, by first | exact rfl | assumption, by first | exact room1 (by with_reducible assumption) (by decide) | ktr_room, by first | exact units1 (by with_reducible assumption) (by decide) | ktr_units⟩ (bisr_U H9 (by k_mem) (by with_reducible assumption) (by with_reducible assumption) _ _ _ _ _ _ (by with_reducible assumption) (by with_reducible assumption) (by lia) (by assumption) (by k_mem) (by k_mem) (by k_mem) (by k_upd) (hB_of (by first | exact Short.le (by (repeat' (first | with_reducible assumption | apply Short.app | apply Short.take | apply Short.drop | apply Short.rev | exact Short.one | exact Short.nil))) (by decide) | ((try simp only [List.length_append, List.length_take, List.length_drop, List.length_reverse, List.length_cons, List.length_nil]); lia)) (by with_reducible assumption) (by with_reducible assumption) (by lia))) ?_; (intro _ _ _ _ hRet' _ _); (obtain ⟨t', b', hv', hU', hbl'⟩ := hRet'); subst hv'; (refine upd_use hU' (by k_upd) ?_; intro hE'; subst hE'); (try dsimp only)) | ((with_reducible show wpAny _ _ (call (Value.ref 50) _ _) _ _ _); (rename NotedAt _ _ _ _ _ _ _ _ => H9); refine Claim.useS ⟨by k_asm, by k_asm, by k_asm, by k_asm, by k_asm, by first | exact rfl | assumption, by first | exact room1 (by with_reducible assumption) (by decide) | ktr_room, by first | exact units1 (by with_reducible assumption) (by decide) | ktr_units⟩ (bisl_U H9 (by k_mem) (by with_reducible assumption) (by with_reducible assumption) _ _ _ _ _ _ (by with_reducible assumption) (by with_reducible assumption) (by lia) (by assumption) (by k_mem) (by k_mem) (by k_mem) (by k_upd) (hB_of (by first | exact Short.le (by (repeat' (first | with_reducible assumption | apply Short.app | apply Short.take | apply Short.drop | apply Short.rev | exact Short.one | exact Short.nil))) (by decide) | ((try simp only [List.length_append, List.length_take, List.length_drop, List.length_reverse, List.length_cons, List.length_nil]); lia)) (by with_reducible assumption) (by with_reducible assumption) (by lia))) ?_; (intro _ _ _ _ hRet' _ _); (obtain ⟨t', b', hv', hU', hbl'⟩ := hRet'); subst hv'; (refine upd_use hU' (by k_upd) ?_; intro hE'; subst hE'); (try dsimp only)) | ((with_reducible show wpAny _ _ (call (Value.ref 129) _ _) _ _ _); (rename NotedAt _ _ _ _ _ _ _ _ => H9); refine Claim.useS ⟨by k_asm, by k_asm, by k_asm, by k_asm, by k_asm, by first | exact rfl | assumption, by first | exact room1 (by with_reducible assumption) (by decide) | ktr_room, by first | exact units1 (by with_reducible assumption) (by decide) | ktr_units⟩ (iconcat_U _ _ _ _ _ _ _ (by k_mem) (by k_ne) (by k_upd) (Short.sum (by (repeat' (first | with_reducible assumption | apply Short.app | apply Short.take | apply Short.drop | apply Short.rev | exact Short.one | exact Short.nil))) (by (repeat' (first | with_reducible assumption | apply Short.app | apply Short.take | apply Short.drop | apply Short.rev | exact Short.one | exact Short.nil))) (by decide))) ?_; (intro _ _ _ _ hRet' _ _); (obtain ⟨n', hv', hU'⟩ := hRet'); subst hv'; (refine upd_use hU' (by k_upd) ?_; intro hE'; subst hE'); (try dsimp only)) | ((with_reducible show wpAny _ _ (call (Value.ref _) _ _) _ _ _); (rename NotedAt _ _ _ _ _ _ _ _ => H9); refine Claim.use1 ⟨by k_asm, by k_asm, by k_asm, by k_asm, by k_asm, by first | exact rfl | assumption, by first | exact room1 (by with_reducible assumption) (by decide) | ktr_room, by first | exact units1 (by with_reducible assumption) (by decide) | ktr_units⟩ (H9.ok _ _ _ _ _ _ (by with_reducible assumption) (by k_mem) (by k_mem) (by k_mem) (by k_upd) (by lia)) ?_; intro _ _ _ _ _; (try dsimp only)) | fail); k_steps)
  refine Hold.out ?_
  rename Fr _ _ _ _ => F5
  rename News _ _ _ _ => N5
  rename_i dn _ l9 _
  obtain ⟨ps, N5⟩ : ∃ ps, News g' L' _ ((dn, lstO [] 0) :: (kf, fo) :: (c', oc) :: (166, tabObj ps) :: (L' + 1, o') :: (al1, lstO vs1 n1) :: (al2, lstO vs2 n2) :: (bk, bookO []) :: rest) := ⟨_, news_sub N5 sub_second⟩
  have H : NotedAt w kf bk c' (L' + 1) fo oc o' := by
    have z : @LT.lt Nat _ bk c' := hlt1 (bk, lstO [] 0) (.tail _ (.tail _ (.tail _ (.tail _ (.head _)))))
    have z0 : @LT.lt Nat _ c' kf := hlt2
    have z1 : kf ≠ bk := by k_ne
    have z2 : c' ≠ bk := by k_ne
    have z3 : L' + 1 ≠ bk := by k_ne
    exact ⟨hfo, z1, z2, z3, hNo bk z1 z2 z3 d1'⟩
  have q1 : @Ne Nat kf bk := H.k
  have q2 : @Ne Nat c' bk := H.c
  have q3 : @Ne Nat (L' + 1) bk := H.l
  have q4 : @Ne Nat al1 bk := hb1
  have q5 : @Ne Nat al2 bk := hb2
  have q6 : @Ne Nat bk 166 := hap (bk, lstO [] 0) (.tail _ (.tail _ (.head _)))
  have hrd := allLt_ne l9.2.2.2.2.2.2.2.2
  have l8 : dn ≠ bk := by k_ne
  clear hNo hlt1 d1' hap2
  obtain ⟨RR, NR, mk9, mc9, m69, ml9, ma19, ma29, hRb, hRd, hrest⟩ : ∃ RR : List (Addr × Obj), News g' L' _ ((dn, lstO [] 0) :: (bk, bookO []) :: RR) ∧ (kf, fo) ∈ RR ∧ (c', oc) ∈ RR ∧ (166, tabObj ps) ∈ RR ∧ (L' + 1, o') ∈ RR ∧ (al1, lstO vs1 n1) ∈ RR ∧ (al2, lstO vs2 n2) ∈ RR ∧
      (∀ q ∈ RR, q.1 ≠ bk) ∧ (∀ q ∈ RR, q.1 ≠ dn) ∧ (∀ q ∈ rest, q ∈ RR) := by
    have d1 : kf ≠ dn := by k_ne
    have d2 : c' ≠ dn := by k_ne
    have d3 : 166 ≠ dn := by k_ne
    have d4 : L' + 1 ≠ dn := by k_ne
    have d5 : al1 ≠ dn := by k_ne
    have d6 : al2 ≠ dn := by k_ne
    exact cold_all N5 q1 q2 q6.symm q3 q4 q5 hbr d1 d2 d3 d4 d5 d6 hrd
  clear N5
  refine mg_loop f1 f2 vs1 vs2 (fun ds nd bv => (dn, lstO ds nd) :: (bk, bookO bv) :: RR) F5 NR ⟨_, rfl⟩ ⟨_, rfl⟩ ?_
  intro KP i j ti tj ds nd' bv u h tk hKP I F6 N6
  clear NR F5 hrd hbr
  have hds := I.l
  have sv1 : Short 5 vs1 := Nat.le_of_lt hn1
  have sv2 : Short 10 vs2 := Nat.le_of_lt hn2
  have sds : Short 15 ds := by unfold Short; lia
  have hij := bnd_le _ hn1 _ hn2
  have hbv := I.r
  have sbv : Short 50 bv := by unfold Short; lia
  have hla := I.la
  have hlb := I.lb
  rcases Nat.eq_zero_or_pos i with hi | hi
  · subst hi
    k_steps
    repeat' ((with_reducible refine Hold.out ?_); (first | ((with_reducible show wpAny _ _ (call (Value.builtin "list.append") _) _ _ _); refine append_head (by k_asm) (by k_asm) (by assumption) (by assumption) ?_; intro _ _ _) | ((with_reducible show wpAny _ _ (eval (Expr.Name (Str.ofString "book") _) (envX _ _ _ _ _ [_])) _ _ _); refine nameX_F (by k_asm) (by rfl) (by k_mem) (by with_reducible assumption) ?_ rfl rfl) | ((with_reducible show wpAny _ _ (subscriptTail _ (PySem.Expr.Slice none (some _) none _) (Value.ref _) (Value.ref _)) _ _ _); refine kmk_slice_lit (by k_asm) (by k_asm) (by kmk_list) (by kmk_part) (by kmk_part) pick_upto ?_ (by with_unfolding_all rfl) (by kmk_pure) (z_arr (Short.le (by (repeat' (first | with_reducible assumption | apply Short.app | apply Short.take | apply Short.drop | apply Short.rev | exact Short.one | exact Short.nil))) (by decide))); intro _ _ _ _ l1; (try k_lt l1)) | ((with_reducible show wpAny _ _ (subscriptTail _ (PySem.Expr.Slice (some _) (some _) none _) (Value.ref _) (Value.ref _)) _ _ _); refine kmk_slice_lit (by k_asm) (by k_asm) (by kmk_list) (by kmk_part) (by kmk_part) (pick_run (by first | with_reducible assumption | exact bisP_lo _ (by with_reducible assumption))) ?_ (by with_unfolding_all rfl) (by kmk_pure) (z_arr (Short.le (by (repeat' (first | with_reducible assumption | apply Short.app | apply Short.take | apply Short.drop | apply Short.rev | exact Short.one | exact Short.nil))) (by decide))); intro _ _ _ _ l1; (try k_lt l1)) | ((with_reducible show wpAny _ _ (binaryOp _ _ _) _ _ _); refine add_L (by k_asm) (by k_asm) (by k_mem) (by k_mem) (Short.le (by (repeat' (first | with_reducible assumption | apply Short.app | apply Short.take | apply Short.drop | apply Short.rev | exact Short.one | exact Short.nil))) (by decide)) (Short.le (by (repeat' (first | with_reducible assumption | apply Short.app | apply Short.take | apply Short.drop | apply Short.rev | exact Short.one | exact Short.nil))) (by decide)) ?_; intro _ _ _ _ l1; (try k_lt l1)) | ((with_reducible show wpAny _ _ (call (Value.builtin "len") [Value.ref _]) _ _ _); refine len_any (by k_asm) (by k_mem) (by lia) ?_) | ((with_reducible show wpAny _ _ (subscriptTail _ _ (Value.ref _) (Value.int _ _)) _ _ _); refine item_port (by k_asm) (by k_mem) (by with_reducible assumption) (by with_reducible assumption) (by with_reducible assumption) (by with_reducible assumption) (by lia) ?_ (by with_unfolding_all rfl); intro _ _ _ _) | ((with_reducible show wpAny _ _ (subscriptTail _ (PySem.Expr.Slice none none (some _) _) (Value.ref _) (Value.ref _)) _ _ _); refine rev_T (by k_asm) (by k_asm) (by k_mem) (IsPart.int _ _) ?_ (by with_unfolding_all rfl) (Short.le (by (repeat' (first | with_reducible assumption | apply Short.app | apply Short.take | apply Short.drop | apply Short.rev | exact Short.one | exact Short.nil))) (by decide)); intro _ _ _ _ l1; (try k_lt l1)) | ((with_reducible show FnAt _ _ ∧ _); (rename NotedAt _ _ _ _ _ _ _ _ => H9); refine ⟨fnAt_news (by k_asm) (by k_mem) H9.fn, ?_⟩) | ((with_reducible show wpAny _ _ (call (Value.ref 164) _ _) _ _ _); (rename NotedAt _ _ _ _ _ _ _ _ => H9); refine Claim.use1 ⟨by k_asm, by k_asm, by k_asm, by k_asm, by k_asm, by first | exact rfl | assumption, by first | exact room1 (by with_reducible assumption) (by decide) | ktr_room, by first | exact units1 (by with_reducible assumption) (by decide) | ktr_units⟩ (halv_ok _ _ _ _ _ (by with_reducible assumption) (by with_reducible assumption) (by lia) _) ?_; intro _ _ _ _ _; (try dsimp only)) | ((with_reducible show wpAny _ _ (call (Value.ref 136) _ _) _ _ _); (rename NotedAt _ _ _ _ _ _ _ _ => H9); refine Claim.use1 ⟨by k_asm, by k_asm, by k_asm, by k_asm, by k_asm, by first | exact rfl | assumption, by first | exact room1 (by with_reducible assumption) (by decide) | ktr_room, by first | exact units1 (by with_reducible assumption) (by decide) | ktr_units⟩ (ilshift_ok _ _ _ _ (by with_reducible assumption) (by with_reducible assumption) _) ?_; intro _ _ _ _ _; (try dsimp only)) | ((with_reducible show wpAny _ _ (call (Value.ref 150) _ _) _ _ _); refine Claim.use1 ⟨by k_asm, by k_asm, by k_asm, by k_asm, by k_asm, by first | exact rfl | assumption, by first | exact room1 (by with_reducible assumption) (by decide) | ktr_room, by first | exact units1 (by with_reducible assumption) (by decide) | ktr_units⟩ (port_ok _ _ _ _ _ (by with_reducible assumption)) ?_; intro _ _ _ _ _; (try dsimp only)) | ((with_reducible show wpAny _ _ (call (Value.ref 115) _ _) _ _ _); (rename NotedAt _ _ _ _ _ _ _ _ => H9); refine Claim.use0 ⟨by k_asm, by k_asm, by k_asm, by k_asm, by k_asm, by first | exact rfl | assumption, by first | exact room1 (by with_reducible assumption) (by decide) | ktr_room, by first | exact units1 (by with_reducible assumption) (by decide) | ktr_units⟩ (gt_ok _ _ _ _ _ _) ?_; intro _ _ _ _; (try dsimp only)) | ((with_reducible show wpAny _ _ (call (Value.ref 108) _ _) _ _ _); (rename NotedAt _ _ _ _ _ _ _ _ => H9); refine Claim.use0 ⟨by k_asm, by k_asm, by k_asm, by k_asm, by k_asm, by first | exact rfl | assumption, by first | exact room1 (by with_reducible assumption) (by decide) | ktr_room, by first | exact units1 (by with_reducible assumption) (by decide) | ktr_units⟩ (ge_ok _ _ _ _ _ _) ?_; intro _ _ _ _; (try dsimp only)) | ((with_reducible show wpAny _ _ (call (Value.ref 32) _ _) _ _ _); (rename NotedAt _ _ _ _ _ _ _ _ => H9); refine Claim.useS ⟨by k_asm, by k_asm, by k_asm, by k_asm, by k_asm, by first | exact rfl | assumption, by first | exact room1 (by with_reducible assumption) (by decide) | ktr_room, by first | exact units1 (by with_reducible assumption) (by decide) | ktr_units⟩ (bisr_U H9 (by k_mem) (by with_reducible assumption) (by with_reducible assumption) _ _ _ _ _ _ (by with_reducible assumption) (by with_reducible assumption) (by lia) (by assumption) (by k_mem) (by k_mem) (by k_mem) (by k_upd) (hB_of (by first | exact Short.le (by (repeat' (first | with_reducible assumption | apply Short.app | apply Short.take | apply Short.drop | apply Short.rev | exact Short.one | exact Short.nil))) (by decide) | ((try simp only [List.length_append, List.length_take, List.length_drop, List.length_reverse, List.length_cons, List.length_nil]); lia)) (by with_reducible assumption) (by with_reducible assumption) (by lia))) ?_; (intro _ _ _ _ hRet' _ _); (obtain ⟨t', b', hv', hU', hbl'⟩ := hRet'); subst hv'; (refine upd_use hU' (by k_upd) ?_; intro hE'; subst hE'); (try dsimp only)) | ((with_reducible show wpAny _ _ (call (Value.ref 50) _ _) _ _ _); (rename NotedAt _ _ _ _ _ _ _ _ => H9); refine Claim.useS ⟨by k_asm, by k_asm, by k_asm, by k_asm, by k_asm, by first | exact rfl | assumption, by first | exact room1 (by with_reducible assumption) (by decide) | ktr_room, by first | exact units1 (by with_reducible assumption) (by decide) | ktr_units⟩ (bisl_U H9 (by k_mem) (by with_reducible assumption) (by with_reducible assumption) _ _ _ _ _ _ (by with_reducible assumption) (by with_reducible assumption) (by lia) (by assumption) (by k_mem) (by k_mem) (by k_mem) (by k_upd) (hB_of (by first | exact Short.le (by (repeat' (first | with_reducible assumption | apply Short.app | apply Short.take | apply Short.drop | apply Short.rev | exact Short.one | exact Short.nil))) (by decide) | ((try simp only [List.length_append, List.length_take, List.length_drop, List.length_reverse, List.length_cons, List.length_nil]); lia)) (by with_reducible assumption) (by with_reducible assumption) (by lia))) ?_; (intro _ _ _ _ hRet' _ _); (obtain ⟨t', b', hv', hU', hbl'⟩ := hRet'); subst hv'; (refine upd_use hU' (by k_upd) ?_; intro hE'; subst hE'); (try dsimp only)) | ((with_reducible show wpAny _ _ (call (Value.ref 129) _ _) _ _ _); (rename NotedAt _ _ _ _ _ _ _ _ => H9); refine Claim.useS ⟨by k_asm, by k_asm, by k_asm, by k_asm, by k_asm, by first | exact rfl | assumption, by first | exact room1 (by with_reducible assumption) (by decide) | ktr_room, by first | exact units1 (by with_reducible assumption) (by decide) | ktr_units⟩ (iconcat_U _ _ _ _ _ _ _ (by k_mem) (by k_ne) (by k_upd) (Short.sum (by (repeat' (first | with_reducible assumption | apply Short.app | apply Short.take | apply Short.drop | apply Short.rev | exact Short.one | exact Short.nil))) (by (repeat' (first | with_reducible assumption | apply Short.app | apply Short.take | apply Short.drop | apply Short.rev | exact Short.one | exact Short.nil))) (by decide))) ?_; (intro _ _ _ _ hRet' _ _); (obtain ⟨n', hv', hU'⟩ := hRet'); subst hv'; (refine upd_use hU' (by k_upd) ?_; intro hE'; subst hE'); (try dsimp only)) | ((with_reducible show wpAny _ _ (call (Value.ref _) _ _) _ _ _); (rename NotedAt _ _ _ _ _ _ _ _ => H9); refine Claim.use1 ⟨by k_asm, by k_asm, by k_asm, by k_asm, by k_asm, by first | exact rfl | assumption, by first | exact room1 (by with_reducible assumption) (by decide) | ktr_room, by first | exact units1 (by with_reducible assumption) (by decide) | ktr_units⟩ (H9.ok _ _ _ _ _ _ (by with_reducible assumption) (by k_mem) (by k_mem) (by k_mem) (by k_upd) (by lia)) ?_; intro _ _ _ _ _; (try dsimp only)) | fail); k_steps)
    rename News _ _ _ _ => N9
    refine ret _ _ _ _ ⟨_, 0, bv, ps, rfl, rfl, Nat.le_trans (Nat.le_add_right _ _) I.r⟩ (by assumption) (news_sub N9 ?_)
    rw [I.m, mrg]
    refine sub_c (.head _) ?_
    repeat refine sub_c (by k_mem) ?_
    intro p hp
    have hp := hrest p hp
    repeat (first | exact hp | refine List.Mem.tail _ ?_)
  rcases Nat.eq_zero_or_pos j with hj | hj
  · subst hj
    k_steps
    repeat' ((with_reducible refine Hold.out ?_); (first | ((with_reducible show wpAny _ _ (call (Value.builtin "list.append") _) _ _ _); refine append_head (by k_asm) (by k_asm) (by assumption) (by assumption) ?_; intro _ _ _) | ((with_reducible show wpAny _ _ (eval (Expr.Name (Str.ofString "book") _) (envX _ _ _ _ _ [_])) _ _ _); refine nameX_F (by k_asm) (by rfl) (by k_mem) (by with_reducible assumption) ?_ rfl rfl) | ((with_reducible show wpAny _ _ (subscriptTail _ (PySem.Expr.Slice none (some _) none _) (Value.ref _) (Value.ref _)) _ _ _); refine kmk_slice_lit (by k_asm) (by k_asm) (by kmk_list) (by kmk_part) (by kmk_part) pick_upto ?_ (by with_unfolding_all rfl) (by kmk_pure) (z_arr (Short.le (by (repeat' (first | with_reducible assumption | apply Short.app | apply Short.take | apply Short.drop | apply Short.rev | exact Short.one | exact Short.nil))) (by decide))); intro _ _ _ _ l1; (try k_lt l1)) | ((with_reducible show wpAny _ _ (subscriptTail _ (PySem.Expr.Slice (some _) (some _) none _) (Value.ref _) (Value.ref _)) _ _ _); refine kmk_slice_lit (by k_asm) (by k_asm) (by kmk_list) (by kmk_part) (by kmk_part) (pick_run (by first | with_reducible assumption | exact bisP_lo _ (by with_reducible assumption))) ?_ (by with_unfolding_all rfl) (by kmk_pure) (z_arr (Short.le (by (repeat' (first | with_reducible assumption | apply Short.app | apply Short.take | apply Short.drop | apply Short.rev | exact Short.one | exact Short.nil))) (by decide))); intro _ _ _ _ l1; (try k_lt l1)) | ((with_reducible show wpAny _ _ (binaryOp _ _ _) _ _ _); refine add_L (by k_asm) (by k_asm) (by k_mem) (by k_mem) (Short.le (by (repeat' (first | with_reducible assumption | apply Short.app | apply Short.take | apply Short.drop | apply Short.rev | exact Short.one | exact Short.nil))) (by decide)) (Short.le (by (repeat' (first | with_reducible assumption | apply Short.app | apply Short.take | apply Short.drop | apply Short.rev | exact Short.one | exact Short.nil))) (by decide)) ?_; intro _ _ _ _ l1; (try k_lt l1)) | ((with_reducible show wpAny _ _ (call (Value.builtin "len") [Value.ref _]) _ _ _); refine len_any (by k_asm) (by k_mem) (by lia) ?_) | ((with_reducible show wpAny _ _ (subscriptTail _ _ (Value.ref _) (Value.int _ _)) _ _ _); refine item_port (by k_asm) (by k_mem) (by with_reducible assumption) (by with_reducible assumption) (by with_reducible assumption) (by with_reducible assumption) (by lia) ?_ (by with_unfolding_all rfl); intro _ _ _ _) | ((with_reducible show wpAny _ _ (subscriptTail _ (PySem.Expr.Slice none none (some _) _) (Value.ref _) (Value.ref _)) _ _ _); refine rev_T (by k_asm) (by k_asm) (by k_mem) (IsPart.int _ _) ?_ (by with_unfolding_all rfl) (Short.le (by (repeat' (first | with_reducible assumption | apply Short.app | apply Short.take | apply Short.drop | apply Short.rev | exact Short.one | exact Short.nil))) (by decide)); intro _ _ _ _ l1; (try k_lt l1)) | ((with_reducible show FnAt _ _ ∧ _); (rename NotedAt _ _ _ _ _ _ _ _ => H9); refine ⟨fnAt_news (by k_asm) (by k_mem) H9.fn, ?_⟩) | ((with_reducible show wpAny _ _ (call (Value.ref 164) _ _) _ _ _); (rename NotedAt _ _ _ _ _ _ _ _ => H9); refine Claim.use1 ⟨by k_asm, by k_asm, by k_asm, by k_asm, by k_asm, by first | exact rfl | assumption, by first | exact room1 (by with_reducible assumption) (by decide) | ktr_room, by first | exact units1 (by with_reducible assumption) (by decide) | ktr_units⟩ (halv_ok _ _ _ _ _ (by with_reducible assumption) (by with_reducible assumption) (by lia) _) ?_; intro _ _ _ _ _; (try dsimp only)) | ((with_reducible show wpAny _ _ (call (Value.ref 136) _ _) _ _ _); (rename NotedAt _ _ _ _ _ _ _ _ => H9); refine Claim.use1 ⟨by k_asm, by k_asm, by k_asm, by k_asm, by k_asm, by first | exact rfl | assumption, by first | exact room1 (by with_reducible assumption) (by decide) | ktr_room, by first | exact units1 (by with_reducible assumption) (by decide) | ktr_units⟩ (ilshift_ok _ _ _ _ (by with_reducible assumption) (by with_reducible assumption) _) ?_; intro _ _ _ _ _; (try dsimp only)) | ((with_reducible show wpAny _ _ (call (Value.ref 150) _ _) _ _ _); refine Claim.use1 ⟨by k_asm, by k_asm, by k_asm, by k_asm, by k_asm, by first | exact rfl | assumption, by first | exact room1 (by with_reducible assumption) (by decide) | ktr_room, by first | exact units1 (by with_reducible assumption) (by decide) | ktr_units⟩ (port_ok _ _ _ _ _ (by with_reducible assumption)) ?_; intro _ _ _ _ _; (try dsimp only)) | ((with_reducible show wpAny _ _ (call (Value.ref 115) _ _) _ _ _); (rename NotedAt _ _ _ _ _ _ _ _ => H9); refine Claim.use0 ⟨by k_asm, by k_asm, by k_asm, by k_asm, by k_asm, by first | exact rfl | assumption, by first | exact room1 (by with_reducible assumption) (by decide) | ktr_room, by first | exact units1 (by with_reducible assumption) (by decide) | ktr_units⟩ (gt_ok _ _ _ _ _ _) ?_; intro _ _ _ _; (try dsimp only)) | ((with_reducible show wpAny _ _ (call (Value.ref 108) _ _) _ _ _); (rename NotedAt _ _ _ _ _ _ _ _ => H9); refine Claim.use0 ⟨by k_asm, by k_asm, by k_asm, by k_asm, by k_asm, by first | exact rfl | assumption, by first | exact room1 (by with_reducible assumption) (by decide) | ktr_room, by first | exact units1 (by with_reducible assumption) (by decide) | ktr_units⟩ (ge_ok _ _ _ _ _ _) ?_; intro _ _ _ _; (try dsimp only)) | ((with_reducible show wpAny _ _ (call (Value.ref 32) _ _) _ _ _); (rename NotedAt _ _ _ _ _ _ _ _ => H9); refine Claim.useS ⟨by k_asm, by k_asm, by k_asm, by k_asm, by k_asm, by first | exact rfl | assumption, by first | exact room1 (by with_reducible assumption) (by decide) | ktr_room, by first | exact units1 (by with_reducible assumption) (by decide) | ktr_units⟩ (bisr_U H9 (by k_mem) (by with_reducible assumption) (by with_reducible assumption) _ _ _ _ _ _ (by with_reducible assumption) (by with_reducible assumption) (by lia) (by assumption) (by k_mem) (by k_mem) (by k_mem) (by k_upd) (hB_of (by first | exact Short.le (by (repeat' (first | with_reducible assumption | apply Short.app | apply Short.take | apply Short.drop | apply Short.rev | exact Short.one | exact Short.nil))) (by decide) | ((try simp only [List.length_append, List.length_take, List.length_drop, List.length_reverse, List.length_cons, List.length_nil]); lia)) (by with_reducible assumption) (by with_reducible assumption) (by lia))) ?_; (intro _ _ _ _ hRet' _ _); (obtain ⟨t', b', hv', hU', hbl'⟩ := hRet'); subst hv'; (refine upd_use hU' (by k_upd) ?_; intro hE'; subst hE'); (try dsimp only)) | ((with_reducible show wpAny _ _ (call (Value.ref 50) _ _) _ _ _); (rename NotedAt _ _ _ _ _ _ _ _ => H9); refine Claim.useS ⟨by k_asm, by k_asm, by k_asm, by k_asm, by k_asm, by first | exact rfl | assumption, by first | exact room1 (by with_reducible assumption) (by decide) | ktr_room, by first | exact units1 (by with_reducible assumption) (by decide) | ktr_units⟩ (bisl_U H9 (by k_mem) (by with_reducible assumption) (by with_reducible assumption) _ _ _ _ _ _ (by with_reducible assumption) (by with_reducible assumption) (by lia) (by assumption) (by k_mem) (by k_mem) (by k_mem) (by k_upd) (hB_of (by first | exact Short.le (by (repeat' (first | with_reducible assumption | apply Short.app | apply Short.take | apply Short.drop | apply Short.rev | exact Short.one | exact Short.nil))) (by decide) | ((try simp only [List.length_append, List.length_take, List.length_drop, List.length_reverse, List.length_cons, List.length_nil]); lia)) (by with_reducible assumption) (by with_reducible assumption) (by lia))) ?_; (intro _ _ _ _ hRet' _ _); (obtain ⟨t', b', hv', hU', hbl'⟩ := hRet'); subst hv'; (refine upd_use hU' (by k_upd) ?_; intro hE'; subst hE'); (try dsimp only)) | ((with_reducible show wpAny _ _ (call (Value.ref 129) _ _) _ _ _); (rename NotedAt _ _ _ _ _ _ _ _ => H9); refine Claim.useS ⟨by k_asm, by k_asm, by k_asm, by k_asm, by k_asm, by first | exact rfl | assumption, by first | exact room1 (by with_reducible assumption) (by decide) | ktr_room, by first | exact units1 (by with_reducible assumption) (by decide) | ktr_units⟩ (iconcat_U _ _ _ _ _ _ _ (by k_mem) (by k_ne) (by k_upd) (Short.sum (by (repeat' (first | with_reducible assumption | apply Short.app | apply Short.take | apply Short.drop | apply Short.rev | exact Short.one | exact Short.nil))) (by (repeat' (first | with_reducible assumption | apply Short.app | apply Short.take | apply Short.drop | apply Short.rev | exact Short.one | exact Short.nil))) (by decide))) ?_; (intro _ _ _ _ hRet' _ _); (obtain ⟨n', hv', hU'⟩ := hRet'); subst hv'; (refine upd_use hU' (by k_upd) ?_; intro hE'; subst hE'); (try dsimp only)) | ((with_reducible show wpAny _ _ (call (Value.ref _) _ _) _ _ _); (rename NotedAt _ _ _ _ _ _ _ _ => H9); refine Claim.use1 ⟨by k_asm, by k_asm, by k_asm, by k_asm, by k_asm, by first | exact rfl | assumption, by first | exact room1 (by with_reducible assumption) (by decide) | ktr_room, by first | exact units1 (by with_reducible assumption) (by decide) | ktr_units⟩ (H9.ok _ _ _ _ _ _ (by with_reducible assumption) (by k_mem) (by k_mem) (by k_mem) (by k_upd) (by lia)) ?_; intro _ _ _ _ _; (try dsimp only)) | fail); k_steps)
    all_goals
      rename News _ _ _ _ => N9
      refine ret _ _ _ _ ⟨_, 0, bv, ps, rfl, rfl, Nat.le_trans (Nat.le_add_right _ _) I.r⟩ (by assumption) (news_sub N9 ?_)
      rw [I.m, show mrg f1 f2 vs1 vs2 i 0 = vs1.take i ++ vs2.take 0 by cases i <;> simp [mrg]]
      refine sub_c (.head _) ?_
      repeat refine sub_c (by k_mem) ?_
      intro p hp
      have hp := hrest p hp
      repeat (first | exact hp | refine List.Mem.tail _ ?_)
  by_cases hle : i ≤ j
  · have st := step1 (by lia) (by lia) hi hle
    have st0 := st.h0
    have st9 := st.h9
    have stl := st.le
    have hle' : (i : Int) ≤ (j : Int) := by lia
    have hi1 : 1 ≤ (i : Int) := by lia
    have hp0 : 0 ≤ (j : Int) - 2 ^ (halv i 20 j).toNat := by
      have : ((2 ^ hvN i j : Nat) : Int) ≤ (j : Int) := by lia
      rw [Int.natCast_pow] at this
      exact Int.sub_nonneg_of_le this
    have hpp : 0 < (2 : Int) ^ (halv i 20 j).toNat := Int.pow_pos (by decide)
    have hp1 : (j : Int) - 2 ^ (halv i 20 j).toNat < vs2.length := by lia
    have hq0 : 0 ≤ (i : Int) - 1 := by lia
    have hq1 : (i : Int) - 1 < vs1.length := by lia
    have hr0 : 0 ≤ (j : Int) - 2 ^ (halv i 20 j).toNat + 1 := by lia
    have hr1 : (j : Int) ≤ vs2.length := by lia
    have hni : (i : Int) ≠ 0 := by lia
    have hnj : (j : Int) ≠ 0 := by lia
    have hj1 : (1 : Int) ≤ j := by lia
    have hr2 : (j : Int) - 2 ^ (halv i 20 j).toNat + 1 ≤ j := by lia
    k_steps
    repeat' ((with_reducible refine Hold.out ?_); (first | ((with_reducible show wpAny _ _ (call (Value.builtin "list.append") _) _ _ _); refine append_head (by k_asm) (by k_asm) (by assumption) (by assumption) ?_; intro _ _ _) | ((with_reducible show wpAny _ _ (eval (Expr.Name (Str.ofString "book") _) (envX _ _ _ _ _ [_])) _ _ _); refine nameX_F (by k_asm) (by rfl) (by k_mem) (by with_reducible assumption) ?_ rfl rfl) | ((with_reducible show wpAny _ _ (subscriptTail _ (PySem.Expr.Slice none (some _) none _) (Value.ref _) (Value.ref _)) _ _ _); refine kmk_slice_lit (by k_asm) (by k_asm) (by kmk_list) (by kmk_part) (by kmk_part) pick_upto ?_ (by with_unfolding_all rfl) (by kmk_pure) (z_arr (Short.le (by (repeat' (first | with_reducible assumption | apply Short.app | apply Short.take | apply Short.drop | apply Short.rev | exact Short.one | exact Short.nil))) (by decide))); intro _ _ _ _ l1; (try k_lt l1)) | ((with_reducible show wpAny _ _ (subscriptTail _ (PySem.Expr.Slice (some _) (some _) none _) (Value.ref _) (Value.ref _)) _ _ _); refine kmk_slice_lit (by k_asm) (by k_asm) (by kmk_list) (by kmk_part) (by kmk_part) (pick_run (by first | with_reducible assumption | exact bisP_lo _ (by with_reducible assumption))) ?_ (by with_unfolding_all rfl) (by kmk_pure) (z_arr (Short.le (by (repeat' (first | with_reducible assumption | apply Short.app | apply Short.take | apply Short.drop | apply Short.rev | exact Short.one | exact Short.nil))) (by decide))); intro _ _ _ _ l1; (try k_lt l1)) | ((with_reducible show wpAny _ _ (binaryOp _ _ _) _ _ _); refine add_L (by k_asm) (by k_asm) (by k_mem) (by k_mem) (Short.le (by (repeat' (first | with_reducible assumption | apply Short.app | apply Short.take | apply Short.drop | apply Short.rev | exact Short.one | exact Short.nil))) (by decide)) (Short.le (by (repeat' (first | with_reducible assumption | apply Short.app | apply Short.take | apply Short.drop | apply Short.rev | exact Short.one | exact Short.nil))) (by decide)) ?_; intro _ _ _ _ l1; (try k_lt l1)) | ((with_reducible show wpAny _ _ (call (Value.builtin "len") [Value.ref _]) _ _ _); refine len_any (by k_asm) (by k_mem) (by lia) ?_) | ((with_reducible show wpAny _ _ (subscriptTail _ _ (Value.ref _) (Value.int _ _)) _ _ _); refine item_port (by k_asm) (by k_mem) (by with_reducible assumption) (by with_reducible assumption) (by with_reducible assumption) (by with_reducible assumption) (by lia) ?_ (by with_unfolding_all rfl); intro _ _ _ _) | ((with_reducible show wpAny _ _ (subscriptTail _ (PySem.Expr.Slice none none (some _) _) (Value.ref _) (Value.ref _)) _ _ _); refine rev_T (by k_asm) (by k_asm) (by k_mem) (IsPart.int _ _) ?_ (by with_unfolding_all rfl) (Short.le (by (repeat' (first | with_reducible assumption | apply Short.app | apply Short.take | apply Short.drop | apply Short.rev | exact Short.one | exact Short.nil))) (by decide)); intro _ _ _ _ l1; (try k_lt l1)) | ((with_reducible show FnAt _ _ ∧ _); (rename NotedAt _ _ _ _ _ _ _ _ => H9); refine ⟨fnAt_news (by k_asm) (by k_mem) H9.fn, ?_⟩) | ((with_reducible show wpAny _ _ (call (Value.ref 164) _ _) _ _ _); (rename NotedAt _ _ _ _ _ _ _ _ => H9); refine Claim.use1 ⟨by k_asm, by k_asm, by k_asm, by k_asm, by k_asm, by first | exact rfl | assumption, by first | exact room1 (by with_reducible assumption) (by decide) | ktr_room, by first | exact units1 (by with_reducible assumption) (by decide) | ktr_units⟩ (halv_ok _ _ _ _ _ (by with_reducible assumption) (by with_reducible assumption) (by lia) _) ?_; intro _ _ _ _ _; (try dsimp only)) | ((with_reducible show wpAny _ _ (call (Value.ref 136) _ _) _ _ _); (rename NotedAt _ _ _ _ _ _ _ _ => H9); refine Claim.use1 ⟨by k_asm, by k_asm, by k_asm, by k_asm, by k_asm, by first | exact rfl | assumption, by first | exact room1 (by with_reducible assumption) (by decide) | ktr_room, by first | exact units1 (by with_reducible assumption) (by decide) | ktr_units⟩ (ilshift_ok _ _ _ _ (by with_reducible assumption) (by with_reducible assumption) _) ?_; intro _ _ _ _ _; (try dsimp only)) | ((with_reducible show wpAny _ _ (call (Value.ref 150) _ _) _ _ _); refine Claim.use1 ⟨by k_asm, by k_asm, by k_asm, by k_asm, by k_asm, by first | exact rfl | assumption, by first | exact room1 (by with_reducible assumption) (by decide) | ktr_room, by first | exact units1 (by with_reducible assumption) (by decide) | ktr_units⟩ (port_ok _ _ _ _ _ (by with_reducible assumption)) ?_; intro _ _ _ _ _; (try dsimp only)) | ((with_reducible show wpAny _ _ (call (Value.ref 115) _ _) _ _ _); (rename NotedAt _ _ _ _ _ _ _ _ => H9); refine Claim.use0 ⟨by k_asm, by k_asm, by k_asm, by k_asm, by k_asm, by first | exact rfl | assumption, by first | exact room1 (by with_reducible assumption) (by decide) | ktr_room, by first | exact units1 (by with_reducible assumption) (by decide) | ktr_units⟩ (gt_ok _ _ _ _ _ _) ?_; intro _ _ _ _; (try dsimp only)) | ((with_reducible show wpAny _ _ (call (Value.ref 108) _ _) _ _ _); (rename NotedAt _ _ _ _ _ _ _ _ => H9); refine Claim.use0 ⟨by k_asm, by k_asm, by k_asm, by k_asm, by k_asm, by first | exact rfl | assumption, by first | exact room1 (by with_reducible assumption) (by decide) | ktr_room, by first | exact units1 (by with_reducible assumption) (by decide) | ktr_units⟩ (ge_ok _ _ _ _ _ _) ?_; intro _ _ _ _; (try dsimp only)) | ((with_reducible show wpAny _ _ (call (Value.ref 32) _ _) _ _ _); (rename NotedAt _ _ _ _ _ _ _ _ => H9); refine Claim.useS ⟨by k_asm, by k_asm, by k_asm, by k_asm, by k_asm, by first | exact rfl | assumption, by first | exact room1 (by with_reducible assumption) (by decide) | ktr_room, by first | exact units1 (by with_reducible assumption) (by decide) | ktr_units⟩ (bisr_U H9 (by k_mem) (by with_reducible assumption) (by with_reducible assumption) _ _ _ _ _ _ (by with_reducible assumption) (by with_reducible assumption) (by lia) (by assumption) (by k_mem) (by k_mem) (by k_mem) (by k_upd) (hB_of (by first | exact Short.le (by (repeat' (first | with_reducible assumption | apply Short.app | apply Short.take | apply Short.drop | apply Short.rev | exact Short.one | exact Short.nil))) (by decide) | ((try simp only [List.length_append, List.length_take, List.length_drop, List.length_reverse, List.length_cons, List.length_nil]); lia)) (by with_reducible assumption) (by with_reducible assumption) (by lia))) ?_; (intro _ _ _ _ hRet' _ _); (obtain ⟨t', b', hv', hU', hbl'⟩ := hRet'); subst hv'; (refine upd_use hU' (by k_upd) ?_; intro hE'; subst hE'); (try dsimp only)) | ((with_reducible show wpAny _ _ (call (Value.ref 50) _ _) _ _ _); (rename NotedAt _ _ _ _ _ _ _ _ => H9); refine Claim.useS ⟨by k_asm, by k_asm, by k_asm, by k_asm, by k_asm, by first | exact rfl | assumption, by first | exact room1 (by with_reducible assumption) (by decide) | ktr_room, by first | exact units1 (by with_reducible assumption) (by decide) | ktr_units⟩ (bisl_U H9 (by k_mem) (by with_reducible assumption) (by with_reducible assumption) _ _ _ _ _ _ (by with_reducible assumption) (by with_reducible assumption) (by lia) (by assumption) (by k_mem) (by k_mem) (by k_mem) (by k_upd) (hB_of (by first | exact Short.le (by (repeat' (first | with_reducible assumption | apply Short.app | apply Short.take | apply Short.drop | apply Short.rev | exact Short.one | exact Short.nil))) (by decide) | ((try simp only [List.length_append, List.length_take, List.length_drop, List.length_reverse, List.length_cons, List.length_nil]); lia)) (by with_reducible assumption) (by with_reducible assumption) (by lia))) ?_; (intro _ _ _ _ hRet' _ _); (obtain ⟨t', b', hv', hU', hbl'⟩ := hRet'); subst hv'; (refine upd_use hU' (by k_upd) ?_; intro hE'; subst hE'); (try dsimp only)) | ((with_reducible show wpAny _ _ (call (Value.ref 129) _ _) _ _ _); (rename NotedAt _ _ _ _ _ _ _ _ => H9); refine Claim.useS ⟨by k_asm, by k_asm, by k_asm, by k_asm, by k_asm, by first | exact rfl | assumption, by first | exact room1 (by with_reducible assumption) (by decide) | ktr_room, by first | exact units1 (by with_reducible assumption) (by decide) | ktr_units⟩ (iconcat_U _ _ _ _ _ _ _ (by k_mem) (by k_ne) (by k_upd) (Short.sum (by (repeat' (first | with_reducible assumption | apply Short.app | apply Short.take | apply Short.drop | apply Short.rev | exact Short.one | exact Short.nil))) (by (repeat' (first | with_reducible assumption | apply Short.app | apply Short.take | apply Short.drop | apply Short.rev | exact Short.one | exact Short.nil))) (by decide))) ?_; (intro _ _ _ _ hRet' _ _); (obtain ⟨n', hv', hU'⟩ := hRet'); subst hv'; (refine upd_use hU' (by k_upd) ?_; intro hE'; subst hE'); (try dsimp only)) | ((with_reducible show wpAny _ _ (call (Value.ref _) _ _) _ _ _); (rename NotedAt _ _ _ _ _ _ _ _ => H9); refine Claim.use1 ⟨by k_asm, by k_asm, by k_asm, by k_asm, by k_asm, by first | exact rfl | assumption, by first | exact room1 (by with_reducible assumption) (by decide) | ktr_room, by first | exact units1 (by with_reducible assumption) (by decide) | ktr_units⟩ (H9.ok _ _ _ _ _ _ (by with_reducible assumption) (by k_mem) (by k_mem) (by k_mem) (by k_upd) (by lia)) ?_; intro _ _ _ _ _; (try dsimp only)) | fail); k_steps)
    all_goals first | contradiction | skip
    · rename f1 _ < f2 _ => hgt
      rename Fr _ _ _ _ => F9
      rename News _ _ _ _ => N9
      refine hKP _ ?_
      refine mg_end i ((j : Int) - 2 ^ (halv i 20 j).toNat).toNat F9 (news_sub N9 sub4) ⟨_, rfl⟩ ⟨_, by rw [Int.toNat_of_nonneg hp0]; rfl⟩ (by intro z h1 h2 h3 h4 h5 h6; simp only [if_neg h1, if_neg h2, if_neg h3, if_neg h4, if_neg h5, if_neg h6, kstB, mg_contains h1 h2 h3 h4 h5 h6, Bool.false_eq_true, if_false]) (inv1_far so2 I st hi rfl hgt (by simp)) ?_
      show _ < i + j
      lia
    · rename ¬ f1 _ < f2 _ => hgt
      rename Fr _ _ _ _ => F9
      rename News _ _ _ _ => N9
      rename List.length _ = _ + _ => hbl
      rename _ = some _ => hit
      have hq := bisP_le (fun k => !decide (f1 ((i : Int) - 1) < f2 k)) hr2
      have hq2 := bisP_lo (fun k => !decide (f1 ((i : Int) - 1) < f2 k)) (hi := (j : Int)) hr0
      refine hKP _ ?_
      refine mg_end (i - 1) (bisP (fun k => !decide (f1 ((i : Int) - 1) < f2 k)) ((j : Int) - 2 ^ (halv i 20 j).toNat + 1) j).1.toNat F9 (news_sub N9 sub5) ⟨_, by rw [show ((i - 1 : Nat) : Int) = (i : Int) - 1 by lia]; rfl⟩ ⟨_, by rw [Int.toNat_of_nonneg hq2]; rfl⟩ (by intro z h1 h2 h3 h4 h5 h6; simp only [if_neg h1, if_neg h2, if_neg h3, if_neg h4, if_neg h5, if_neg h6, kstB, mg_contains h1 h2 h3 h4 h5 h6, Bool.false_eq_true, if_false]) (inv1_near so2 I st hi rfl hgt hit (by rw [hbl, List.length_append]; rfl)) ?_
      exact Nat.add_lt_add_of_lt_of_le (Nat.sub_lt hi Nat.one_pos) (Int.toNat_le.mpr hq)
  · have hle := Nat.lt_of_not_le hle
    have st := step2 (by lia) (by lia) hj hle
    have st0 := st.h0
    have st9 := st.h9
    have stl := st.le
    have hnle : ¬ (i : Int) ≤ (j : Int) := by lia
    have hle' : (j : Int) ≤ (i : Int) := by lia
    have hj1 : 1 ≤ (j : Int) := by lia
    have hp0 : 0 ≤ (i : Int) - 2 ^ (halv j 20 i).toNat := by
      have : ((2 ^ hvN j i : Nat) : Int) ≤ (i : Int) := by lia
      rw [Int.natCast_pow] at this
      exact Int.sub_nonneg_of_le this
    have hpp : 0 < (2 : Int) ^ (halv j 20 i).toNat := Int.pow_pos (by decide)
    have hp1 : (i : Int) - 2 ^ (halv j 20 i).toNat < vs1.length := by lia
    have hq0 : 0 ≤ (j : Int) - 1 := by lia
    have hq1 : (j : Int) - 1 < vs2.length := by lia
    have hr0 : 0 ≤ (i : Int) - 2 ^ (halv j 20 i).toNat + 1 := by lia
    have hr1 : (i : Int) ≤ vs1.length := by lia
    have hni : (i : Int) ≠ 0 := by lia
    have hnj : (j : Int) ≠ 0 := by lia
    have hr2 : (i : Int) - 2 ^ (halv j 20 i).toNat + 1 ≤ i := by lia
    k_steps
    repeat' ((with_reducible refine Hold.out ?_); (first | ((with_reducible show wpAny _ _ (call (Value.builtin "list.append") _) _ _ _); refine append_head (by k_asm) (by k_asm) (by assumption) (by assumption) ?_; intro _ _ _) | ((with_reducible show wpAny _ _ (eval (Expr.Name (Str.ofString "book") _) (envX _ _ _ _ _ [_])) _ _ _); refine nameX_F (by k_asm) (by rfl) (by k_mem) (by with_reducible assumption) ?_ rfl rfl) | ((with_reducible show wpAny _ _ (subscriptTail _ (PySem.Expr.Slice none (some _) none _) (Value.ref _) (Value.ref _)) _ _ _); refine kmk_slice_lit (by k_asm) (by k_asm) (by kmk_list) (by kmk_part) (by kmk_part) pick_upto ?_ (by with_unfolding_all rfl) (by kmk_pure) (z_arr (Short.le (by (repeat' (first | with_reducible assumption | apply Short.app | apply Short.take | apply Short.drop | apply Short.rev | exact Short.one | exact Short.nil))) (by decide))); intro _ _ _ _ l1; (try k_lt l1)) | ((with_reducible show wpAny _ _ (subscriptTail _ (PySem.Expr.Slice (some _) (some _) none _) (Value.ref _) (Value.ref _)) _ _ _); refine kmk_slice_lit (by k_asm) (by k_asm) (by kmk_list) (by kmk_part) (by kmk_part) (pick_run (by first | with_reducible assumption | exact bisP_lo _ (by with_reducible assumption))) ?_ (by with_unfolding_all rfl) (by kmk_pure) (z_arr (Short.le (by (repeat' (first | with_reducible assumption | apply Short.app | apply Short.take | apply Short.drop | apply Short.rev | exact Short.one | exact Short.nil))) (by decide))); intro _ _ _ _ l1; (try k_lt l1)) | ((with_reducible show wpAny _ _ (binaryOp _ _ _) _ _ _); refine add_L (by k_asm) (by k_asm) (by k_mem) (by k_mem) (Short.le (by (repeat' (first | with_reducible assumption | apply Short.app | apply Short.take | apply Short.drop | apply Short.rev | exact Short.one | exact Short.nil))) (by decide)) (Short.le (by (repeat' (first | with_reducible assumption | apply Short.app | apply Short.take | apply Short.drop | apply Short.rev | exact Short.one | exact Short.nil))) (by decide)) ?_; intro _ _ _ _ l1; (try k_lt l1)) | ((with_reducible show wpAny _ _ (call (Value.builtin "len") [Value.ref _]) _ _ _); refine len_any (by k_asm) (by k_mem) (by lia) ?_) | ((with_reducible show wpAny _ _ (subscriptTail _ _ (Value.ref _) (Value.int _ _)) _ _ _); refine item_port (by k_asm) (by k_mem) (by with_reducible assumption) (by with_reducible assumption) (by with_reducible assumption) (by with_reducible assumption) (by lia) ?_ (by with_unfolding_all rfl); intro _ _ _ _) | ((with_reducible show wpAny _ _ (subscriptTail _ (PySem.Expr.Slice none none (some _) _) (Value.ref _) (Value.ref _)) _ _ _); refine rev_T (by k_asm) (by k_asm) (by k_mem) (IsPart.int _ _) ?_ (by with_unfolding_all rfl) (Short.le (by (repeat' (first | with_reducible assumption | apply Short.app | apply Short.take | apply Short.drop | apply Short.rev | exact Short.one | exact Short.nil))) (by decide)); intro _ _ _ _ l1; (try k_lt l1)) | ((with_reducible show FnAt _ _ ∧ _); (rename NotedAt _ _ _ _ _ _ _ _ => H9); refine ⟨fnAt_news (by k_asm) (by k_mem) H9.fn, ?_⟩) | ((with_reducible show wpAny _ _ (call (Value.ref 164) _ _) _ _ _); (rename NotedAt _ _ _ _ _ _ _ _ => H9); refine Claim.use1 ⟨by k_asm, by k_asm, by k_asm, by k_asm, by k_asm, by first | exact rfl | assumption, by first | exact room1 (by with_reducible assumption) (by decide) | ktr_room, by first | exact units1 (by with_reducible assumption) (by decide) | ktr_units⟩ (halv_ok _ _ _ _ _ (by with_reducible assumption) (by with_reducible assumption) (by lia) _) ?_; intro _ _ _ _ _; (try dsimp only)) | ((with_reducible show wpAny _ _ (call (Value.ref 136) _ _) _ _ _); (rename NotedAt _ _ _ _ _ _ _ _ => H9); refine Claim.use1 ⟨by k_asm, by k_asm, by k_asm, by k_asm, by k_asm, by first | exact rfl | assumption, by first | exact room1 (by with_reducible assumption) (by decide) | ktr_room, by first | exact units1 (by with_reducible assumption) (by decide) | ktr_units⟩ (ilshift_ok _ _ _ _ (by with_reducible assumption) (by with_reducible assumption) _) ?_; intro _ _ _ _ _; (try dsimp only)) | ((with_reducible show wpAny _ _ (call (Value.ref 150) _ _) _ _ _); refine Claim.use1 ⟨by k_asm, by k_asm, by k_asm, by k_asm, by k_asm, by first | exact rfl | assumption, by first | exact room1 (by with_reducible assumption) (by decide) | ktr_room, by first | exact units1 (by with_reducible assumption) (by decide) | ktr_units⟩ (port_ok _ _ _ _ _ (by with_reducible assumption)) ?_; intro _ _ _ _ _; (try dsimp only)) | ((with_reducible show wpAny _ _ (call (Value.ref 115) _ _) _ _ _); (rename NotedAt _ _ _ _ _ _ _ _ => H9); refine Claim.use0 ⟨by k_asm, by k_asm, by k_asm, by k_asm, by k_asm, by first | exact rfl | assumption, by first | exact room1 (by with_reducible assumption) (by decide) | ktr_room, by first | exact units1 (by with_reducible assumption) (by decide) | ktr_units⟩ (gt_ok _ _ _ _ _ _) ?_; intro _ _ _ _; (try dsimp only)) | ((with_reducible show wpAny _ _ (call (Value.ref 108) _ _) _ _ _); (rename NotedAt _ _ _ _ _ _ _ _ => H9); refine Claim.use0 ⟨by k_asm, by k_asm, by k_asm, by k_asm, by k_asm, by first | exact rfl | assumption, by first | exact room1 (by with_reducible assumption) (by decide) | ktr_room, by first | exact units1 (by with_reducible assumption) (by decide) | ktr_units⟩ (ge_ok _ _ _ _ _ _) ?_; intro _ _ _ _; (try dsimp only)) | ((with_reducible show wpAny _ _ (call (Value.ref 32) _ _) _ _ _); (rename NotedAt _ _ _ _ _ _ _ _ => H9); refine Claim.useS ⟨by k_asm, by k_asm, by k_asm, by k_asm, by k_asm, by first | exact rfl | assumption, by first | exact room1 (by with_reducible assumption) (by decide) | ktr_room, by first | exact units1 (by with_reducible assumption) (by decide) | ktr_units⟩ (bisr_U H9 (by k_mem) (by with_reducible assumption) (by with_reducible assumption) _ _ _ _ _ _ (by with_reducible assumption) (by with_reducible assumption) (by lia) (by assumption) (by k_mem) (by k_mem) (by k_mem) (by k_upd) (hB_of (by first | exact Short.le (by (repeat' (first | with_reducible assumption | apply Short.app | apply Short.take | apply Short.drop | apply Short.rev | exact Short.one | exact Short.nil))) (by decide) | ((try simp only [List.length_append, List.length_take, List.length_drop, List.length_reverse, List.length_cons, List.length_nil]); lia)) (by with_reducible assumption) (by with_reducible assumption) (by lia))) ?_; (intro _ _ _ _ hRet' _ _); (obtain ⟨t', b', hv', hU', hbl'⟩ := hRet'); subst hv'; (refine upd_use hU' (by k_upd) ?_; intro hE'; subst hE'); (try dsimp only)) | ((with_reducible show wpAny _ _ (call (Value.ref 50) _ _) _ _ _); (rename NotedAt _ _ _ _ _ _ _ _ => H9); refine Claim.useS ⟨by k_asm, by k_asm, by k_asm, by k_asm, by k_asm, by first | exact rfl | assumption, by first | exact room1 (by with_reducible assumption) (by decide) | ktr_room, by first | exact units1 (by with_reducible assumption) (by decide) | ktr_units⟩ (bisl_U H9 (by k_mem) (by with_reducible assumption) (by with_reducible assumption) _ _ _ _ _ _ (by with_reducible assumption) (by with_reducible assumption) (by lia) (by assumption) (by k_mem) (by k_mem) (by k_mem) (by k_upd) (hB_of (by first | exact Short.le (by (repeat' (first | with_reducible assumption | apply Short.app | apply Short.take | apply Short.drop | apply Short.rev | exact Short.one | exact Short.nil))) (by decide) | ((try simp only [List.length_append, List.length_take, List.length_drop, List.length_reverse, List.length_cons, List.length_nil]); lia)) (by with_reducible assumption) (by with_reducible assumption) (by lia))) ?_; (intro _ _ _ _ hRet' _ _); (obtain ⟨t', b', hv', hU', hbl'⟩ := hRet'); subst hv'; (refine upd_use hU' (by k_upd) ?_; intro hE'; subst hE'); (try dsimp only)) | ((with_reducible show wpAny _ _ (call (Value.ref 129) _ _) _ _ _); (rename NotedAt _ _ _ _ _ _ _ _ => H9); refine Claim.useS ⟨by k_asm, by k_asm, by k_asm, by k_asm, by k_asm, by first | exact rfl | assumption, by first | exact room1 (by with_reducible assumption) (by decide) | ktr_room, by first | exact units1 (by with_reducible assumption) (by decide) | ktr_units⟩ (iconcat_U _ _ _ _ _ _ _ (by k_mem) (by k_ne) (by k_upd) (Short.sum (by (repeat' (first | with_reducible assumption | apply Short.app | apply Short.take | apply Short.drop | apply Short.rev | exact Short.one | exact Short.nil))) (by (repeat' (first | with_reducible assumption | apply Short.app | apply Short.take | apply Short.drop | apply Short.rev | exact Short.one | exact Short.nil))) (by decide))) ?_; (intro _ _ _ _ hRet' _ _); (obtain ⟨n', hv', hU'⟩ := hRet'); subst hv'; (refine upd_use hU' (by k_upd) ?_; intro hE'; subst hE'); (try dsimp only)) | ((with_reducible show wpAny _ _ (call (Value.ref _) _ _) _ _ _); (rename NotedAt _ _ _ _ _ _ _ _ => H9); refine Claim.use1 ⟨by k_asm, by k_asm, by k_asm, by k_asm, by k_asm, by first | exact rfl | assumption, by first | exact room1 (by with_reducible assumption) (by decide) | ktr_room, by first | exact units1 (by with_reducible assumption) (by decide) | ktr_units⟩ (H9.ok _ _ _ _ _ _ (by with_reducible assumption) (by k_mem) (by k_mem) (by k_mem) (by k_upd) (by lia)) ?_; intro _ _ _ _ _; (try dsimp only)) | fail); k_steps)
    all_goals first | contradiction | skip
    · rename f2 _ ≤ f1 _ => hgt
      rename Fr _ _ _ _ => F9
      rename News _ _ _ _ => N9
      refine hKP _ ?_
      refine mg_end ((i : Int) - 2 ^ (halv j 20 i).toNat).toNat j F9 (news_sub N9 sub4) ⟨_, by rw [Int.toNat_of_nonneg hp0]; rfl⟩ ⟨_, rfl⟩ (by intro z h1 h2 h3 h4 h5 h6; simp only [if_neg h1, if_neg h2, if_neg h3, if_neg h4, if_neg h5, if_neg h6, kstB, mg_contains h1 h2 h3 h4 h5 h6, Bool.false_eq_true, if_false]) (inv2_far so1 I st hj rfl hgt (by simp)) ?_
      show _ < i + j
      lia
    · rename ¬ f2 _ ≤ f1 _ => hgt
      rename Fr _ _ _ _ => F9
      rename News _ _ _ _ => N9
      rename List.length _ = _ + _ => hbl
      rename _ = some _ => hit
      have hq := bisP_le (fun k => decide (f1 k < f2 ((j : Int) - 1))) hr2
      have hq2 := bisP_lo (fun k => decide (f1 k < f2 ((j : Int) - 1))) (hi := (i : Int)) hr0
      refine hKP _ ?_
      refine mg_end (bisP (fun k => decide (f1 k < f2 ((j : Int) - 1))) ((i : Int) - 2 ^ (halv j 20 i).toNat + 1) i).1.toNat (j - 1) F9 (news_sub N9 sub5) ⟨_, by rw [Int.toNat_of_nonneg hq2]; rfl⟩ ⟨_, by rw [show ((j - 1 : Nat) : Int) = (j : Int) - 1 by lia]; rfl⟩ (by intro z h1 h2 h3 h4 h5 h6; simp only [if_neg h1, if_neg h2, if_neg h3, if_neg h4, if_neg h5, if_neg h6, kstB, mg_contains h1 h2 h3 h4 h5 h6, Bool.false_eq_true, if_false]) (inv2_near so1 I st hj rfl hgt hit (by rw [hbl, List.length_append]; rfl)) ?_
      exact Nat.add_lt_add_of_le_of_lt (Int.toNat_le.mpr hq) (Nat.sub_lt hj Nat.one_pos)
end Mine
namespace Mine
noncomputable def pick3 (a b c : Str) (k : Int) : Str := if k = 0 then a else if k = 1 then b else c
noncomputable def pick2 (a b : Str) (k : Int) : Str := if k = 0 then a else b
section
variable {prog : Program} {w : World} {A : Around} {E : Value → Shared → Prop} {s : Shared} {value slice : PySem.Expr} {h₀ : Heap} {L l : Addr} {news : List (Addr × Obj)} {a b c : Str} {t1 t2 t3 : Tok} {nl : Nat} {x : Int} {u : Tok} {Q : Value → Shared → Prop}
theorem item_three (N : News h₀ L s.heap news) (hm : (l, lstO [.str a t1, .str b t2, .str c t3] nl) ∈ news) (ha : a.length ≤ 5) (hb : b.length ≤ 5) (hc : c.length ≤ 5) (h : ∀ u, (pick3 a b c (Int.fmod x 3)).length ≤ 5 → Q (.str (pick3 a b c (Int.fmod x 3)) u) s)
    (hs : subscripted slice false (.ref l) (.int (Int.fmod x 3) u) = operate [.ref l, .int (Int.fmod x 3) u] (getItem (.ref l) (.int (Int.fmod x 3) u)) := by with_unfolding_all rfl) :
    wpAny (model prog w) A (subscriptTail value slice (.ref l) (.int (Int.fmod x 3) u)) Q E s := by
  have h0 := Int.fmod_nonneg_of_pos x (b := 3) (by decide)
  have h1 := Int.fmod_lt_of_pos x (b := 3) (by decide)
  refine item_any N hm h0 h1 (by show 3 ≤ 100; decide) (fun v hv => ?_) hs
  generalize Int.fmod x 3 = k at *
  have hk : k = 0 ∨ k = 1 ∨ k = 2 := by lia
  rcases hk with rfl | rfl | rfl
  · cases hv; exact h _ ha
  · cases hv; exact h _ hb
  · cases hv; exact h _ hc
theorem item_two (N : News h₀ L s.heap news) (hm : (l, lstO [.str a t1, .str b t2] nl) ∈ news) (ha : a.length ≤ 5) (hb : b.length ≤ 5) (h : ∀ u, (pick2 a b (Int.fmod x 2)).length ≤ 5 → Q (.str (pick2 a b (Int.fmod x 2)) u) s)
    (hs : subscripted slice false (.ref l) (.int (Int.fmod x 2) u) = operate [.ref l, .int (Int.fmod x 2) u] (getItem (.ref l) (.int (Int.fmod x 2) u)) := by with_unfolding_all rfl) :
    wpAny (model prog w) A (subscriptTail value slice (.ref l) (.int (Int.fmod x 2) u)) Q E s := by
  have h0 := Int.fmod_nonneg_of_pos x (b := 2) (by decide)
  have h1 := Int.fmod_lt_of_pos x (b := 2) (by decide)
  refine item_any N hm h0 h1 (by show 2 ≤ 100; decide) (fun v hv => ?_) hs
  generalize Int.fmod x 2 = k at *
  have hk : k = 0 ∨ k = 1 := by lia
  rcases hk with rfl | rfl
  · cases hv; exact h _ ha
  · cases hv; exact h _ hb
end
/-- the reply's text -/
noncomputable def replyT (name : Str) (port dress : Int) : Str :=
  Str.ofString "229 " ++ pick2 (Str.ofString "") (Str.ofString ") ") (Int.fmod (Int.fdiv dress 12) 2) ++ name ++ Str.ofString " (" ++ Txt.item (Str.ofString "|!:#") (Int.fmod dress 4) ++ pick3 (Str.ofString "") (Str.ofString "7") (Str.ofString "(") (Int.fmod (Int.fdiv dress 4) 3) ++
    Txt.mul (Txt.item (Str.ofString "|!:#") (Int.fmod dress 4)) 2 ++ Str.ofString (toString port) ++ Txt.item (Str.ofString "|!:#") (Int.fmod dress 4) ++ Str.ofString ") (9)"
local macro_rules | `(tactic| walk_at "subscriptTail") => `(tactic| (k_here; (with_reducible show wpAny _ _ (subscriptTail _ _ (Value.ref _) (Value.int (Int.fmod _ _) _)) _ _ _); refine Hold.of ?_))
set_option maxHeartbeats 4000000 in
theorem reply_ok (w : World) (name : Str) (port dress : Int) (tn tp td : Tok) (hn : name.length ≤ 10) (hp0 : -3 ≤ port) (hp1 : port ≤ 2000001) (hpl : (Str.ofString (toString port)).length ≤ 20) (news : List (Addr × Obj)) :
    Claim w 1 143 [.str name tn, .int port tp, .int dress td] [] news (fun v nw => ∃ t', v = .str (replyT name port dress) t' ∧ nw = news) := by
  unfold Claim
  k_fill
  intro dp un gd cn cs a ccd cl outer A₀ base h₀ L m s Q E p loose mean mg mb B F X N T hk hd hu ret
  refine wpAny_call ?_
  k_dflt cell_enter
  refine gen_tok0 ?_
  intro tk0
  k_steps
  repeat' ((with_reducible refine Hold.out ?_); (first | ((with_reducible show wpAny _ _ (subscriptTail _ _ (Value.ref _) (Value.int (Int.fmod _ 3) _)) _ _ _); refine item_three (by k_asm) (by k_mem) (by decide +kernel) (by decide +kernel) (by decide +kernel) ?_; intro _ _) | ((with_reducible show wpAny _ _ (subscriptTail _ _ (Value.ref _) (Value.int (Int.fmod _ 2) _)) _ _ _); refine item_two (by k_asm) (by k_mem) (by decide +kernel) (by decide +kernel) ?_; intro _ _) | fail); k_steps)
  exact ret _ _ _ _ ⟨_, rfl, rfl⟩ (by assumption) (news_sub (by assumption) (fun p hp => .tail _ (.tail _ hp)))
end Mine
namespace Mine
/-- what a def does that raises one of the class at `C` with `vs` -/
noncomputable def ClaimR (w : World) (k : Nat) (f : Addr) (args : List Value) (kw : List (Str × Value)) (news : List (Addr × Obj)) (C : Addr) (vs : List Value) : Prop :=
  ∀ (dp un : Nat) (gd : Option (List Code)) (cn : Str) (cs : Scope) (a : Addr) (ccd : Value) (cl : List (Str × Addr)) (outer : List Env) (A₀ : Around) (base h₀ : Heap) (L : Addr) (m : Str → Option Value) (s : Shared) (Q E : Value → Shared → Prop)
    (p : Program) (loose : List Str) (mean : ExcName → Option Value) (mg mb : Str → Option Value),
    Below A₀ base outer h₀ → Fr h₀ L s.heap m → (hd0.heap_1_39 w.params).In h₀ → News h₀ L s.heap news → Top p loose mean mg mb h₀ → cs.kind = .function →
    dp + k < recursionLimit → un + 20 * k < cLine →
    (∀ e t g h' tk', Fr h₀ L g m → RaisedS base g (envX cn cs L a ccd cl :: outer) e (.ref C) t vs news h' → g.UpToSlots h' → E (.ref e) { s with heap := h', toks := tk' }) →
      wpAny (model PySem.Challenge.rw_wu0062_01.row.prog w) (ktrTop dp un gd cn cs L a ccd cl outer) (call (.ref f) args kw) Q E s
theorem raised_sub {base G h : Heap} {l : List Env} {e t : Addr} {cls : Value} {vs : List Value} {news news' : List (Addr × Obj)} (R : RaisedS base G l e cls t vs news h) (hs : ∀ q ∈ news', q ∈ news) : RaisedS base G l e cls t vs news' h := by
  obtain ⟨⟨B, hB, hG, hl, hfl, hnew⟩, htup⟩ := R
  exact ⟨⟨B, hB, hG, fun q hq => hl q (hs q hq), hfl, hnew⟩, htup⟩
theorem ClaimR.use {w : World} {k : Nat} {f : Addr} {args : List Value} {kw : List (Str × Value)} {news : List (Addr × Obj)} {C : Addr} {vs : List Value} (H : ClaimR w k f args kw news C vs)
    {dp un : Nat} {gd : Option (List Code)} {cn : Str} {cs : Scope} {a : Addr} {ccd : Value} {cl : List (Str × Addr)} {outer : List Env} {A₀ : Around} {base h₀ : Heap} {L : Addr} {m : Str → Option Value} {s : Shared} {Q E : Value → Shared → Prop}
    {p : Program} {loose : List Str} {mean : ExcName → Option Value} {mg mb : Str → Option Value}
    (B : Below A₀ base outer h₀) (F : Fr h₀ L s.heap m) (X : (hd0.heap_1_39 w.params).In h₀) (N : News h₀ L s.heap news) (T : Top p loose mean mg mb h₀) (hk : cs.kind = .function)
    (hd : dp + k < recursionLimit) (hu : un + 20 * k < cLine)
    (ret : ∀ e t g h' tk', Fr h₀ L g m → RaisedS base g (envX cn cs L a ccd cl :: outer) e (.ref C) t vs news h' → g.UpToSlots h' → E (.ref e) { s with heap := h', toks := tk' }) :
      wpAny (model PySem.Challenge.rw_wu0062_01.row.prog w) (ktrTop dp un gd cn cs L a ccd cl outer) (call (.ref f) args kw) Q E s :=
  H dp un gd cn cs a ccd cl outer A₀ base h₀ L m s Q E p loose mean mg mb B F X N T hk hd hu ret
theorem ClaimR.useS {w : World} {k : Nat} {f : Addr} {args : List Value} {kw : List (Str × Value)} {news : List (Addr × Obj)} {C : Addr} {vs : List Value}
    {dp un : Nat} {gd : Option (List Code)} {cn : Str} {cs : Scope} {a : Addr} {ccd : Value} {cl : List (Str × Addr)} {outer : List Env} {A₀ : Around} {base h₀ : Heap} {L : Addr} {m : Str → Option Value} {s : Shared} {Q E : Value → Shared → Prop}
    {p : Program} {loose : List Str} {mean : ExcName → Option Value} {mg mb : Str → Option Value} (S : Site w A₀ base h₀ outer L s.heap m news p loose mean mg mb cs dp un k) (H : ClaimR w k f args kw news C vs)
    (ret : ∀ e t g h' tk', Fr h₀ L g m → RaisedS base g (envX cn cs L a ccd cl :: outer) e (.ref C) t vs news h' → g.UpToSlots h' → E (.ref e) { s with heap := h', toks := tk' }) :
      wpAny (model PySem.Challenge.rw_wu0062_01.row.prog w) (ktrTop dp un gd cn cs L a ccd cl outer) (call (.ref f) args kw) Q E s :=
  H.use S.B S.F S.X S.N S.T S.hk S.hd S.hu ret
theorem num5 {n : Nat} (h : (n : Int) = 5) (k : (n : Int) ≠ 5) : False := k h
set_option maxHeartbeats 4000000 in
theorem raise1_ok (w : World) (r : Str) (t : Tok) (peer : Addr) (x y : Value) (news : List (Addr × Obj)) (hm : (peer, tupO [x, y]) ∈ news) (hr : r.length ≤ 200) (h3 : (Txt.slice r none (some 3) != Str.ofString "229") = true) :
    ClaimR w 1 94 [.str r t, .ref peer] [] news 73 [.str r t] := by
  unfold ClaimR
  k_fill
  intro dp un gd cn cs a ccd cl outer A₀ base h₀ L m s Q E p loose mean mg mb B F X N T hk hd hu ret
  have st6 : StopAt "leaving ref" := ⟨⟩
  replace N : News h₀ L s.heap ((peer, tupO [x, y]) :: news) := news_sub N (by intro p hp; rcases List.mem_cons.mp hp with rfl | hp; exact hm; exact hp)
  refine wpAny_call ?_
  k_dflt cell_enter
  refine gen_tok0 ?_
  intro tk0
  k_steps
  repeat' ((with_reducible refine Hold.out ?_); (first | (refine leave_raiseS (by assumption) (by assumption) (by k_asm) (by k_asm) ?_ rfl; intro _ _ _ _ _) | fail); k_steps)
  all_goals exact ret _ _ _ _ _ (by assumption) (raised_sub (by assumption) (fun q hq => .tail _ hq)) (by assumption)
set_option maxHeartbeats 4000000 in
theorem raise2_ok (w : World) (r : Str) (t : Tok) (peer : Addr) (x y : Value) (news : List (Addr × Obj)) (hm : (peer, tupO [x, y]) ∈ news) (hr : r.length ≤ 200) (h3 : (Txt.slice r none (some 3) != Str.ofString "229") = false) (hl0 : Txt.find r (Str.ofString "(") < 0) :
    ClaimR w 1 94 [.str r t, .ref peer] [] news 85 [.str r t] := by
  unfold ClaimR
  k_fill
  intro dp un gd cn cs a ccd cl outer A₀ base h₀ L m s Q E p loose mean mg mb B F X N T hk hd hu ret
  have st6 : StopAt "leaving ref" := ⟨⟩
  replace N : News h₀ L s.heap ((peer, tupO [x, y]) :: news) := news_sub N (by intro p hp; rcases List.mem_cons.mp hp with rfl | hp; exact hm; exact hp)
  refine wpAny_call ?_
  k_dflt cell_enter
  refine gen_tok0 ?_
  intro tk0
  k_steps
  repeat' ((with_reducible refine Hold.out ?_); (first | (refine leave_raiseS (by assumption) (by assumption) (by k_asm) (by k_asm) ?_ rfl; intro _ _ _ _ _) | fail); k_steps)
  all_goals exact ret _ _ _ _ _ (by assumption) (raised_sub (by assumption) (fun q hq => .tail _ hq)) (by assumption)
set_option maxHeartbeats 4000000 in
theorem raise3_ok (w : World) (r : Str) (t : Tok) (peer : Addr) (x y : Value) (news : List (Addr × Obj)) (hm : (peer, tupO [x, y]) ∈ news) (hr : r.length ≤ 200) (h3 : (Txt.slice r none (some 3) != Str.ofString "229") = false) (hl0 : 0 ≤ Txt.find r (Str.ofString "(")) (hq0 : Txt.find3 r (Str.ofString ")") (Txt.find r (Str.ofString "(") + 1) < 0) :
    ClaimR w 1 94 [.str r t, .ref peer] [] news 85 [.str r t] := by
  unfold ClaimR
  k_fill
  intro dp un gd cn cs a ccd cl outer A₀ base h₀ L m s Q E p loose mean mg mb B F X N T hk hd hu ret
  have st6 : StopAt "leaving ref" := ⟨⟩
  replace N : News h₀ L s.heap ((peer, tupO [x, y]) :: news) := news_sub N (by intro p hp; rcases List.mem_cons.mp hp with rfl | hp; exact hm; exact hp)
  refine wpAny_call ?_
  k_dflt cell_enter
  refine gen_tok0 ?_
  intro tk0
  k_steps
  repeat' ((with_reducible refine Hold.out ?_); (first | (refine leave_raiseS (by assumption) (by assumption) (by k_asm) (by k_asm) ?_ rfl; intro _ _ _ _ _) | fail); k_steps)
  all_goals exact ret _ _ _ _ _ (by assumption) (raised_sub (by assumption) (fun q hq => .tail _ hq)) (by assumption)
set_option maxHeartbeats 4000000 in
theorem raise4_ok (w : World) (r : Str) (t : Tok) (peer : Addr) (x y : Value) (news : List (Addr × Obj)) (hm : (peer, tupO [x, y]) ∈ news) (hr : r.length ≤ 200) (h3 : (Txt.slice r none (some 3) != Str.ofString "229") = false) (hl0 : 0 ≤ Txt.find r (Str.ofString "(")) (hq0 : Txt.find r (Str.ofString "(") + 1 ≤ Txt.find3 r (Str.ofString ")") (Txt.find r (Str.ofString "(") + 1)) (hq1 : Txt.find3 r (Str.ofString ")") (Txt.find r (Str.ofString "(") + 1) < r.length) (hmk : (Txt.item r (Txt.find r (Str.ofString "(") + 1) != Txt.item r (Txt.find3 r (Str.ofString ")") (Txt.find r (Str.ofString "(") + 1) - 1)) = true) :
    ClaimR w 1 94 [.str r t, .ref peer] [] news 85 [.str r t] := by
  unfold ClaimR
  k_fill
  intro dp un gd cn cs a ccd cl outer A₀ base h₀ L m s Q E p loose mean mg mb B F X N T hk hd hu ret
  have st6 : StopAt "leaving ref" := ⟨⟩
  replace N : News h₀ L s.heap ((peer, tupO [x, y]) :: news) := news_sub N (by intro p hp; rcases List.mem_cons.mp hp with rfl | hp; exact hm; exact hp)
  refine wpAny_call ?_
  k_dflt cell_enter
  refine gen_tok0 ?_
  intro tk0
  k_steps
  repeat' ((with_reducible refine Hold.out ?_); (first | (refine leave_raiseS (by assumption) (by assumption) (by k_asm) (by k_asm) ?_ rfl; intro _ _ _ _ _) | fail); k_steps)
  all_goals exact ret _ _ _ _ _ (by assumption) (raised_sub (by assumption) (fun q hq => .tail _ hq)) (by assumption)
theorem parts_ne {r : Str} {l : List (Str × Tok)} (h : List.map (fun x => x.fst) l = partsOf r) (h5 : (partsOf r).length ≠ 5) : (l.length : Int) ≠ 5 := by
  rw [← h, List.length_map] at h5
  lia
local macro_rules | `(tactic| walk_at "ite") => `(tactic| (k_here; refine ite_pos (parts_ne (by with_reducible assumption) (by with_reducible assumption)) ?_))
set_option maxHeartbeats 4000000 in
theorem raise5_ok (w : World) (r : Str) (t : Tok) (peer : Addr) (x y : Value) (news : List (Addr × Obj)) (hm : (peer, tupO [x, y]) ∈ news) (hr : r.length ≤ 200) (h3 : (Txt.slice r none (some 3) != Str.ofString "229") = false) (hl0 : 0 ≤ Txt.find r (Str.ofString "(")) (hq0 : Txt.find r (Str.ofString "(") + 1 ≤ Txt.find3 r (Str.ofString ")") (Txt.find r (Str.ofString "(") + 1)) (hq1 : Txt.find3 r (Str.ofString ")") (Txt.find r (Str.ofString "(") + 1) < r.length) (hmk : (Txt.item r (Txt.find r (Str.ofString "(") + 1) != Txt.item r (Txt.find3 r (Str.ofString ")") (Txt.find r (Str.ofString "(") + 1) - 1)) = false) (h5 : (partsOf r).length ≠ 5) :
    ClaimR w 1 94 [.str r t, .ref peer] [] news 85 [.str r t] := by
  unfold ClaimR
  k_fill
  intro dp un gd cn cs a ccd cl outer A₀ base h₀ L m s Q E p loose mean mg mb B F X N T hk hd hu ret
  have st6 : StopAt "leaving ref" := ⟨⟩
  replace N : News h₀ L s.heap ((peer, tupO [x, y]) :: news) := news_sub N (by intro p hp; rcases List.mem_cons.mp hp with rfl | hp; exact hm; exact hp)
  refine wpAny_call ?_
  k_dflt cell_enter
  refine gen_tok0 ?_
  intro tk0
  k_steps
  repeat' ((with_reducible refine Hold.out ?_); (first | (refine leave_raiseS (by assumption) (by assumption) (by k_asm) (by k_asm) ?_ rfl; intro _ _ _ _ _) | fail); k_steps)
  · exact ret _ _ _ _ _ (by assumption) (raised_sub (by assumption) (fun q hq => .tail _ (.tail _ hq))) (by assumption)
  all_goals (exfalso; rename List.map _ _ = partsOf _ => hx0; have hx := parts_ne hx0 h5; first | contradiction | lia)
end Mine
namespace Mine
/-- as LeaveK, where a caught raise may have turned the slots of the caller's frame -/
noncomputable def LeaveT (h₀ : Heap) (L : Addr) (m : Str → Option Value) (g : Heap) (R : Result → Shared → Prop) (v : Value) (s' : Shared) : Prop :=
  ∃ g' L' m' news', KtsTurn [L] g g' ∧ Fr g' L' s'.heap m' ∧ News g' L' s'.heap news' ∧ (Fr h₀ L s'.heap m → News h₀ L s'.heap news' → R (.ok (.ret v)) s')
theorem leaveT_out {h₀ g : Heap} {L : Addr} {m : Str → Option Value} {R : Result → Shared → Prop} {v : Value} {s' : Shared} (FG : Fr h₀ L g m) (st : LeaveT h₀ L m g R v s') : R (.ok (.ret v)) s' := by
  obtain ⟨g', L', m', news', T, F', N', k⟩ := st
  obtain ⟨oL, es, ep, hL, hLd, hLk, hLf⟩ := FG.ns
  obtain ⟨sl, hs⟩ := T.up hL
  have nL : h₀.get? L = none := kts_self FG
  refine k ⟨⟨_, es, ep, F'.keep _ _ hs, hLd, hLk, hLf⟩, fun b o e => F'.keep b o (T.other b o (FG.keep b o e) (fun q => ?_)), FG.above⟩ (fun p hp => ⟨(N' p hp).1, fun q => ?_, ?_⟩)
  · rw [List.mem_singleton.mp q, nL] at e
    cases e
  · have := (N' p hp).2.2
    rw [q, hs] at this
    cases this
  · cases q : h₀.get? p.1 with
    | none => rfl
    | some o =>
      obtain ⟨sl', hs'⟩ := T.up (FG.keep _ _ q)
      have := (N' p hp).2.2
      rw [hs'] at this
      cases this
section
variable {prog : Program} {w : World} {A₀ A : Around} {s : Shared} {base h₀ : Heap} {outer : List Env} {L : Addr} {m : Str → Option Value} {env : Env} {news : List (Addr × Obj)} {K : Frag} {p : Program} {loose : List Str} {mean : ExcName → Option Value} {mg mb : Str → Option Value}
  {R : Result → Shared → Prop} {name qual : Str} {params : Arguments} {body : List Stmt} {scope : Scope} {dV kV doc pm cdv ct oc : Value} {an od : Option Addr} {osl : Array (Option Value)} {f : Addr} {args : Args} {binds : List (Str × Value)}
theorem code_T (B : Below A₀ base outer h₀) (F : Fr h₀ L s.heap m) (X₀ : K.In h₀) (N : News h₀ L s.heap news) (T : Top p loose mean mg mb h₀) (hA : A.frames = some (env :: outer)) (hf : env.frame = some L) (hke : env.scope.kind = .function)
    (ho : K.lookup f = some ⟨oc, od, .func (fnOf name qual params body scope dV kV doc pm an cdv ct), osl⟩) (hcd : codeIn K cdv qual = true) (hroom : A.depth < recursionLimit)
    (hbind : BindsTo s (fnOf name qual params body scope dV kV doc pm an cdv ct) args binds) (hloc : ∀ y ∈ binds, scope.names.lookup y.1 = some .local)
    (h : ∀ g L' h₁, Fr h₀ L g m → Fr g L' h₁ (fun y => binds.reverse.lookup y) → News g L' h₁ news → Below A base (env :: outer) g → K.In g → Top p loose mean mg mb g →
      wpAny (model prog w) (A.deeper (envOf qual scope L' f cdv)) (execs body (envOf qual scope L' f cdv))
        (fun fl s' => LeaveT h₀ L m g R (match fl with | .ret v => v | _ => .none) s')
        (fun e s' => wpAny (model prog w) (A.deeper (envOf qual scope L' f cdv)) (leaving (envOf qual scope L' f cdv) e) (fun _ s'' => R (.error e) s'') (fun e' s'' => R (.error e') s'') s')
        { s with heap := h₁, toks := s.toks + binds.length })
    (hco : scope.isCoroutine = false) (hgen : scope.isGenerator = false) (hk : scope.kind = .function)
    (hcell : ∀ x ∈ scope.names, x.2 ≠ .cell) : codeAny (model prog w) A (.call (.ref f) args) R s := by
  have X := X₀.keeps F.keep
  obtain ⟨FG, BG, st, -⟩ := groundX (R := R) B F N hA hf hke
  refine codeAny_call_def (fd := fnOf name qual params body scope dV kV doc pm an cdv ct) (body := body) (binds := binds) hroom (X _ _ ho) rfl (T.nolimit.keeps F.keep) (codeRec_of X hcd) rfl hbind hcell hloc (fun h₁ hns hk₁ => ?_) hco hgen hk
  exact wpAny_mono (h _ s.heap.objs.size h₁ FG ⟨hns, fun b o e => hk₁ b o (of_hideAll _ e), Nat.le_of_eq (hideAll_size _ _)⟩
    (fun p hp => ⟨hk₁ _ _ (N p hp).1, Nat.ne_of_lt (Heap.lt_size (N p hp).1), hideAll_none _ (List.mem_map_of_mem hp)⟩) BG (X₀.keeps st) (T.keeps st)) (fun fl s' hl => leaveT_out FG hl) fun _ _ y => y
end
end Mine
namespace Mine
theorem bs_kind : builtinKind "BaseException.__str__" = some .slot := by decide +kernel
theorem bs_split : splitId "BaseException.__str__" = some ("BaseException", "__str__") := by decide +kernel
section
variable {prog : Program} {w : World} {A : Around} {E : Value → Shared → Prop} {s : Shared} {K : Frag} {e t C : Addr} {oe : Obj} {ws : Array Value} {msg : Str} {u : Tok}
theorem bargs {M : Model} {items : List Value} {Q : Value × List Value → Shared → Prop} (he : s.heap.get? e = some oe) (hd : oe.data = .fields ws) (h0 : ws[0]? = some (.ref t)) (ht : s.heap.TupAt t items) (hq : Q (.ref t, items) s) :
    wpAny M A (Builtin.BaseException.bexcArgs (.ref e)) Q E s := by
  obtain ⟨ot, k, hto, _, htd⟩ := ht
  unfold Builtin.BaseException.bexcArgs
  refine wpAny_bind (wpAny_field he hd h0 (wpAny_bind (wpAny_seqItems hto htd ?_)))
  show wpAny M A (pure (Value.ref t, items.toArray.toList)) Q E s
  exact wpAny_pure hq
theorem bexc_entry {Q : PySem.Fin → Shared → Prop} (he : s.heap.get? e = some oe) (hd : oe.data = .fields ws) (h0 : ws[0]? = some (.ref t)) (ht : s.heap.TupAt t [.str msg u]) (hq : Q (.done (.ret (.str msg u))) s) :
    wpAny (model prog w) A (Builtin.«BaseException.__str__» ⟨[.ref e], []⟩) Q E s := by
  unfold Builtin.«BaseException.__str__»
  repeat (first | with_reducible refine bargs he hd h0 ht ?_ | wp_step)
  exact hq
theorem exc_ty {M : Model} (he : s.heap.get? e = some oe) (hc : oe.cls = .ref C) : Looks M s.heap (typeOf (.ref e)) (.ref C) := by rw [← hc]; exact (Looks.ld (part := none) he).andThen .now
theorem exc_inst {M : Model} (X : K.In s.heap) (he : s.heap.get? e = some oe) (hc : oe.cls = .ref C) (hsub : subIn K (.ref C) (.type "BaseException") = some true) : Looks M s.heap (isInstance (.ref e) (.type "BaseException")) true := (exc_ty he hc).andThen (looks_subIn X hsub)
theorem exc_check {M : Model} {Q : Unit → Shared → Prop} (X : K.In s.heap) (he : s.heap.get? e = some oe) (hc : oe.cls = .ref C) (hsub : subIn K (.ref C) (.type "BaseException") = some true) (q : Q () s) : wpAny M A (checkBuiltinCall "BaseException.__str__" ⟨[.ref e], []⟩) Q E s :=
  check_slot (i := "BaseException.__str__") (owner := "BaseException") (n := "__str__") (self := .ref e) (rest := []) (kw := []) bs_kind bs_split (exc_inst X he hc hsub) (PySem.F.args_bexc_str (.ref e)) q
theorem bexc_call {Q : Value → Shared → Prop} (X : K.In s.heap) (he : s.heap.get? e = some oe) (hc : oe.cls = .ref C) (hd : oe.data = .fields ws) (h0 : ws[0]? = some (.ref t)) (ht : s.heap.TupAt t [.str msg u]) (hsub : subIn K (.ref C) (.type "BaseException") = some true)
    (hq : Q (.str msg u) s) : wpAny (model prog w) A (call (.builtin "BaseException.__str__") [.ref e]) Q E s := by
  refine wpAny_call (codeAny_call_builtin_at (id := "BaseException.__str__") (args := ⟨[.ref e], []⟩) (b := Builtin.«BaseException.__str__») (Code.quiet_builtin _ (by decide +kernel)) PySem.F.entry_bexc_str (exc_check X he hc hsub ?_))
  exact bexc_entry he hd h0 ht hq
theorem bs_bind (v : Value) : bindSpecial (.builtin "BaseException.__str__") v = pure (.builtin "BaseException.__str__", [v]) := PySem.F.excStr_ValueError.str.bind v
theorem bexc_special {Q : Option Value → Shared → Prop} (X : K.In s.heap) (he : s.heap.get? e = some oe) (hc : oe.cls = .ref C) (hs : findIn K (.ref C) "__str__" = some (some (.builtin "BaseException.__str__")))
    (h : wpAny (model prog w) A (call (.builtin "BaseException.__str__") [.ref e]) (fun v => Q (some v)) E s) : wpAny (model prog w) A (callSpecial? (.ref e) "__str__" []) Q E s := by
  have LT := exc_ty (M := model prog w) he hc
  exact wpAny_bind (wpAny_bind (LT.here ((looks_findIn X hs).here (wpAny_holding (wpAny_bind ((Looks.of_pure (bs_bind _)).here (wpAny_bind (wpAny_mono h (fun _ _ z => wpAny_pure z) fun _ _ z => z))))))))
open Builtin Builtin.Str in
theorem bexc_strOf {Q : Value → Shared → Prop} (hu : A.units < cLine) (X : K.In s.heap) (he : s.heap.get? e = some oe) (hc : oe.cls = .ref C) (hd : oe.data = .fields ws) (h0 : ws[0]? = some (.ref t)) (ht : s.heap.TupAt t [.str msg u])
    (hsub : subIn K (.ref C) (.type "BaseException") = some true) (hs : findIn K (.ref C) "__str__" = some (some (.builtin "BaseException.__str__"))) (hq : Q (.str msg u) s) : wpAny (model prog w) A (PySem.Builtin.Str.strOf (.ref e)) Q E s := by
  unfold PySem.Builtin.Str.strOf
  rw [show isExactStr (.ref e) = false from rfl]
  refine wpAny_bind (m := cRoomFor _ _) (wpAny_cRoomFor hu ?_)
  refine wpAny_bind (m := callSpecial? (.ref e) (Str.ofString "__str__")) (bexc_special X he hc hs (bexc_call X he hc hd h0 ht hsub ?_))
  exact wpAny_pure hq
theorem str_user {Q : Value → Shared → Prop} (hu : A.in1.in1.units < cLine) (X : K.In s.heap) (he : s.heap.get? e = some oe) (hc : oe.cls = .ref C) (hd : oe.data = .fields ws) (h0 : ws[0]? = some (.ref t)) (ht : s.heap.TupAt t [.str msg u])
    (hsub : subIn K (.ref C) (.type "BaseException") = some true) (hs : findIn K (.ref C) "__str__" = some (some (.builtin "BaseException.__str__"))) (hq : Q (.str msg u) s) : wpAny (model prog w) A (call (.type "str") [.ref e]) Q E s := by
  refine callType_codes (T := "str") (Bi := Builtin.«object.__init__») (Q₁ := fun r s₁ => ∃ y u, r = .str y u ∧ Q r s₁) PySem.F.called_str (PySem.F.typeCall_str_1 _) PySem.F.entry_object_init ?_ ?_
  · refine codeAny_of_tree ?_
    show wpAny _ A.in1.in1 (do checkBuiltinCall "str.__new__" ⟨[.type "str", .ref e], []⟩; again (.builtin "str.__new__" ⟨[.type "str", .ref e], []⟩)) _ _ s
    refine wpAny_bind (wpAny_of_eq (PySem.F.newCall_str_1 _) (wpAny_pure ⟨plainId_quiet (by decide +kernel) _, codeAny_builtin PySem.F.entry_str_new ?_⟩))
    rw [Around.under_plainId (by decide +kernel) _]
    rw [str_new_tree]
    refine wpAny_bind (wpAny_pure ?_)
    refine wpAny_bind (wpAny_of_eq isSubtype_str_str ?_)
    exact wpAny_bind (wpAny_mono (bexc_strOf hu X he hc hd h0 ht hsub hs (Q := fun r s₁ => ∃ y u, r = .str y u ∧ Q r s₁) ⟨_, _, rfl, hq⟩) (fun r s₁ hr => wpAny_pure hr) fun _ _ y => y)
  · rintro obj s₁ ⟨y, u, rfl, hq⟩
    exact ⟨typeIs_str _ _ _, PySem.F.args_object_init_2 _ _, object_init_meets PySem.F.called_str.init.lookup PySem.F.called_str.made (by decide) prog w A.in1 _ s₁ ⟨typeIs_str _ _ _, rfl, hq⟩⟩
theorem str_gotU {h₀ : Heap} {L : Addr} {news : List (Addr × Obj)} {Q : Value → Shared → Prop} (G : Got news e t (.ref C) [.str msg u]) (N : News h₀ L s.heap news) (X : K.In s.heap) (hu : A.in1.in1.units < cLine)
    (hsub : subIn K (.ref C) (.type "BaseException") = some true) (hs : findIn K (.ref C) "__str__" = some (some (.builtin "BaseException.__str__"))) (hq : Q (.str msg u) s) : wpAny (model prog w) A (call (.type "str") [.ref e]) Q E s := by
  obtain ⟨oe, ot, ws, nt, h1, h2, hc, hd, h0, htc, htd⟩ := G
  exact str_user hu X (N _ h1).1 hc hd h0 ⟨ot, nt, (N _ h2).1, htc, htd⟩ hsub hs hq
end
end Mine
namespace Mine
/-- as Claim, for a caller that stands at the bottom -/
noncomputable def Claim0 (w : World) (k : Nat) (f : Addr) (args : List Value) (kw : List (Str × Value)) (news : List (Addr × Obj)) (Ret : (Value → List (Addr × Obj) → Prop)) : Prop :=
  ∀ (dp un : Nat) (gd : Option (List Code)) (cn : Str) (cs : Scope) (a : Addr) (ccd : Value) (cl : List (Str × Addr)) (A₀ : Around) (h₀ : Heap) (L : Addr) (m : Str → Option Value) (s : Shared) (Q E : Value → Shared → Prop)
    (p : Program) (loose : List Str) (mean : ExcName → Option Value) (mg mb : Str → Option Value),
    Below A₀ h₀ [] h₀ → Fr h₀ L s.heap m → (hd0.heap_1_39 w.params).In h₀ → News h₀ L s.heap news → Top p loose mean mg mb h₀ → cs.kind = .function →
    dp + k < recursionLimit → un + 20 * k < cLine →
    (∀ v news' h' tk', Ret v news' → Fr h₀ L h' m → News h₀ L h' news' → Q v { s with heap := h', toks := tk' }) →
      wpAny (model PySem.Challenge.rw_wu0062_01.row.prog w) (ktrTop dp un gd cn cs L a ccd cl []) (call (.ref f) args kw) Q E s
theorem dicts_of {h₀ g : Heap} {L : Addr} {m : Str → Option Value} (F : Fr h₀ L g m) : KtsDicts [L] g := by
  intro b hb
  obtain ⟨oL, es, ep, hL, hLd, -⟩ := F.ns
  rw [List.mem_singleton.mp hb]
  exact ⟨oL, es, ep, hL, hLd⟩
/-- the reply is refused with the class at C -/
noncomputable def Raises (w : World) (r : Str) (C : Addr) : Prop := ∀ (t : Tok) (peer : Addr) (x y : Value) (news : List (Addr × Obj)), (peer, tupO [x, y]) ∈ news → ClaimR w 1 94 [.str r t, .ref peer] [] news C [.str r t]
local macro_rules | `(tactic| walk_at "call ref") => `(tactic| (k_here; (with_reducible show wpAny _ _ (call (Value.ref 94) _) _ _ _); refine Hold.of ?_))
local macro_rules | `(tactic| walk_at "call type:str") => `(tactic| (k_here; (with_reducible show wpAny _ _ (call (Value.type "str") [Value.ref _]) _ _ _); refine Hold.of ?_))
set_option maxHeartbeats 4000000 in
theorem refA_ok (w : World) (r : Str) (t : Tok) (HR : Raises w r 73) (news : List (Addr × Obj)) :
    Claim0 w 2 157 [.str r t] [] news (fun v nw => ∃ t', v = .int 1 t' ∧ nw = news) := by
  unfold Claim0
  k_fill
  intro dp un gd cn cs a ccd cl A₀ h₀ L m s Q E p loose mean mg mb B F X N T hk hd hu ret
  refine wpAny_call ?_
  k_dflt (refine' code_T ?k1 ?k2 ?k3 ?k4 ?k5 ?kA ?kF ?kK ?k6 ?k7 ?k8 ?k9 ?kB ?_ ?c2 ?c3 ?c4 ?c5; (case kA => exact rfl); (case kF => exact rfl); (case kK => assumption); (case k1 => k_asm); (case k2 => k_asm); (case k3 => k_asm); (case k4 => k_asm); (case k5 => k_asm); (case k6 => k_is); (case k7 => k_is); (case k8 => ktr_room); (case k9 => exact BindsTo.of_eq rfl); (case c5 => decide); (case kB => exact locs rfl); (case c2 => exact rfl); (case c3 => exact rfl); (case c4 => exact rfl); k_whole; intro g' L' h' FG' F' N' B' X' T'; (try dsimp only); (try k_lift B'); (try k_fold))
  refine gen_tok0 ?_
  intro tk0
  have D' := dicts_of FG'
  k_steps
  repeat' ((with_reducible refine Hold.out ?_); (first | ((rename Raises _ _ _ => hR'); refine ClaimR.useS ⟨by k_asm, by k_asm, by k_asm, by k_asm, by k_asm, by first | exact rfl | assumption, by first | exact room1 (by with_reducible assumption) (by decide) | ktr_room, by first | exact units1 (by with_reducible assumption) (by decide) | ktr_units⟩ (hR' _ _ _ _ _ (by k_mem)) ?_; intro e' t' g2' h' tk' FR' RS' US'; (try dsimp only at RS' US' ⊢)) | (refine str_gotU (by assumption) (by assumption) (by k_in) (by first | ktr_units | k_units | units_room) (by k_is) (by k_is) ?_) | fail); k_steps)
  · rename Fr _ _ _ _ => F9
    rename News _ _ _ _ => N9
    rename KtsTurn _ _ _ => T9
    exact ⟨_, _, _, _, T9, F9, N9, fun F2 N2 => ret _ _ _ _ ⟨_, rfl, rfl⟩ F2 (news_sub N2 (fun p hp => .tail _ hp))⟩
  · exfalso
    rename (_ == _) = false => hx
    simp at hx
set_option maxHeartbeats 4000000 in
theorem refB_ok (w : World) (r : Str) (t : Tok) (HR : Raises w r 85) (news : List (Addr × Obj)) :
    Claim0 w 2 157 [.str r t] [] news (fun v nw => ∃ t', v = .int 2 t' ∧ nw = news) := by
  unfold Claim0
  k_fill
  intro dp un gd cn cs a ccd cl A₀ h₀ L m s Q E p loose mean mg mb B F X N T hk hd hu ret
  refine wpAny_call ?_
  k_dflt (refine' code_T ?k1 ?k2 ?k3 ?k4 ?k5 ?kA ?kF ?kK ?k6 ?k7 ?k8 ?k9 ?kB ?_ ?c2 ?c3 ?c4 ?c5; (case kA => exact rfl); (case kF => exact rfl); (case kK => assumption); (case k1 => k_asm); (case k2 => k_asm); (case k3 => k_asm); (case k4 => k_asm); (case k5 => k_asm); (case k6 => k_is); (case k7 => k_is); (case k8 => ktr_room); (case k9 => exact BindsTo.of_eq rfl); (case c5 => decide); (case kB => exact locs rfl); (case c2 => exact rfl); (case c3 => exact rfl); (case c4 => exact rfl); k_whole; intro g' L' h' FG' F' N' B' X' T'; (try dsimp only); (try k_lift B'); (try k_fold))
  refine gen_tok0 ?_
  intro tk0
  have D' := dicts_of FG'
  k_steps
  repeat' ((with_reducible refine Hold.out ?_); (first | ((rename Raises _ _ _ => hR'); refine ClaimR.useS ⟨by k_asm, by k_asm, by k_asm, by k_asm, by k_asm, by first | exact rfl | assumption, by first | exact room1 (by with_reducible assumption) (by decide) | ktr_room, by first | exact units1 (by with_reducible assumption) (by decide) | ktr_units⟩ (hR' _ _ _ _ _ (by k_mem)) ?_; intro e' t' g2' h' tk' FR' RS' US'; (try dsimp only at RS' US' ⊢)) | (refine str_gotU (by assumption) (by assumption) (by k_in) (by first | ktr_units | k_units | units_room) (by k_is) (by k_is) ?_) | fail); k_steps)
  · rename Fr _ _ _ _ => F9
    rename News _ _ _ _ => N9
    rename KtsTurn _ _ _ => T9
    exact ⟨_, _, _, _, T9, F9, N9, fun F2 N2 => ret _ _ _ _ ⟨_, rfl, rfl⟩ F2 (news_sub N2 (fun p hp => .tail _ hp))⟩
  · exfalso
    rename (_ == _) = false => hx
    simp at hx
end Mine
namespace Mine
/-- the state of the loop over the script -/
noncomputable def ScrJ (D : Addr) (fixed : List (Addr × Obj)) (m₀ : Str → Option Value) (_ : Nat) (m : Str → Option Value) (nx : List (Addr × Obj)) : Prop :=
  ∃ vs ns n, nx = (D, lstO vs n) :: fixed ∧ IntsAre vs ns ∧ ns.length = 17 ∧ ∀ z, z ≠ Str.ofString "i" → z ≠ Str.ofString "number" → m z = m₀ z
theorem scr_fr {h₀ h : Heap} {L : Addr} {m₁ m₀ : Str → Option Value} {v u : Value} (hr : ∀ z, z ≠ Str.ofString "i" → z ≠ Str.ofString "number" → m₁ z = m₀ z)
    (F : Fr h₀ L h (fun y => if y = Str.ofString "number" then some v else if y = Str.ofString "i" then some u else m₁ y)) :
    Fr h₀ L h (fun y => if y = Str.ofString "number" then some v else if y = Str.ofString "i" then some u else m₀ y) := by
  have e : (fun y => if y = Str.ofString "number" then some v else if y = Str.ofString "i" then some u else m₁ y) = fun y => if y = Str.ofString "number" then some v else if y = Str.ofString "i" then some u else m₀ y := by
    funext y
    by_cases h1 : y = Str.ofString "number"
    · rw [if_pos h1, if_pos h1]
    · rw [if_neg h1, if_neg h1]
      by_cases h2 : y = Str.ofString "i"
      · rw [if_pos h2, if_pos h2]
      · rw [if_neg h2, if_neg h2, hr y h2 h1]
  rw [← e]
  exact F
theorem own_swap {α : Type} {own : List α} {x : α} {fixed : List α} : ∀ p ∈ x :: fixed ++ own, p ∈ own ++ x :: fixed := by
  intro p hp
  rcases List.mem_append.mp hp with h | h
  · exact List.mem_append_right _ h
  · exact List.mem_append_left _ h
theorem own_swap' {α : Type} {own : List α} {x : α} {fixed : List α} : ∀ p ∈ own ++ x :: fixed, p ∈ x :: (fixed ++ own) := by
  intro p hp
  rcases List.mem_append.mp hp with h | h
  · exact .tail _ (List.mem_append_right _ h)
  · rcases List.mem_cons.mp h with rfl | h
    · exact .head _
    · exact .tail _ (List.mem_append_left _ h)
theorem own_ne {h₀ h : Heap} {L D : Addr} {own fixed news : List (Addr × Obj)} {o o' : Obj} (_ : News h₀ L h (own ++ (D, o) :: fixed)) (ho : ∀ p ∈ own, ∀ q ∈ (D, o') :: news, p.1 ≠ q.1) (hf : ∀ p ∈ fixed, p.1 ≠ D) : ∀ p ∈ fixed ++ own, p.1 ≠ D := by
  intro p hp
  rcases List.mem_append.mp hp with h | h
  · exact hf p h
  · exact ho p h _ (.head _)
theorem mod17_lo (i : Nat) : 0 ≤ Int.fmod (i : Int) 17 := Int.fmod_nonneg_of_pos _ (by decide)
theorem mod17_hi (i : Nat) : Int.fmod (i : Int) 17 < 17 := Int.fmod_lt_of_pos _ (by decide)
theorem scr_end {h₀ h' : Heap} {L D : Addr} {own fixed : List (Addr × Obj)} {s₁ : Shared} {tk : Nat} {m m₀ : Str → Option Value} {vs vs' : List Value} {ns : List Int} {n n' i : Nat} {Qr : Value → Shared → Prop} {Qb : Shared → Prop}
    (F : Fr h₀ L h' m) (N : News h₀ L h' ((D, lstO vs n) :: (fixed ++ own))) (hI : IntsAre vs ns) (hl : ns.length = 17) (hr : ∀ z, z ≠ Str.ofString "i" → z ≠ Str.ofString "number" → m z = m₀ z) :
    LoopStep3 h₀ L own ((D, lstO vs' n') :: fixed) (ScrJ D fixed m₀ (i + 1)) s₁ Qr Qb .next { s₁ with heap := h', toks := tk } :=
  ⟨rfl, h', tk, m, (D, lstO vs n) :: fixed, rfl, F, news_sub N own_swap', rfl, vs, ns, n, rfl, hI, hl, hr⟩
theorem cell_none {o : Obj} {v : Option Value} (h : o.data = .cell v) (e : v = none) : o.data = .cell none := e ▸ h
theorem fr_script {base h : Heap} {L ax : Addr} {its : Array Value} {m : Str → Option Value} (_ : base.IsList ax its) (F : Fr base L h m) (e : m = fun y => if y = Str.ofString "script" then some (.ref ax) else none) :
    Fr base L h (fun y => if y = Str.ofString "script" then some (.ref ax) else none) := e ▸ F
theorem lst_of (a : Array Value) (n : Nat) : listOf a n = lstO a.toList n := by
  show listOf a n = { cls := .type "list", data := .seq a.toList.toArray n }
  rw [Array.toArray_toList]
end Mine
namespace Mine
theorem item_spread {prog : Program} {w : World} {A : Around} {E : Value → Shared → Prop} {s : Shared} {value slice : PySem.Expr} {h₀ : Heap} {L l : Addr} {news : List (Addr × Obj)} {t1 t2 t3 t4 : Tok} {nl : Nat} {x : Int} {u : Tok} {Q : Value → Shared → Prop}
    (N : News h₀ L s.heap news) (hm : (l, lstO [.int 4 t1, .int 9 t2, .int 100 t3, .int 2000001 t4] nl) ∈ news) (h : ∀ S u, 4 ≤ S → S ≤ 2000001 → Q (.int S u) s)
    (hs : subscripted slice false (.ref l) (.int (Int.fmod x 4) u) = operate [.ref l, .int (Int.fmod x 4) u] (getItem (.ref l) (.int (Int.fmod x 4) u)) := by with_unfolding_all rfl) :
    wpAny (model prog w) A (subscriptTail value slice (.ref l) (.int (Int.fmod x 4) u)) Q E s := by
  have h0 := Int.fmod_nonneg_of_pos x (b := 4) (by decide)
  have h1 := Int.fmod_lt_of_pos x (b := 4) (by decide)
  refine item_any N hm h0 h1 (by show 4 ≤ 100; decide) (fun v hv => ?_) hs
  generalize Int.fmod x 4 = k at *
  have hk : k = 0 ∨ k = 1 ∨ k = 2 ∨ k = 3 := by lia
  rcases hk with rfl | rfl | rfl | rfl <;> (cases hv; exact h _ _ (by decide) (by decide))
/-- a comprehension by its state -/
theorem compRest_ind {prog : Program} {w : World} {A : Around} {h₀ : Heap} {L : Addr} {m : Str → Option Value} {env : Env} {elt : PySem.Expr} {x : Str} {scope : Scope} {cl : List (Str × Addr)} {s : Shared} {S : List (Addr × Obj) → Prop} {P : Nat → Value → Prop}
    {Fin : List Value → List (Addr × Obj) → Prop} {n : Nat} (Inv : Nat → List Value → List (Addr × Obj) → Prop)
    (step : ∀ i ys news, i < n → Inv i ys news → ∀ v I oI C oC D m₂ h tk (E' : Value → Shared → Prop), P i v → LCg.NsObj oC m₂ → m₂ x = some v → Fr h₀ L h m → News h₀ L h ((I, oI) :: (C, oC) :: (D, LCg.lst ys) :: news) → LCg.Off3 I C D news → ((@Ne Nat I C) ∧ (@Ne Nat I D) ∧ (@Ne Nat C D)) →
      wpAny (model prog w) A (eval elt (compEnvC scope cl C env)) (LCg.CompEnd h₀ L m { s with heap := h, toks := tk } I oI C oC D (LCg.lst ys) S (fun y news' => Inv (i + 1) (ys ++ [y]) news')) E' { s with heap := h, toks := tk })
    (fin : ∀ ys news, Inv n ys news → Fin ys news) : ∀ k i ys news, i + k = n → Inv i ys news → LCg.CompRest prog w A h₀ L m env elt x scope cl s S P Fin k i ys news
  | 0, i, ys, news, e, hI => LCg.CompRest.zero (fin _ _ (by rw [← e]; exact hI))
  | k + 1, i, ys, news, e, hI => LCg.CompRest.succ fun v I oI C oC D m₂ h tk E' hP hC hx F N off ne =>
    wpAny_mono (step i ys news (by lia) hI v I oI C oC D m₂ h tk E' hP hC hx F N off ne) (fun y s₂ hy => by
      obtain ⟨h', tk', news', e', F', N', off', hS, hI'⟩ := hy
      exact ⟨h', tk', news', e', F', N', off', hS, compRest_ind Inv step fin k (i + 1) _ _ (by lia) hI'⟩) fun _ _ z => z
/-- the row's pairs stand in R -/
noncomputable def PairsIn (name : Nat → Str) (f : Nat → Int) (R : List (Addr × Obj)) (i : Nat) (ys : List Value) : Prop :=
  ∀ j < i, ∃ a tn tp, ys[j]? = some (.ref a) ∧ (a, tupO [.str (name j) tn, .int (f j) tp]) ∈ R
theorem PairsIn.mono {name : Nat → Str} {f : Nat → Int} {R R' : List (Addr × Obj)} {i : Nat} {ys : List Value} (h : PairsIn name f R i ys) (k : ∀ p ∈ R, p ∈ R') : PairsIn name f R' i ys := fun j hj => by
  obtain ⟨a, tn, tp, h1, h2⟩ := h j hj
  exact ⟨a, tn, tp, h1, k _ h2⟩
/-- all lie above b -/
noncomputable def Above (b : Addr) (R : List (Addr × Obj)) : Prop := ∀ p ∈ R, @LT.lt Nat _ b p.1
theorem Above.ne {b c : Addr} {R : List (Addr × Obj)} (h : Above b R) (hc : @LE.le Nat _ c b) : ∀ p ∈ R, p.1 ≠ c := fun p hp => Nat.ne_of_gt (Nat.lt_of_le_of_lt hc (h p hp))
theorem off1_ne {D c : Addr} {o : Obj} : ∀ {l : List (Addr × Obj)}, LCg.Off1 D l → (c, o) ∈ l → D ≠ c
  | [], _, h => nomatch h
  | _ :: _, x, h => by
    rcases List.mem_cons.mp h with e | h
    · rw [← e] at x; exact Ne.symm x.1
    · exact off1_ne x.2 h
theorem Above.append {b : Addr} {R R' : List (Addr × Obj)} (h : Above b R) (h' : Above b R') : Above b (R ++ R') := fun p hp => (List.mem_append.mp hp).elim (h p) (h' p)
/-- pairs of a name and a port -/
noncomputable def TupInv (name : Nat → Str) (f : Nat → Int) (b : Addr) (fixed : List (Addr × Obj)) (i : Nat) (ys : List Value) (news : List (Addr × Obj)) : Prop :=
  ∃ T, news = fixed ++ T ∧ ys.length = i ∧ PairsIn name f T i ys ∧ Above b T
theorem TupInv.zero (name : Nat → Str) (f : Nat → Int) (b : Addr) (fixed : List (Addr × Obj)) : TupInv name f b fixed 0 [] fixed := ⟨[], by simp, rfl, fun j h => absurd h (Nat.not_lt_zero j), fun p hp => nomatch hp⟩
theorem TupInv.start {h₀ h : Heap} {L : Addr} {fixed : List (Addr × Obj)} (name : Nat → Str) (f : Nat → Int) (_ : News h₀ L h fixed) : TupInv name f (L + 1 + 1 + 1 + 1 + 1 + 1) fixed 0 [] fixed := TupInv.zero name f _ fixed
theorem TupInv.snoc {name : Nat → Str} {f : Nat → Int} {b : Addr} {fixed T : List (Addr × Obj)} {i : Nat} {ys : List Value} {a : Addr} {tn tp : Tok} (hl : ys.length = i) (h : PairsIn name f T i ys) (hA : Above b T) (ha : @LT.lt Nat _ b a) :
    TupInv name f b fixed (i + 1) (ys ++ [.ref a]) (fixed ++ (a, tupO [.str (name i) tn, .int (f i) tp]) :: T) := by
  refine ⟨_, rfl, by simp [hl], fun j hj => ?_, List.forall_mem_cons.mpr ⟨ha, hA⟩⟩
  by_cases e : j < i
  · obtain ⟨a', tn', tp', h1, h2⟩ := h j e
    exact ⟨a', tn', tp', by rw [List.getElem?_append_left (by lia)]; exact h1, .tail _ h2⟩
  · obtain rfl : j = i := by lia
    exact ⟨a, tn, tp, by rw [← hl, List.getElem?_concat_length], .head _⟩
theorem count_of (x : Int) {k : Int} (hk : 0 < k) : ∃ m : Nat, 1 + Int.fmod x k = (m : Int) ∧ 1 ≤ m ∧ (m : Int) ≤ k := by
  have h0 := Int.fmod_nonneg_of_pos x hk
  have h1 := Int.fmod_lt_of_pos x hk
  exact ⟨(1 + Int.fmod x k).toNat, by lia, by lia, by lia⟩
/-- the ports that the cells tell -/
noncomputable def portsOf (ns : List Int) (b : Nat) (S : Int) (j : Nat) : Int := Int.fmod (ns.getD (b + j) 0) S - 3
theorem range_size (m : Nat) : Builtin.Range.rangeSize 0 (m : Int) 1 = ((m : Nat) : Int) := by rw [rangeSize_nat]; lia
theorem range_small {m : Nat} (h : m ≤ 1000) : Builtin.Range.small 0 (m : Int) 1 = true := small_one (by decide) (by decide) (by lia) (by lia)
theorem size_ok {m : Nat} (h : m ≤ 1000) : m ≤ sizeLine := by rw [sizeLine_eq]; lia
theorem mem_mid {α : Type} {x : α} {fixed T : List α} : ∀ p ∈ fixed ++ x :: T, p ∈ x :: (fixed ++ T) := sub_push
theorem off3_mid {I C D : Addr} {fixed T : List (Addr × Obj)} {x : Addr × Obj} (off : LCg.Off3 I C D (fixed ++ T)) (h1 : x.1 ≠ I) (h2 : x.1 ≠ C) (h3 : x.1 ≠ D) : LCg.Off3 I C D (fixed ++ x :: T) :=
  LCg.Off3.of fun p hp => by
    rcases List.mem_cons.mp (mem_mid p hp) with rfl | hp
    · exact ⟨h1, h2, h3⟩
    · exact off.mem p hp
theorem tup_end {h₀ h' : Heap} {L I C D a b : Addr} {m : Str → Option Value} {s₁ : Shared} {oI oC oD : Obj} {name : Nat → Str} {f : Nat → Int} {fixed T : List (Addr × Obj)} {ys : List Value} {i tk : Nat} {nm : Str} {pt : Int} {tn tp : Tok}
    (F : Fr h₀ L h' m) (N : News h₀ L h' ((a, tupO [.str nm tn, .int pt tp]) :: (I, oI) :: (C, oC) :: (D, oD) :: (fixed ++ T))) (off : LCg.Off3 I C D (fixed ++ T)) (hI : @LT.lt Nat _ I a) (hC : @LT.lt Nat _ C a) (hD : @LT.lt Nat _ D a) (hb : @LT.lt Nat _ b a)
    (hyl : ys.length = i) (hT : PairsIn name f T i ys) (hA : Above b T) (en : nm = name i) (ef : pt = f i) :
    LCg.CompEnd h₀ L m s₁ I oI C oC D oD (fun _ => True) (fun y news' => TupInv name f b fixed (i + 1) (ys ++ [y]) news') (.ref a) { s₁ with heap := h', toks := tk } := by
  subst en
  subst ef
  refine ⟨h', tk, fixed ++ (a, tupO [.str (name i) tn, .int (f i) tp]) :: T, rfl, F, ?_, off3_mid off (Nat.ne_of_gt hI) (Nat.ne_of_gt hC) (Nat.ne_of_gt hD), trivial, TupInv.snoc hyl hT hA hb⟩
  intro p hp
  simp only [List.mem_cons] at hp
  rcases hp with rfl | rfl | rfl | hp
  · exact N _ (.tail _ (.head _))
  · exact N _ (.tail _ (.tail _ (.head _)))
  · exact N _ (.tail _ (.tail _ (.tail _ (.head _))))
  · rcases List.mem_cons.mp (mem_mid p hp) with rfl | hp
    · exact N _ (.head _)
    · exact N _ (.tail _ (.tail _ (.tail _ (.tail _ hp))))
/-- the name of a thing of a row -/
noncomputable def nameOf (c : String) (i : Nat) : Str := Str.ofString c ++ Str.ofString (toString (i : Int))
theorem nameOf_eq {c : String} {i : Nat} : Str.ofString c ++ Str.ofString (toString (0 + (i : Int))) = nameOf c i := by rw [Int.zero_add]; rfl
theorem portsOf_eq {ns : List Int} {b i : Nat} {S : Int} : Int.fmod (ns.getD (Int.toNat ((b : Nat) + (0 + (i : Int)))) 0) S - 3 = portsOf ns b S i := by
  rw [show Int.toNat ((b : Nat) + (0 + (i : Int))) = b + i by lia]
  rfl
end Mine
namespace Mine
theorem portsOf_lo {ns : List Int} {b i : Nat} {S : Int} (h : 4 ≤ S) : -3 ≤ portsOf ns b S i := by
  have := Int.fmod_nonneg_of_pos (ns.getD (b + i) 0) (b := S) (by lia)
  unfold portsOf
  lia
theorem portsOf_hi {ns : List Int} {b i : Nat} {S : Int} (h : 4 ≤ S) (h1 : S ≤ 2000001) : portsOf ns b S i ≤ 2000001 := by
  have := Int.fmod_lt_of_pos (ns.getD (b + i) 0) (b := S) (by lia)
  unfold portsOf
  lia
theorem num_len {p : Int} (h0 : -3 ≤ p) (h1 : p ≤ 2000001) : (Str.ofString (toString p)).length ≤ 20 := by
  by_cases h : 0 ≤ p
  · exact Nat.le_trans (toString_length_le (k := 10) h (by decide) (by lia)) (by decide)
  · have e : p = -1 ∨ p = -2 ∨ p = -3 := by lia
    rcases e with rfl | rfl | rfl <;> decide +kernel
theorem name_len {c : String} (hc : c = "a" ∨ c = "b") {i : Nat} (h : i < 9) : (nameOf c i).length ≤ 10 := by
  have e : i = 0 ∨ i = 1 ∨ i = 2 ∨ i = 3 ∨ i = 4 ∨ i = 5 ∨ i = 6 ∨ i = 7 ∨ i = 8 := by lia
  rcases hc with rfl | rfl <;> rcases e with rfl | rfl | rfl | rfl | rfl | rfl | rfl | rfl | rfl <;> decide +kernel
theorem item_pair {prog : Program} {w : World} {A : Around} {E : Value → Shared → Prop} {s : Shared} {value slice : PySem.Expr} {h₀ : Heap} {L l : Addr} {news R : List (Addr × Obj)} {ys : List Value} {n k i : Nat} {name : Nat → Str} {f : Nat → Int} {u : Tok} {Q : Value → Shared → Prop}
    (N : News h₀ L s.heap news) (hm : (l, lstO ys n) ∈ news) (hP : PairsIn name f R k ys) (hl : ys.length = k) (hi : i < k) (hk : k ≤ 100) (h : ∀ a tn tp, (a, tupO [.str (name i) tn, .int (f i) tp]) ∈ R → Q (.ref a) s)
    (hs : subscripted slice false (.ref l) (.int (0 + (i : Int)) u) = operate [.ref l, .int (0 + (i : Int)) u] (getItem (.ref l) (.int (0 + (i : Int)) u)) := by with_unfolding_all rfl) :
    wpAny (model prog w) A (subscriptTail value slice (.ref l) (.int (0 + (i : Int)) u)) Q E s := by
  refine item_any N hm (by lia) (by lia) (by lia) (fun v hv => ?_) hs
  obtain ⟨a, tn, tp, h1, h2⟩ := hP i hi
  rw [show Int.toNat (0 + (i : Int)) = i by lia, h1] at hv
  cases hv
  exact h a tn tp h2
/-- the row's replies -/
noncomputable def TxtsAre (T : Nat → Str) (i : Nat) (ys : List Value) : Prop := ys.length = i ∧ ∀ j < i, ∃ t, ys[j]? = some (.str (T j) t)
theorem TxtsAre.snoc {T : Nat → Str} {i : Nat} {ys : List Value} {t : Tok} (h : TxtsAre T i ys) : TxtsAre T (i + 1) (ys ++ [.str (T i) t]) := by
  refine ⟨by simp [h.1], fun j hj => ?_⟩
  by_cases e : j < i
  · obtain ⟨t', h1⟩ := h.2 j e
    exact ⟨t', by rw [List.getElem?_append_left (by rw [h.1]; exact e)]; exact h1⟩
  · obtain rfl : j = i := by lia
    exact ⟨t, by rw [← h.1, List.getElem?_concat_length]⟩
noncomputable def TxtInv (T : Nat → Str) (fixed : List (Addr × Obj)) (i : Nat) (ys : List Value) (news : List (Addr × Obj)) : Prop := news = fixed ∧ TxtsAre T i ys
theorem TxtInv.start (T : Nat → Str) {h₀ h : Heap} {L : Addr} {fixed : List (Addr × Obj)} (_ : News h₀ L h fixed) : TxtInv T fixed 0 [] fixed := ⟨rfl, rfl, fun j h => absurd h (Nat.not_lt_zero j)⟩
theorem txt_end {h₀ h' : Heap} {L I C D : Addr} {m : Str → Option Value} {s₁ : Shared} {oI oC oD : Obj} {T : Nat → Str} {fixed : List (Addr × Obj)} {ys : List Value} {i tk : Nat} {x : Str} {t : Tok}
    (F : Fr h₀ L h' m) (N : News h₀ L h' ((I, oI) :: (C, oC) :: (D, oD) :: fixed)) (off : LCg.Off3 I C D fixed) (hT : TxtsAre T i ys) (ex : x = T i) :
    LCg.CompEnd h₀ L m s₁ I oI C oC D oD (fun _ => True) (fun y news' => TxtInv T fixed (i + 1) (ys ++ [y]) news') (.str x t) { s₁ with heap := h', toks := tk } := by
  subst ex
  exact ⟨h', tk, fixed, rfl, F, N, off, trivial, rfl, hT.snoc⟩
/-- the replies of a row -/
noncomputable def repsOf (c : String) (ns : List Int) (b : Nat) (S : Int) (j : Nat) : Str := replyT (nameOf c j) (portsOf ns b S j) (ns.getD 16 0 + (j : Int))
theorem repsOf_eq {c : String} {ns : List Int} {b j : Nat} {S : Int} : replyT (nameOf c j) (portsOf ns b S j) (ns.getD (Int.toNat 16) 0 + (0 + (j : Int))) = repsOf c ns b S j := by rw [Int.zero_add]; rfl
end Mine
namespace Mine
theorem str_ext {x y : Str} (h : x.cps.toList = y.cps.toList) : x = y := by
  obtain ⟨⟨a⟩⟩ := x
  obtain ⟨⟨b⟩⟩ := y
  cases (show a = b from h)
  rfl
theorem lst_app (x y : Str) : (x ++ y).cps.toList = x.cps.toList ++ y.cps.toList := by
  show (x.cps ++ y.cps).toList = _
  simp
theorem len_lst (x : Str) : x.length = x.cps.toList.length := by
  show x.cps.size = _
  simp
theorem from_in {n i : Nat} (h : i ≤ n) : PySem.fromIndex n (i : Int) = i := by
  unfold PySem.fromIndex
  rw [if_neg (by lia)]
  lia
theorem getD_lst (x : Str) (v : Nat) : x.cps.getD v 0 = (x.cps.toList[v]?).getD 0 := by
  obtain ⟨⟨l⟩⟩ := x
  simp [Array.getD]
  split
  · rename_i hv
    rw [List.getElem?_eq_getElem hv]
    rfl
  · rename_i hv
    rw [List.getElem?_eq_none (by simpa using hv)]
    rfl
theorem find3_at {x : Str} {A B R : List Nat} {c : Nat} (hl : x.cps.toList = A ++ B ++ c :: R) (hB : c ∉ B) : Txt.find3 x ⟨#[c]⟩ (A.length : Int) = ((A.length + B.length : Nat) : Int) := by
  have hlen : x.length = A.length + B.length + (R.length + 1) := by rw [len_lst, hl]; simp; lia
  have hc : x.cps.getD (A.length + B.length) 0 = c := by
    rw [getD_lst, hl, List.getElem?_append_right (by simp)]
    simp
  have hf := from_in (n := x.length) (i := A.length) (by lia)
  rcases StrLaws.find3_spec x c (A.length : Int) with ⟨_, hn⟩ | ⟨k, h, h1, h2, h3, h4⟩
  · rw [hf] at hn
    exact absurd hc (hn _ (by lia) (by lia))
  · rw [hf] at h1 h4
    rw [h]
    by_cases e : k < A.length + B.length
    · exfalso
      rw [getD_lst, hl, List.getElem?_append_left (by simpa using e), List.getElem?_append_right h1, List.getElem?_eq_getElem (by lia)] at h3
      exact hB (h3 ▸ List.getElem_mem _)
    · by_cases e2 : A.length + B.length < k
      · exact absurd hc (h4 _ (by lia) e2)
      · congr 1; lia
theorem find3_no {x : Str} {A B : List Nat} {c : Nat} (hl : x.cps.toList = A ++ B) (hB : c ∉ B) : Txt.find3 x ⟨#[c]⟩ (A.length : Int) = -1 := by
  have hlen : x.length = A.length + B.length := by rw [len_lst, hl]; simp
  have hf := from_in (n := x.length) (i := A.length) (by lia)
  rcases StrLaws.find3_spec x c (A.length : Int) with ⟨h, _⟩ | ⟨k, h, h1, h2, h3, h4⟩
  · exact h
  · exfalso
    rw [hf] at h1
    rw [getD_lst, hl, List.getElem?_append_right h1, List.getElem?_eq_getElem (by lia)] at h3
    exact hB (h3 ▸ List.getElem_mem _)
theorem find_at {x : Str} {B R : List Nat} {c : Nat} (hl : x.cps.toList = B ++ c :: R) (hB : c ∉ B) : Txt.find x ⟨#[c]⟩ = (B.length : Int) := by
  rw [find_is_find3]
  have h := find3_at (A := []) (x := x) (by simpa using hl) hB
  simpa using h
theorem find_no {x : Str} {c : Nat} (hB : c ∉ x.cps.toList) : Txt.find x ⟨#[c]⟩ = -1 := by
  rw [find_is_find3]
  exact find3_no (A := []) (x := x) (B := x.cps.toList) rfl hB
theorem item_at {x : Str} {A R : List Nat} {c : Nat} (hl : x.cps.toList = A ++ c :: R) : Txt.item x (A.length : Int) = ⟨#[c]⟩ := by
  have hlen : x.length = A.length + (R.length + 1) := by rw [len_lst, hl]; simp
  unfold Txt.item Txt.charAt seqIndex?
  have e : (if (A.length : Int) < 0 then (A.length : Int) + x.length else (A.length : Int)) = A.length := if_neg (by lia)
  simp only [e]
  rw [if_pos (by simp; lia)]
  show (⟨#[(x.cps[(A.length : Int).toNat]?).getD 0]⟩ : Str) = _
  rw [Int.toNat_natCast, ← Array.getElem?_toList, hl, List.getElem?_append_right (Nat.le_refl _)]
  simp
theorem slice_mid {x : Str} {A B R : List Nat} (hl : x.cps.toList = A ++ B ++ R) : Txt.slice x (some (A.length : Int)) (some ((A.length + B.length : Nat) : Int)) = ⟨B.toArray⟩ := by
  have hlen : x.length = A.length + B.length + R.length := by rw [len_lst, hl]; simp; lia
  rw [eq_of_beq (slice_closesL (x := x) (i := (A.length : Int)) (j := ((A.length + B.length : Nat) : Int)) (by lia) (by lia) (by lia)), hl, List.append_assoc]
  have e : (((A.length + B.length : Nat) : Int) - (A.length : Int)).toNat = B.length := by lia
  rw [e, Int.toNat_natCast, List.drop_left, List.take_left]
theorem slice_to3 {x : Str} {B R : List Nat} (hl : x.cps.toList = B ++ R) (h3 : B.length = 3) : Txt.slice x none (some 3) = ⟨B.toArray⟩ := by
  have hlen : x.length = B.length + R.length := by rw [len_lst, hl]; simp
  rw [eq_of_beq (slice_closes_toL (x := x) (j := 3) (by lia) (by lia)), hl]
  show (⟨((B ++ R).take 3).toArray⟩ : Str) = _
  rw [← h3, List.take_left]
theorem cut_uniq {c : Nat} : ∀ {a b X Y : List Nat}, a ++ c :: X = b ++ c :: Y → c ∉ a → c ∉ b → a = b ∧ X = Y
  | [], [], _, _, h, _, _ => ⟨rfl, (List.cons.inj h).2⟩
  | [], y :: b, _, _, h, _, hb => by
    have := (List.cons.inj h).1
    exact absurd (this ▸ List.mem_cons_self) hb
  | x :: a, [], _, _, h, ha, _ => by
    have := (List.cons.inj h).1
    exact absurd (this ▸ List.mem_cons_self) ha
  | x :: a, y :: b, _, _, h, ha, hb => by
    obtain ⟨h1, h2⟩ := List.cons.inj h
    obtain ⟨e1, e2⟩ := cut_uniq h2 (fun m => ha (.tail _ m)) (fun m => hb (.tail _ m))
    exact ⟨by rw [h1, e1], e2⟩
theorem join_uniq {c : Nat} : ∀ {as bs : List Str}, as ≠ [] → bs ≠ [] → (∀ p ∈ as, c ∉ p.cps.toList) → (∀ p ∈ bs, c ∉ p.cps.toList) → Str.join ⟨#[c]⟩ as = Str.join ⟨#[c]⟩ bs → as = bs
  | [], _, h, _, _, _, _ => absurd rfl h
  | _, [], _, h, _, _, _ => absurd rfl h
  | [a], [b], _, _, _, _, e => by rw [show a = b from e]
  | [a], b :: b' :: r, _, _, ha, _, e => by
    exfalso
    have e' : a = b ++ ⟨#[c]⟩ ++ Str.join ⟨#[c]⟩ (b' :: r) := e
    apply ha a (.head _)
    rw [e', lst_app, lst_app]
    simp
  | a :: a' :: r, [b], _, _, _, hb, e => by
    exfalso
    have e' : a ++ ⟨#[c]⟩ ++ Str.join ⟨#[c]⟩ (a' :: r) = b := e
    apply hb b (.head _)
    rw [← e', lst_app, lst_app]
    simp
  | a :: a' :: r, b :: b' :: q, _, _, ha, hb, e => by
    have e' : a ++ ⟨#[c]⟩ ++ Str.join ⟨#[c]⟩ (a' :: r) = b ++ ⟨#[c]⟩ ++ Str.join ⟨#[c]⟩ (b' :: q) := e
    have e2 := congrArg (fun z : Str => z.cps.toList) e'
    simp only [lst_app, List.append_assoc] at e2
    obtain ⟨h1, h2⟩ := cut_uniq (X := (Str.join ⟨#[c]⟩ (a' :: r)).cps.toList) (Y := (Str.join ⟨#[c]⟩ (b' :: q)).cps.toList) e2 (ha a (.head _)) (hb b (.head _))
    rw [str_ext h1, join_uniq (as := a' :: r) (bs := b' :: q) (by simp) (by simp) (fun p hp => ha p (.tail _ hp)) (fun p hp => hb p (.tail _ hp)) (str_ext h2)]
theorem split_is {x : Str} {c : Nat} {ps : List Str} (h : Str.join ⟨#[c]⟩ ps = x) (h0 : ps ≠ []) (hf : ∀ p ∈ ps, c ∉ p.cps.toList) : Txt.split x ⟨#[c]⟩ = ps := by
  refine join_uniq (c := c) ?_ h0 (StrLaws.split_free x c) hf ?_
  · intro e
    have := split_pos x ⟨#[c]⟩
    rw [e] at this
    exact absurd this (by decide)
  · rw [StrLaws.join_split, h]
theorem p40 : Str.ofString "(" = ⟨#[40]⟩ := by decide +kernel
theorem p41 : Str.ofString ")" = ⟨#[41]⟩ := by decide +kernel
theorem p229 : Str.ofString "229" = ⟨#[50, 50, 57]⟩ := by decide +kernel
/-- the places of a reply -/
theorem places {r : Str} {Pre Mid Rest : List Nat} {k z : Nat} (hr : r.cps.toList = [50, 50, 57] ++ Pre ++ 40 :: (k :: Mid ++ [z]) ++ 41 :: Rest) (h1 : 40 ∉ Pre) (k1 : 41 ≠ k) (z1 : 41 ≠ z) (m1 : 41 ∉ Mid) :
    Txt.slice r none (some 3) = Str.ofString "229" ∧ 0 ≤ Txt.find r (Str.ofString "(") ∧ Txt.find r (Str.ofString "(") + 1 ≤ Txt.find3 r (Str.ofString ")") (Txt.find r (Str.ofString "(") + 1) ∧
    Txt.find3 r (Str.ofString ")") (Txt.find r (Str.ofString "(") + 1) < r.length ∧ Txt.item r (Txt.find r (Str.ofString "(") + 1) = ⟨#[k]⟩ ∧ Txt.item r (Txt.find3 r (Str.ofString ")") (Txt.find r (Str.ofString "(") + 1) - 1) = ⟨#[z]⟩ ∧
    partsOf r = Txt.split ⟨(k :: Mid ++ [z]).toArray⟩ ⟨#[k]⟩ := by
  have hlen : r.length = 3 + Pre.length + (Mid.length + 3) + (Rest.length + 1) := by rw [len_lst, hr]; simp; lia
  have f1 : Txt.find r (Str.ofString "(") = ((3 + Pre.length : Nat) : Int) := by
    rw [p40, find_at (B := [50, 50, 57] ++ Pre) (R := (k :: Mid ++ [z]) ++ 41 :: Rest) (by rw [hr]; simp) (by simp [h1])]
    simp
    lia
  have f1' : Txt.find r (Str.ofString "(") + 1 = ((([50, 50, 57] ++ Pre ++ [40]).length : Nat) : Int) := by rw [f1]; simp; lia
  have f2 : Txt.find3 r (Str.ofString ")") (Txt.find r (Str.ofString "(") + 1) = ((([50, 50, 57] ++ Pre ++ [40]).length + (k :: Mid ++ [z]).length : Nat) : Int) := by
    rw [f1', p41]
    exact find3_at (R := Rest) (by rw [hr]; simp) (by simp [k1, z1, m1])
  have i1 : Txt.item r (Txt.find r (Str.ofString "(") + 1) = ⟨#[k]⟩ := by
    rw [f1']
    exact item_at (R := Mid ++ [z] ++ 41 :: Rest) (by rw [hr]; simp)
  refine ⟨?_, ?_, ?_, ?_, i1, ?_, ?_⟩
  · rw [p229]
    exact slice_to3 (B := [50, 50, 57]) (R := Pre ++ 40 :: (k :: Mid ++ [z]) ++ 41 :: Rest) (by rw [hr]; simp) rfl
  · rw [f1]; lia
  · rw [f2, f1']; lia
  · rw [f2, hlen]; simp; lia
  · rw [f2]
    have e : ((([50, 50, 57] ++ Pre ++ [40]).length + (k :: Mid ++ [z]).length : Nat) : Int) - 1 = ((([50, 50, 57] ++ Pre ++ [40] ++ k :: Mid).length : Nat) : Int) := by simp; lia
    rw [e]
    exact item_at (R := 41 :: Rest) (by rw [hr]; simp)
  · show Txt.split (Txt.slice r (some (Txt.find r (Str.ofString "(") + 1)) (some (Txt.find3 r (Str.ofString ")") (Txt.find r (Str.ofString "(") + 1)))) (Txt.item r (Txt.find r (Str.ofString "(") + 1)) = _
    rw [i1, f2, f1', slice_mid (R := 41 :: Rest) (by rw [hr]; simp)]
theorem good_of {r : Str} {port : Int} {Pre mid D Rest : List Nat} {k : Nat} (hr : r.cps.toList = [50, 50, 57] ++ Pre ++ 40 :: (k :: (mid ++ k :: k :: D) ++ [k]) ++ 41 :: Rest) (h1 : 40 ∉ Pre) (k1 : 41 ≠ k) (m1 : 41 ∉ mid) (d1 : 41 ∉ D) (m2 : k ∉ mid) (d2 : k ∉ D)
    (hlen : r.length ≤ 200) (hi : PySem.intText? ⟨D.toArray⟩ = some port) (hd : D.length ≤ 640) : Good r port := by
  obtain ⟨a1, a2, a3, a4, a5, a6, a7⟩ := places hr h1 k1 k1 (by simp [m1, k1, d1])
  have hs : Txt.split ⟨(k :: (mid ++ k :: k :: D) ++ [k]).toArray⟩ ⟨#[k]⟩ = [⟨#[]⟩, ⟨mid.toArray⟩, ⟨#[]⟩, ⟨D.toArray⟩, ⟨#[]⟩] := by
    refine split_is (str_ext ?_) (by simp) ?_
    · simp only [Str.join, lst_app]
      simp
    · intro p hp
      simp only [List.mem_cons, List.not_mem_nil, or_false] at hp
      rcases hp with rfl | rfl | rfl | rfl | rfl <;> simp [m2, d2]
  refine ⟨hlen, a1, a2, a3, a4, a5.trans a6.symm, by rw [a7, hs]; rfl, ?_⟩
  intro y hy
  rw [a7, hs] at hy
  cases hy
  exact ⟨hi, by rw [len_lst]; simpa using hd⟩
end Mine
namespace Mine
theorem num_signs {p : Int} (h0 : -3 ≤ p) (h1 : p ≤ 2000001) : (∀ c ∈ (Str.ofString (toString p)).cps.toList, c = 45 ∨ (48 ≤ c ∧ c ≤ 57)) ∧ PySem.intText? ⟨(Str.ofString (toString p)).cps.toList.toArray⟩ = some p := by
  by_cases h : 0 ≤ p
  · refine ⟨?_, KIN.num_reads h (by lia)⟩
    obtain ⟨m, rfl⟩ := Int.eq_ofNat_of_zero_le h
    intro c hc
    rw [KIN.signs_num] at hc
    obtain ⟨ch, hch, e⟩ := List.mem_map.mp hc
    have r := digit_range (Nat.isDigit_of_mem_toDigits (by decide) (by decide) hch)
    rw [← e]
    exact .inr r
  · have e : p = -1 ∨ p = -2 ∨ p = -3 := by lia
    rcases e with rfl | rfl | rfl <;> exact ⟨by decide +kernel, by decide +kernel⟩
theorem mark_is (d : Int) : ∃ k, Txt.item (Str.ofString "|!:#") (Int.fmod d 4) = ⟨#[k]⟩ ∧ (k = 124 ∨ k = 33 ∨ k = 58 ∨ k = 35) := by
  have h0 := Int.fmod_nonneg_of_pos d (b := 4) (by decide)
  have h1 := Int.fmod_lt_of_pos d (b := 4) (by decide)
  generalize Int.fmod d 4 = x at *
  have e : x = 0 ∨ x = 1 ∨ x = 2 ∨ x = 3 := by lia
  rcases e with rfl | rfl | rfl | rfl
  · exact ⟨124, by decide +kernel, by decide⟩
  · exact ⟨33, by decide +kernel, by decide⟩
  · exact ⟨58, by decide +kernel, by decide⟩
  · exact ⟨35, by decide +kernel, by decide⟩
theorem mul2 (k : Nat) : (Txt.mul ⟨#[k]⟩ 2).cps.toList = [k, k] := by rfl
theorem mul3 (k : Nat) : (Txt.mul ⟨#[k]⟩ 3).cps.toList = [k, k, k] := by rfl
theorem mul4 (k : Nat) : (Txt.mul ⟨#[k]⟩ 4).cps.toList = [k, k, k, k] := by rfl
theorem pick3_is (d : Int) : ∃ l, (pick3 (Str.ofString "") (Str.ofString "7") (Str.ofString "(") d).cps.toList = l ∧ (l = [] ∨ l = [55] ∨ l = [40]) := by
  unfold pick3
  split
  · exact ⟨[], by decide +kernel, .inl rfl⟩
  · split
    · exact ⟨[55], by decide +kernel, .inr (.inl rfl)⟩
    · exact ⟨[40], by decide +kernel, .inr (.inr rfl)⟩
theorem pick2_is (d : Int) : ∃ l, (pick2 (Str.ofString "") (Str.ofString ") ") d).cps.toList = l ∧ (l = [] ∨ l = [41, 32]) := by
  unfold pick2
  split
  · exact ⟨[], by decide +kernel, .inl rfl⟩
  · exact ⟨[41, 32], by decide +kernel, .inr rfl⟩
theorem name_free {c : String} (hc : c = "a" ∨ c = "b") {i : Nat} (h : i < 9) : 40 ∉ (nameOf c i).cps.toList := by
  have e : i = 0 ∨ i = 1 ∨ i = 2 ∨ i = 3 ∨ i = 4 ∨ i = 5 ∨ i = 6 ∨ i = 7 ∨ i = 8 := by lia
  rcases hc with rfl | rfl <;> rcases e with rfl | rfl | rfl | rfl | rfl | rfl | rfl | rfl | rfl <;> decide +kernel
theorem l229 : (Str.ofString "229 ").cps.toList = [50, 50, 57, 32] := by decide +kernel
theorem lop : (Str.ofString " (").cps.toList = [32, 40] := by decide +kernel
theorem l9 : (Str.ofString ") (9)").cps.toList = [41, 32, 40, 57, 41] := by decide +kernel
theorem one_lst (k : Nat) : (⟨#[k]⟩ : Str).cps.toList = [k] := rfl
theorem good_reps {c : String} {ns : List Int} {b j : Nat} {S : Int} (hc : c = "a" ∨ c = "b") (hj : j < 9) (h4 : 4 ≤ S) (h5 : S ≤ 2000001) : Good (repsOf c ns b S j) (portsOf ns b S j) := by
  have hp0 := portsOf_lo (ns := ns) (b := b) (i := j) h4
  have hp1 := portsOf_hi (ns := ns) (b := b) (i := j) h4 h5
  have hn := name_free hc hj
  have hnl := name_len hc hj
  have hdl := num_len hp0 hp1
  obtain ⟨hD, hI⟩ := num_signs hp0 hp1
  unfold repsOf
  generalize portsOf ns b S j = p at *
  generalize nameOf c j = nm at *
  generalize ns.getD 16 0 + (j : Int) = d
  obtain ⟨k, ek, hk⟩ := mark_is d
  obtain ⟨mid, em, hm⟩ := pick3_is (Int.fmod (Int.fdiv d 4) 3)
  obtain ⟨pre, ep, hpre⟩ := pick2_is (Int.fmod (Int.fdiv d 12) 2)
  rw [len_lst] at hnl hdl
  generalize hDe : (Str.ofString (toString p)).cps.toList = D at *
  have hr : (replyT nm p d).cps.toList = [50, 50, 57] ++ (32 :: (pre ++ nm.cps.toList ++ [32])) ++ 40 :: (k :: (mid ++ k :: k :: D) ++ [k]) ++ 41 :: [32, 40, 57, 41] := by
    unfold replyT
    rw [ek]
    simp only [lst_app, mul2, em, ep, l229, lop, l9, hDe]
    simp
  have hk2 : k ∉ D := fun h => by
    have := hD k h
    lia
  have d41 : 41 ∉ D := fun h => by
    have := hD 41 h
    lia
  have hm1 : 41 ∉ mid := by rcases hm with rfl | rfl | rfl <;> decide
  have hm2 : k ∉ mid := by
    rcases hm with rfl | rfl | rfl
    · simp
    · simp; lia
    · simp; lia
  have hp40 : 40 ∉ pre := by rcases hpre with rfl | rfl <;> decide
  have hml : mid.length ≤ 1 := by rcases hm with rfl | rfl | rfl <;> decide
  have hpl : pre.length ≤ 2 := by rcases hpre with rfl | rfl <;> decide
  refine good_of hr (by simp [hp40, hn]) (by lia) hm1 d41 hm2 hk2 ?_ hI (by lia)
  rw [len_lst, hr]
  simp
  simp at hnl
  lia
end Mine
namespace Mine
theorem mul_len1 {mk : Str} (h : mk.length = 1) (k : Nat) : (Txt.mul mk (k : Int)).length = k := by
  have := len_mul_k1 (n := (k : Int)) h
  rw [if_neg (by lia)] at this
  lia
theorem ok_append {x y : Str} (h1 : PyData.strOk x = true) (h2 : PyData.strOk y = true) : PyData.strOk (x ++ y) = true := by
  unfold PyData.strOk at h1 h2 ⊢
  show (x.cps ++ y.cps).all _ = true
  rw [Array.all_append, h1, h2]
  rfl
theorem name_ok {c : String} (hc : c = "a" ∨ c = "b") {i : Nat} (h : i < 9) : PyData.strOk (nameOf c i) = true := by
  have e : i = 0 ∨ i = 1 ∨ i = 2 ∨ i = 3 ∨ i = 4 ∨ i = 5 ∨ i = 6 ∨ i = 7 ∨ i = 8 := by lia
  rcases hc with rfl | rfl <;> rcases e with rfl | rfl | rfl | rfl | rfl | rfl | rfl | rfl | rfl <;> decide +kernel
theorem ok_lst {x : Str} (h : ∀ c ∈ x.cps.toList, c < 128) : PyData.strOk x = true := by
  unfold PyData.strOk
  rw [← Array.all_toList, List.all_eq_true]
  intro c hc
  have := h c hc
  exact decide_eq_true (by lia)
theorem ok_text (x : String) : PyData.strOk (Str.ofString x) = true := by
  unfold PyData.strOk
  rw [← Array.all_toList, List.all_eq_true]
  intro c hc
  rw [signs_ofString] at hc
  obtain ⟨ch, -, e⟩ := List.mem_map.mp hc
  refine decide_eq_true ?_
  rw [← e]
  rcases ch.valid with h | ⟨_, h⟩
  · exact Nat.lt_trans h (by decide)
  · exact h
theorem ok_num (p : Int) : PyData.strOk (Str.ofString (toString p)) = true := ok_text _
theorem reps_ok {c : String} {ns : List Int} {b j : Nat} {S : Int} (hc : c = "a" ∨ c = "b") (hj : j < 9) : PyData.strOk (repsOf c ns b S j) = true := by
  have hn := name_ok hc hj
  unfold repsOf replyT
  generalize portsOf ns b S j = p at *
  generalize nameOf c j = nm at *
  generalize ns.getD 16 0 + (j : Int) = d
  obtain ⟨k, ek, hk⟩ := mark_is d
  obtain ⟨mid, em, hm⟩ := pick3_is (Int.fmod (Int.fdiv d 4) 3)
  obtain ⟨pre, ep, hpre⟩ := pick2_is (Int.fmod (Int.fdiv d 12) 2)
  rw [ek]
  refine ok_append (ok_append (ok_append (ok_append (ok_append (ok_append (ok_append (ok_append (ok_append ?_ ?_) hn) ?_) ?_) ?_) ?_) (ok_num p)) ?_) ?_
  · decide +kernel
  · refine ok_lst fun c hc => ?_
    rw [ep] at hc
    rcases hpre with rfl | rfl
    · cases hc
    · simp at hc; lia
  · decide +kernel
  · refine ok_lst fun c hc => ?_
    simp at hc
    lia
  · refine ok_lst fun c hc => ?_
    rw [em] at hc
    rcases hm with rfl | rfl | rfl <;> simp at hc <;> lia
  · refine ok_lst fun c hc => ?_
    rw [mul2] at hc
    simp at hc
    lia
  · refine ok_lst fun c hc => ?_
    simp at hc
    lia
  · decide +kernel
end Mine
namespace Mine
/-- a loop over two lists at once by its state -/
theorem zip_ind {prog : Program} {w : World} {A : Around} {E : Value → Shared → Prop} {h₀ : Heap} {env : Env} {target : PySem.Expr} {body : List Stmt} {Q : Flow → Shared → Prop} {s : Shared} {ws : List (Addr × String)} {keep : List (Addr × Obj)}
    (J : (Str → Option Value) → List (Addr × Obj) → Prop) (P : Value → Value → Prop)
    (turn : ∀ x y r m news, P x y → J m news → (∀ m' n', J m' n' → ItemsRest prog w A E h₀ env target body Q s ws keep r m' n') → ItemsRest prog w A E h₀ env target body Q s ws keep (.pair (fun _ => x) y :: r) m news)
    (fin : ∀ m news, J m news → ItemsRest prog w A E h₀ env target body Q s ws keep [] m news) :
    ∀ (xs ys : List Value), (∀ (i : Nat) x y, xs[i]? = some x → ys[i]? = some y → P x y) → ∀ m news, J m news → ItemsRest prog w A E h₀ env target body Q s ws keep (zipItems xs ys) m news
  | [], _, _, m, news, hJ => by unfold zipItems; exact fin m news hJ
  | _ :: _, [], _, m, news, hJ => by unfold zipItems; exact fin m news hJ
  | x :: r, y :: q, hP, m, news, hJ => by
    unfold zipItems
    exact turn x y _ m news (hP 0 x y rfl rfl) hJ fun m' n' hJ' => zip_ind J P turn fin r q (fun i x y h1 h2 => hP (i + 1) x y (by simpa using h1) (by simpa using h2)) m' n' hJ'
/-- a reply and its pair -/
noncomputable def RepPair (R : List (Addr × Obj)) (x y : Value) : Prop := ∃ r t a nm tn pt tp, x = .str r t ∧ y = .ref a ∧ Good r pt ∧ (a, tupO [.str nm tn, .int pt tp]) ∈ R ∧ nm.length ≤ 10 ∧ PyData.strOk nm = true
theorem ok_h {x : Str} (h : PyData.strOk x = true) : PyData.strOk (Str.ofString "h" ++ x) = true := ok_append (by decide +kernel) h
theorem rep_pairs {R : List (Addr × Obj)} {ns : List Int} {S : Int} {ma mb : Nat} {pv ov rv sv : List Value} (hma : ma ≤ 4) (hmb : mb ≤ 9) (h4 : 4 ≤ S) (h5 : S ≤ 2000001) (hp : pv.length = ma)
    (hP1 : PairsIn (nameOf "a") (portsOf ns 2 S) R ma pv) (hP2 : PairsIn (nameOf "b") (portsOf ns 6 S) R mb ov) (h1 : TxtsAre (repsOf "a" ns 2 S) ma rv) (h2 : TxtsAre (repsOf "b" ns 6 S) mb sv) (ho : ov.length = mb) :
    ∀ (i : Nat) x y, (rv ++ sv)[i]? = some x → (pv ++ ov)[i]? = some y → RepPair R x y := by
  intro i x y hx hy
  by_cases hi : i < ma
  · rw [List.getElem?_append_left (by rw [h1.1]; exact hi)] at hx
    rw [List.getElem?_append_left (by lia)] at hy
    obtain ⟨t, e⟩ := h1.2 i hi
    obtain ⟨a, tn, tp, e1, e2⟩ := hP1 i hi
    rw [e] at hx
    rw [e1] at hy
    cases hx
    cases hy
    exact ⟨_, t, a, _, tn, _, tp, rfl, rfl, good_reps (.inl rfl) (by lia) h4 h5, e2, name_len (.inl rfl) (by lia), name_ok (.inl rfl) (by lia)⟩
  · have hi2 : i - ma < mb := by
      have := (List.getElem?_eq_some_iff.mp hy).1
      rw [List.length_append] at this
      lia
    rw [List.getElem?_append_right (by rw [h1.1]; lia), h1.1] at hx
    rw [List.getElem?_append_right (by lia), hp] at hy
    obtain ⟨t, e⟩ := h2.2 _ hi2
    obtain ⟨a, tn, tp, e1, e2⟩ := hP2 _ hi2
    rw [e] at hx
    rw [e1] at hy
    cases hx
    cases hy
    exact ⟨_, t, a, _, tn, _, tp, rfl, rfl, good_reps (.inr rfl) (by lia) h4 h5, e2, name_len (.inr rfl) (by lia), name_ok (.inr rfl) (by lia)⟩
/-- the state of the loop over the replies -/
noncomputable def TellJ (m₀ : Str → Option Value) (fixed : List (Addr × Obj)) (m : Str → Option Value) (nx : List (Addr × Obj)) : Prop :=
  nx = fixed ∧ ∀ z, z ≠ Str.ofString "reply" → z ≠ Str.ofString "pair" → z ≠ Str.ofString "told" → m z = m₀ z
section
variable {prog : Program} {w : World} {A : Around} {E : Value → Shared → Prop} {s : Shared} {h₀ : Heap} {L a b : Addr} {news : List (Addr × Obj)} {x : Str} {p : Int} {t1 t2 t3 t4 : Tok} {Q : Value → Shared → Prop}
theorem ne_told (N : News h₀ L s.heap news) (h1 : (a, tupO [.str x t1, .int p t2]) ∈ news) (h2 : (b, tupO [.str x t3, .int p t4]) ∈ news) (ok : PyData.strOk x = true) (hu : A.units + 64 < cLine) (h : Q (.bool false) s) :
    wpAny (model prog w) A (compareOp .NotEq (.ref a) (.ref b)) Q E s := by
  have sh : SeqAt.shaped (.tuple [.str x, .int p]) = true := by simp [SeqAt.shaped, PyData.canLay0, PyData.canLayAll0, PyData.depth, PyData.depthAll, ok]
  refine ne_dataH (reads_tuple_at (N _ h1).1 rfl rfl (.cons (.str _ _) (.cons (.int _ _) .nil))) (reads_tuple_at (N _ h2).1 rfl rfl (.cons (.str _ _) (.cons (.int _ _) .nil))) sh sh hu ?_
  have e : PyData.eqv (.tuple [.str x, .int p]) (.tuple [.str x, .int p]) = true := by simp [PyData.eqv, PyData.eqvAll]
  rw [e]
  exact h
theorem txt_canLay : ∀ ss : List Str, (∀ x ∈ ss, PyData.strOk x = true) → PyData.canLayAll0 (ss.map PyData.str) = true
  | [], _ => rfl
  | x :: r, h => by simp [PyData.canLayAll0, PyData.canLay0, txt_canLay r fun y hy => h y (.tail _ hy), h x (.head _)]
theorem txt_depth : ∀ ss : List Str, PyData.depthAll (ss.map PyData.str) = 0
  | [] => rfl
  | _ :: r => by simp [PyData.depthAll, PyData.depth, txt_depth r]
theorem txt_eqv : ∀ ss : List Str, PyData.eqvAll (ss.map PyData.str) (ss.map PyData.str) = true
  | [] => by simp [PyData.eqvAll]
  | _ :: r => by simp [PyData.eqvAll, PyData.eqv, txt_eqv r]
theorem txt_carried : ∀ {vs : List Value} {ss : List Str}, StrsAre vs ss → CarriedAll vs (ss.map PyData.str)
  | _, _, .nil => .nil
  | _, _, .cons _ t r => .cons (.str _ t) (txt_carried r)
theorem ne_txts {xs ys : List Value} {ss : List Str} {n1 n2 : Nat} (N : News h₀ L s.heap news) (h1 : (a, lstO xs n1) ∈ news) (h2 : (b, lstO ys n2) ∈ news) (e1 : StrsAre xs ss) (e2 : StrsAre ys ss) (ok : ∀ x ∈ ss, PyData.strOk x = true) (hu : A.units + 64 < cLine) (h : Q (.bool false) s) :
    wpAny (model prog w) A (compareOp .NotEq (.ref a) (.ref b)) Q E s := by
  have sh : SeqAt.shaped (.list (ss.map PyData.str)) = true := by simp [SeqAt.shaped, PyData.canLay0, PyData.depth, txt_canLay ss ok, txt_depth]
  refine ne_dataH (reads_newData (isList_of N h1) (txt_carried e1)) (reads_newData (isList_of N h2) (txt_carried e2)) sh sh hu ?_
  have e : PyData.eqv (.list (ss.map PyData.str)) (.list (ss.map PyData.str)) = true := by simp [PyData.eqv, txt_eqv]
  rw [e]
  exact h
end
/-- the end of a turn of the loop over the replies -/
theorem tell_end {h₀ h' : Heap} {L I : Addr} {m' m₀ : Str → Option Value} {its fixed all keep : List (Addr × Obj)} {s₁ : Shared} {tk : Nat} {RestP : (Str → Option Value) → List (Addr × Obj) → Prop}
    (F : Fr h₀ L h' m') (N : News h₀ L h' all) (hsub : ∀ p ∈ its ++ fixed, p ∈ all) (hI : ∀ p ∈ fixed, p.1 < I) (his : ∀ q ∈ its, I ≤ q.1) (hk : SubL keep fixed)
    (hr : ∀ z, z ≠ Str.ofString "reply" → z ≠ Str.ofString "pair" → z ≠ Str.ofString "told" → m' z = m₀ z) (rest : ∀ m' n', TellJ m₀ fixed m' n' → RestP m' n') :
    UnrEndW h₀ L s₁ its (fun m' n' => SubL keep n' ∧ RestP m' n') { s₁ with heap := h', toks := tk } :=
  ⟨h', tk, m', fixed, rfl, F, fun p hp => N p (hsub p hp), fun p hp q hq e => absurd (hI p hp) (by rw [e]; exact Nat.not_lt.mpr (his q hq)), hk, rest _ _ ⟨rfl, hr⟩⟩
end Mine
namespace Mine
/-- a thing of the order: its port, its row's kind, its place -/
structure Tri where
  p : Int
  k : Nat
  i : Nat
noncomputable def Tri.lt (x y : Tri) : Prop := x.p < y.p ∨ (x.p = y.p ∧ (x.k < y.k ∨ (x.k = y.k ∧ x.i < y.i)))
theorem Tri.lt_trans {x y z : Tri} (h1 : x.lt y) (h2 : y.lt z) : x.lt z := by unfold Tri.lt at *; lia
theorem Tri.lt_irrefl {x : Tri} : ¬ x.lt x := by unfold Tri.lt; lia
theorem Tri.lt_asymm {x y : Tri} (h1 : x.lt y) : ¬ y.lt x := fun h2 => Tri.lt_irrefl (Tri.lt_trans h1 h2)
/-- sorted and of the same things: the same -/
theorem tri_unique : ∀ {l l' : List Tri}, l.Perm l' → l.Pairwise Tri.lt → l'.Pairwise Tri.lt → l = l'
  | [], l', h, _, _ => (List.nil_perm.mp h).symm
  | x :: r, [], h, _, _ => absurd (List.Perm.length_eq h) (by simp)
  | x :: r, y :: q, h, s1, s2 => by
    have e : x = y := by
      have hx : x ∈ y :: q := h.mem_iff.mp (.head _)
      have hy : y ∈ x :: r := h.mem_iff.mpr (.head _)
      rcases List.mem_cons.mp hx with e | hx
      · exact e
      · rcases List.mem_cons.mp hy with e | hy
        · exact e.symm
        · exact absurd ((List.pairwise_cons.mp s1).1 y hy) (Tri.lt_asymm ((List.pairwise_cons.mp s2).1 x hx))
    subst e
    rw [tri_unique (List.Perm.cons_inv h) (List.pairwise_cons.mp s1).2 (List.pairwise_cons.mp s2).2]
theorem pairwise_take {α : Type} {R : α → α → Prop} {l : List α} (h : l.Pairwise R) (n : Nat) : (l.take n).Pairwise R := h.sublist (List.take_sublist n l)
/-- a new thing at its place -/
theorem tri_insert {l : List Tri} {x : Tri} {n : Nat} (h : l.Pairwise Tri.lt) (h1 : ∀ y ∈ l.take n, y.lt x) (h2 : ∀ y ∈ l.drop n, x.lt y) : (l.take n ++ x :: l.drop n).Pairwise Tri.lt := by
  refine List.pairwise_append.mpr ⟨pairwise_take h n, List.pairwise_cons.mpr ⟨h2, h.sublist (List.drop_sublist n l)⟩, fun a ha b hb => ?_⟩
  rcases List.mem_cons.mp hb with rfl | hb
  · exact h1 a ha
  · exact Tri.lt_trans (h1 a ha) (h2 b hb)
theorem tri_insert_perm {l : List Tri} {x : Tri} {n : Nat} : (l.take n ++ x :: l.drop n).Perm (x :: l) := by
  refine List.perm_middle.trans ?_
  rw [List.take_append_drop]
theorem strs_append : ∀ {vs : List Value} {ss : List Str} {ws : List Value} {ts : List Str}, StrsAre vs ss → StrsAre ws ts → StrsAre (vs ++ ws) (ss ++ ts)
  | _, _, _, _, .nil, h => h
  | _, _, _, _, .cons _ t r, h => .cons _ t (strs_append r h)
theorem strs_take : ∀ {vs : List Value} {ss : List Str} (n : Nat), StrsAre vs ss → StrsAre (vs.take n) (ss.take n)
  | _, _, 0, _ => by simpa using StrsAre.nil
  | _, _, n + 1, .nil => by simpa using StrsAre.nil
  | _, _, n + 1, .cons _ t r => by simpa using StrsAre.cons _ t (strs_take n r)
theorem strs_drop : ∀ {vs : List Value} {ss : List Str} (n : Nat), StrsAre vs ss → StrsAre (vs.drop n) (ss.drop n)
  | _, _, 0, h => by simpa using h
  | _, _, n + 1, .nil => by simpa using StrsAre.nil
  | _, _, n + 1, .cons _ t r => by simpa using strs_drop n r
theorem strs_len : ∀ {vs : List Value} {ss : List Str}, StrsAre vs ss → vs.length = ss.length
  | _, _, .nil => rfl
  | _, _, .cons _ _ r => congrArg (· + 1) (strs_len r)
theorem strs_at : ∀ {vs : List Value} {ss : List Str} (i : Nat), StrsAre vs ss → ∀ v, vs[i]? = some v → ∃ x t, v = .str x t ∧ ss[i]? = some x
  | _, _, _, .nil, v, h => by simp at h
  | _, _, 0, .cons x t r, v, h => ⟨x, t, by simpa using h.symm, rfl⟩
  | _, _, i + 1, .cons x t r, v, h => by simpa using strs_at i r v (by simpa using h)
theorem strs_Strs {vs : List Value} {ss : List Str} (h : StrsAre vs ss) : Strs vs := fun v hv => by
  obtain ⟨i, hi, e⟩ := List.getElem_of_mem hv
  obtain ⟨x, t, e1, _⟩ := strs_at i h v (by rw [List.getElem?_eq_getElem hi, e])
  exact ⟨x, t, e1⟩
/-- a row as it stands: the things of it, in order -/
structure RowIs (T : Nat → Nat → Str) (P : Nat → Nat → Int) (L : List Tri) (vs : List Value) : Prop where
  txt : StrsAre vs (L.map fun x => T x.k x.i)
  srt : L.Pairwise Tri.lt
  prt : ∀ x ∈ L, x.p = P x.k x.i
/-- the port at a place -/
noncomputable def portAt (L : List Tri) (i : Int) : Int := ((L[i.toNat]?).map Tri.p).getD 0
theorem RowIs.ports {T : Nat → Nat → Str} {P : Nat → Nat → Int} {L : List Tri} {vs : List Value} (h : RowIs T P L vs) (hg : ∀ x ∈ L, Good (T x.k x.i) x.p) : Ports vs (portAt L) := by
  intro i r t hv
  obtain ⟨x, t', e, hx⟩ := strs_at i h.txt _ hv
  cases e
  rw [List.getElem?_map] at hx
  cases hL : L[i]? with
  | none => rw [hL] at hx; cases hx
  | some y =>
    rw [hL] at hx
    cases hx
    have : portAt L i = y.p := by unfold portAt; rw [Int.toNat_natCast, hL]; rfl
    rw [this]
    exact hg y (List.mem_of_getElem? hL)
theorem portAt_eq {L : List Tri} {i : Nat} {x : Tri} (h : L[i]? = some x) : portAt L i = x.p := by unfold portAt; rw [Int.toNat_natCast, h]; rfl
theorem RowIs.sorted {L : List Tri} (h : L.Pairwise Tri.lt) : ∀ i j : Int, 0 ≤ i → i ≤ j → j < L.length → portAt L i ≤ portAt L j := by
  intro i j h0 h1 h2
  obtain ⟨a, rfl⟩ := Int.eq_ofNat_of_zero_le h0
  obtain ⟨b, rfl⟩ := Int.eq_ofNat_of_zero_le (Int.le_trans h0 h1)
  have hb : b < L.length := by lia
  have ha : a < L.length := by lia
  rw [portAt_eq (List.getElem?_eq_getElem ha), portAt_eq (List.getElem?_eq_getElem hb)]
  by_cases e : a = b
  · subst e; exact Int.le_refl _
  · have := List.pairwise_iff_getElem.mp h a b ha hb (by lia)
    unfold Tri.lt at this
    lia
/-- the first row after i insertions -/
structure RowR (T : Nat → Nat → Str) (P : Nat → Nat → Int) (i : Nat) (L : List Tri) (vs : List Value) : Prop extends RowIs T P L vs where
  prm : L.Perm ((List.range i).map fun j => ⟨P 1 j, 1, j⟩)
theorem bis_mono {L : List Tri} (h : L.Pairwise Tri.lt) {p : Int} : ∀ i j : Int, 0 ≤ i → i ≤ j → j < L.length → (fun i => !decide (p < portAt L i)) j = true → (fun i => !decide (p < portAt L i)) i = true := by
  intro i j h0 h1 h2 h3
  have := RowIs.sorted h i j h0 h1 h2
  simp only [Bool.not_eq_true', decide_eq_false_iff_not] at h3 ⊢
  lia
theorem bis_mono2 {L : List Tri} (h : L.Pairwise Tri.lt) {p : Int} : ∀ i j : Int, 0 ≤ i → i ≤ j → j < L.length → (fun i => decide (portAt L i < p)) j = true → (fun i => decide (portAt L i < p)) i = true := by
  intro i j h0 h1 h2 h3
  have := RowIs.sorted h i j h0 h1 h2
  simp only [decide_eq_true_eq] at h3 ⊢
  lia
theorem mem_take_get {α : Type} {l : List α} {n : Nat} {x : α} (h : x ∈ l.take n) : ∃ i, i < n ∧ l[i]? = some x := by
  obtain ⟨i, hi, e⟩ := List.getElem_of_mem h
  rw [List.length_take] at hi
  refine ⟨i, by lia, ?_⟩
  rw [← e, List.getElem_take, List.getElem?_eq_getElem]
theorem mem_drop_get {α : Type} {l : List α} {n : Nat} {x : α} (h : x ∈ l.drop n) : ∃ i, n ≤ i ∧ l[i]? = some x := by
  obtain ⟨i, hi, e⟩ := List.getElem_of_mem h
  rw [List.length_drop] at hi
  refine ⟨n + i, by lia, ?_⟩
  rw [← e, List.getElem_drop, List.getElem?_eq_getElem]
theorem strs_ins {vs : List Value} {L : List Tri} {T : Nat → Nat → Str} {n : Nat} {x : Tri} {t : Tok} (h : StrsAre vs (L.map fun x => T x.k x.i)) : StrsAre (vs.take n ++ .str (T x.k x.i) t :: vs.drop n) ((L.take n ++ x :: L.drop n).map fun x => T x.k x.i) := by
  rw [List.map_append, List.map_cons, List.map_take, List.map_drop]
  exact strs_append (strs_take n h) (.cons _ t (strs_drop n h))
theorem RowR.snoc {T : Nat → Nat → Str} {P : Nat → Nat → Int} {i : Nat} {L : List Tri} {vs : List Value} {t : Tok} (h : RowR T P i L vs) {pos : Int} (hpos : pos = (bisP (fun k => !decide (P 1 i < portAt L k)) 0 vs.length).1) :
    RowR T P (i + 1) (L.take pos.toNat ++ ⟨P 1 i, 1, i⟩ :: L.drop pos.toNat) (vs.take pos.toNat ++ .str (T 1 i) t :: vs.drop pos.toNat) := by
  have hl : vs.length = L.length := by rw [strs_len h.txt, List.length_map]
  obtain ⟨s1, s2⟩ := bisP_spec (fun k => !decide (P 1 i < portAt L k)) _ 0 vs.length (Nat.le_refl _) (fun a b h0 h1 h2 h3 => bis_mono h.srt a b h0 h1 (by rw [← hl]; exact h2) h3)
  have hb := (bisP_range (fun k => !decide (P 1 i < portAt L k)) _ 0 vs.length (Nat.le_refl _))
  have hb0 := hb.1
  rw [← hpos] at s1 s2 hb0
  have small : ∀ y ∈ L, y.k = 1 ∧ y.i < i := fun y hy => by
    have := h.prm.mem_iff.mp hy
    simp only [List.mem_map, List.mem_range] at this
    obtain ⟨j, hj, rfl⟩ := this
    exact ⟨rfl, hj⟩
  refine ⟨⟨strs_ins (x := ⟨P 1 i, 1, i⟩) h.txt, tri_insert h.srt (fun y hy => ?_) (fun y hy => ?_), fun y hy => ?_⟩, ?_⟩
  · obtain ⟨j, hj, e⟩ := mem_take_get hy
    have := s1 j (by lia) (by lia)
    rw [Bool.not_eq_true', decide_eq_false_iff_not, portAt_eq e] at this
    have sm := small y (List.mem_of_getElem? e)
    unfold Tri.lt
    dsimp only
    lia
  · obtain ⟨j, hj, e⟩ := mem_drop_get hy
    have hjl := (List.getElem?_eq_some_iff.mp e).1
    have := s2 j (by lia) (by lia)
    rw [Bool.not_eq_false', decide_eq_true_eq, portAt_eq e] at this
    exact .inl this
  · have := tri_insert_perm.mem_iff.mp hy
    rcases List.mem_cons.mp this with rfl | hy
    · rfl
    · exact h.prt y hy
  · refine tri_insert_perm.trans ?_
    rw [List.range_succ, List.map_append]
    exact (List.Perm.cons _ h.prm).trans (List.perm_append_singleton _ _).symm
/-- the second row after the insertions of n - 1 down to i -/
structure RowL (T : Nat → Nat → Str) (P : Nat → Nat → Int) (n i : Nat) (L : List Tri) (vs : List Value) : Prop extends RowIs T P L vs where
  prm : L.Perm ((List.range' i (n - i)).map fun j => ⟨P 0 j, 0, j⟩)
theorem RowL.snoc {T : Nat → Nat → Str} {P : Nat → Nat → Int} {n i : Nat} {L : List Tri} {vs : List Value} {t : Tok} (h : RowL T P n (i + 1) L vs) (hi : i < n) {pos : Int} (hpos : pos = (bisP (fun k => decide (portAt L k < P 0 i)) 0 vs.length).1) :
    RowL T P n i (L.take pos.toNat ++ ⟨P 0 i, 0, i⟩ :: L.drop pos.toNat) (vs.take pos.toNat ++ .str (T 0 i) t :: vs.drop pos.toNat) := by
  have hl : vs.length = L.length := by rw [strs_len h.txt, List.length_map]
  obtain ⟨s1, s2⟩ := bisP_spec (fun k => decide (portAt L k < P 0 i)) _ 0 vs.length (Nat.le_refl _) (fun a b h0 h1 h2 h3 => bis_mono2 h.srt a b h0 h1 (by rw [← hl]; exact h2) h3)
  have hb := (bisP_range (fun k => decide (portAt L k < P 0 i)) _ 0 vs.length (Nat.le_refl _))
  have hb0 := hb.1
  rw [← hpos] at s1 s2 hb0
  have small : ∀ y ∈ L, y.k = 0 ∧ i < y.i := fun y hy => by
    have := h.prm.mem_iff.mp hy
    simp only [List.mem_map, List.mem_range'_1] at this
    obtain ⟨j, hj, rfl⟩ := this
    exact ⟨rfl, by dsimp only; lia⟩
  refine ⟨⟨strs_ins (x := ⟨P 0 i, 0, i⟩) h.txt, tri_insert h.srt (fun y hy => ?_) (fun y hy => ?_), fun y hy => ?_⟩, ?_⟩
  · obtain ⟨j, hj, e⟩ := mem_take_get hy
    have := s1 j (by lia) (by lia)
    rw [decide_eq_true_eq, portAt_eq e] at this
    exact .inl this
  · obtain ⟨j, hj, e⟩ := mem_drop_get hy
    have hjl := (List.getElem?_eq_some_iff.mp e).1
    have := s2 j (by lia) (by lia)
    rw [decide_eq_false_iff_not, portAt_eq e] at this
    have sm := small y (List.mem_of_getElem? e)
    unfold Tri.lt
    dsimp only
    lia
  · have := tri_insert_perm.mem_iff.mp hy
    rcases List.mem_cons.mp this with rfl | hy
    · rfl
    · exact h.prt y hy
  · refine tri_insert_perm.trans ?_
    rw [show n - i = (n - (i + 1)) + 1 by lia, List.range'_succ]
    exact List.Perm.cons _ h.prm
end Mine
namespace Mine
/-- texts and ports of the two rows -/
noncomputable def txtOf (ns : List Int) (S : Int) (k i : Nat) : Str := if k = 0 then repsOf "b" ns 6 S i else repsOf "a" ns 2 S i
noncomputable def prtOf (ns : List Int) (S : Int) (k i : Nat) : Int := if k = 0 then portsOf ns 6 S i else portsOf ns 2 S i
/-- the loop that fills the first row -/
noncomputable def InsJ (T : Nat → Nat → Str) (P : Nat → Nat → Int) (D : Addr) (fixed : List (Addr × Obj)) (m₀ : Str → Option Value) (i : Nat) (m : Str → Option Value) (nx : List (Addr × Obj)) : Prop :=
  ∃ L vs nl, nx = (D, lstO vs nl) :: fixed ∧ RowR T P i L vs ∧ m (Str.ofString "first") = some (.ref D) ∧ ∀ z, z ≠ Str.ofString "reply" → z ≠ Str.ofString "first" → m z = m₀ z
theorem ins_fr {x : String} {h₀ h : Heap} {L : Addr} {m₁ m₀ : Str → Option Value} {v k1 : Value} (e1 : m₁ (Str.ofString x) = some k1) (hr : ∀ z, z ≠ Str.ofString "reply" → z ≠ Str.ofString x → m₁ z = m₀ z)
    (F : Fr h₀ L h (fun y => if y = Str.ofString "reply" then some v else m₁ y)) : Fr h₀ L h (fun y => if y = Str.ofString "reply" then some v else if y = Str.ofString x then some k1 else m₀ y) := by
  have e : (fun y => if y = Str.ofString "reply" then some v else m₁ y) = fun y => if y = Str.ofString "reply" then some v else if y = Str.ofString x then some k1 else m₀ y := by
    funext y
    by_cases h1 : y = Str.ofString "reply"
    · rw [if_pos h1, if_pos h1]
    · rw [if_neg h1, if_neg h1]
      by_cases h2 : y = Str.ofString x
      · rw [if_pos h2, h2, e1]
      · rw [if_neg h2, hr y h1 h2]
  rw [← e]
  exact F
theorem rowR_zero (T : Nat → Nat → Str) (P : Nat → Nat → Int) : RowR T P 0 [] [] := ⟨⟨.nil, .nil, fun _ h => nomatch h⟩, .nil⟩
theorem rowL_zero (T : Nat → Nat → Str) (P : Nat → Nat → Int) (n : Nat) : RowL T P n n [] [] := ⟨⟨.nil, .nil, fun _ h => nomatch h⟩, by rw [Nat.sub_self]; exact .nil⟩
theorem rowR_good {ns : List Int} {S : Int} {i : Nat} {L : List Tri} {vs : List Value} (h : RowR (txtOf ns S) (prtOf ns S) i L vs) (hi : i ≤ 9) (h4 : 4 ≤ S) (h5 : S ≤ 2000001) : ∀ x ∈ L, Good (txtOf ns S x.k x.i) x.p := fun x hx => by
  have := h.prm.mem_iff.mp hx
  simp only [List.mem_map, List.mem_range] at this
  obtain ⟨j, hj, rfl⟩ := this
  exact good_reps (.inl rfl) (by show j < 9; lia) h4 h5
theorem rowL_good {ns : List Int} {S : Int} {n i : Nat} {L : List Tri} {vs : List Value} (h : RowL (txtOf ns S) (prtOf ns S) n i L vs) (hi : n ≤ 9) (h4 : 4 ≤ S) (h5 : S ≤ 2000001) : ∀ x ∈ L, Good (txtOf ns S x.k x.i) x.p := fun x hx => by
  have := h.prm.mem_iff.mp hx
  simp only [List.mem_map, List.mem_range'_1] at this
  obtain ⟨j, hj, rfl⟩ := this
  exact good_reps (.inr rfl) (by show j < 9; lia) h4 h5
theorem rowR_len {T : Nat → Nat → Str} {P : Nat → Nat → Int} {i : Nat} {L : List Tri} {vs : List Value} (h : RowR T P i L vs) : vs.length = i ∧ L.length = i := by
  have h1 := strs_len h.txt
  have h2 := h.prm.length_eq
  simp only [List.length_map, List.length_range] at h1 h2
  lia
theorem rowL_len {T : Nat → Nat → Str} {P : Nat → Nat → Int} {n i : Nat} {L : List Tri} {vs : List Value} (h : RowL T P n i L vs) : vs.length = n - i ∧ L.length = n - i := by
  have h1 := strs_len h.txt
  have h2 := h.prm.length_eq
  simp only [List.length_map, List.length_range'] at h1 h2
  lia
theorem sub_swap' {α : Type} (a b : α) (l : List α) : ∀ p ∈ b :: a :: l, p ∈ a :: b :: l := by
  intro p hp
  rcases List.mem_cons.mp hp with rfl | hp
  · exact .tail _ (.head _)
  · rcases List.mem_cons.mp hp with rfl | hp
    · exact .head _
    · exact .tail _ (.tail _ hp)
/-- the end of a turn that inserts -/
theorem ins_end {h₀ h' : Heap} {L I D : Addr} {oI : Obj} {s : Shared} {Q : Flow → Shared → Prop} {J : Nat → (Str → Option Value) → List (Addr × Obj) → Prop} {i tk : Nat} {m' : Str → Option Value} {vs : List Value} {nl : Nat} {fixed : List (Addr × Obj)}
    (F : Fr h₀ L h' m') (N : News h₀ L h' ((D, lstO vs nl) :: (I, oI) :: fixed)) (off : ∀ p ∈ (D, lstO vs nl) :: fixed, p.1 ≠ I) (hJ : J i m' ((D, lstO vs nl) :: fixed)) :
    ForPost h₀ L I oI (J i) s Q .next { s with heap := h', toks := tk } :=
  ⟨h', tk, m', _, rfl, F, news_sub N (sub_swap' _ _ _), off, hJ⟩
/-- all lie below d -/
noncomputable def Under (d : Addr) (R : List (Addr × Obj)) : Prop := ∀ p ∈ R, p.1 < d
theorem under_of {d : Addr} {R : List (Addr × Obj)} (h : ∀ p ∈ R, @LT.lt Nat _ p.1 d) : Under d R := h
theorem Under.ne {d : Addr} {R : List (Addr × Obj)} (h : Under d R) : ∀ p ∈ R, p.1 ≠ d := fun p hp => Nat.ne_of_lt (h p hp)
theorem ins_ne {D I : Addr} {oD oI : Obj} {R : List (Addr × Obj)} (h : Under D R) (off : ∀ p ∈ (D, oD) :: R, p.1 ≠ I) : ∀ q ∈ (I, oI) :: R, q.1 ≠ D := fun q hq => by
  rcases List.mem_cons.mp hq with rfl | hq
  · exact Ne.symm (off _ (.head _))
  · exact h.ne q hq
theorem off_set {D I : Addr} {oD oD' : Obj} {R : List (Addr × Obj)} (off : ∀ p ∈ (D, oD) :: R, p.1 ≠ I) : ∀ p ∈ (D, oD') :: R, p.1 ≠ I := fun q hq => by
  rcases List.mem_cons.mp hq with rfl | hq
  · exact off (D, oD) (.head _)
  · exact off q (.tail _ hq)
end Mine
namespace Mine
/-- the loop that fills the second row -/
noncomputable def InlJ (T : Nat → Nat → Str) (P : Nat → Nat → Int) (n : Nat) (D : Addr) (fixed : List (Addr × Obj)) (m₀ : Str → Option Value) (i : Nat) (m : Str → Option Value) (nx : List (Addr × Obj)) : Prop :=
  i ≤ n ∧ ∃ L vs nl, nx = (D, lstO vs nl) :: fixed ∧ RowL T P n (n - i) L vs ∧ m (Str.ofString "second") = some (.ref D) ∧ ∀ z, z ≠ Str.ofString "reply" → z ≠ Str.ofString "second" → m z = m₀ z
theorem TxtsAre.rev {T : Nat → Str} {n : Nat} {ys : List Value} {v : Value} {i : Nat} (h : TxtsAre T n ys) (hv : ys.reverse[i]? = some v) : i < n ∧ ∃ t, v = .str (T (n - (i + 1))) t := by
  have hi := (List.getElem?_eq_some_iff.mp hv).1
  rw [List.length_reverse, h.1] at hi
  rw [List.getElem?_reverse (by rw [h.1]; exact hi), h.1] at hv
  obtain ⟨t, e⟩ := h.2 (n - 1 - i) (by lia)
  rw [e] at hv
  cases hv
  exact ⟨hi, t, by rw [show n - (i + 1) = n - 1 - i by lia]⟩
theorem rev_ne {D R : Addr} {oD oR : Obj} {l : List (Addr × Obj)} (h : Under R ((D, oD) :: l)) (h2 : Under D l) : ∀ q ∈ (R, oR) :: l, q.1 ≠ D := fun q hq => by
  rcases List.mem_cons.mp hq with rfl | hq
  · exact Nat.ne_of_gt (h _ (.head _))
  · exact h2.ne q hq
theorem ins_ne2 {D I : Addr} {oD oI : Obj} {R : List (Addr × Obj)} (h : ∀ q ∈ R, q.1 ≠ D) (off : ∀ p ∈ (D, oD) :: R, p.1 ≠ I) : ∀ q ∈ (I, oI) :: R, q.1 ≠ D := fun q hq => by
  rcases List.mem_cons.mp hq with rfl | hq
  · exact Ne.symm (off _ (.head _))
  · exact h q hq
end Mine
namespace Mine
/-- what a sort's tree ends in, the questions answered by lt -/
noncomputable def okT (lt : Nat → Nat → Bool) (n : Nat) {α : Type} (P : α → Prop) : KasT α → Prop
  | .ret a => P a
  | .ask i j k => i < n ∧ j < n ∧ okT lt n P (k (lt i j))
theorem okT_mono {lt : Nat → Nat → Bool} {n : Nat} {α : Type} {P P' : α → Prop} (h : ∀ a, P a → P' a) : ∀ t : KasT α, okT lt n P t → okT lt n P' t
  | .ret a, x => h a x
  | .ask _ _ k, ⟨a, b, c⟩ => ⟨a, b, okT_mono h (k _) c⟩
theorem okT_bind {lt : Nat → Nat → Bool} {n : Nat} {α β : Type} {P : β → Prop} {f : α → KasT β} : ∀ t : KasT α, okT lt n (fun a => okT lt n P (f a)) t → okT lt n P (t.bind f)
  | .ret _, x => x
  | .ask _ _ k, ⟨a, b, c⟩ => ⟨a, b, okT_bind (k _) c⟩
theorem okT_wp {lt : Nat → Nat → Bool} {n : Nat} {α : Type} {P : α → Prop} {cmp : Nat → Nat → (Bool → Shared → Prop) → Shared → Prop} {Q : α → Shared → Prop} (I : Shared → Prop)
    (hask : ∀ i j C s, i < n → j < n → I s → (∀ s', I s' → C (lt i j) s') → cmp i j C s) (hQ : ∀ a s', P a → I s' → Q a s') : ∀ (t : KasT α) (s : Shared), okT lt n P t → I s → t.kasWp cmp Q s
  | .ret _, s, x, hI => hQ _ s x hI
  | .ask i j k, s, ⟨a, b, c⟩, hI => hask i j _ s a b hI fun s' hI' => okT_wp I hask hQ (k _) s' c hI'
structure TotLt (lt : Nat → Nat → Bool) (n : Nat) : Prop where
  tr : ∀ i j k, lt i j = true → lt j k = true → lt i k = true
  tot : ∀ i j, i < n → j < n → i ≠ j → lt i j = false → lt j i = true
  asy : ∀ i j, lt i j = true → lt j i = false
noncomputable abbrev ga (p : Array Nat) (i : Nat) : Nat := p.getD i 0
noncomputable def IsP (n : Nat) (p : Array Nat) : Prop := p.toList.Perm (List.range n)
noncomputable def Srt (lt : Nat → Nat → Bool) (p : Array Nat) (k : Nat) : Prop := ∀ i j, i < j → j < k → lt (ga p i) (ga p j) = true
noncomputable def Dsc (lt : Nat → Nat → Bool) (p : Array Nat) (k : Nat) : Prop := ∀ i j, i < j → j < k → lt (ga p j) (ga p i) = true
section
variable {lt : Nat → Nat → Bool} {n : Nat} {p : Array Nat}
theorem IsP.size (h : IsP n p) : p.size = n := by
  have := h.length_eq
  rw [List.length_range, Array.length_toList] at this
  exact this
theorem ga_at {i : Nat} (h : i < p.size) : p.toList[i]? = some (ga p i) := by
  rw [Array.getElem?_toList]
  simp [ga, Array.getD, h]
theorem IsP.lt_n (h : IsP n p) {i : Nat} (hi : i < n) : ga p i < n := by
  have e := ga_at (p := p) (i := i) (by rw [h.size]; exact hi)
  exact List.mem_range.mp (h.mem_iff.mp (List.mem_of_getElem? e))
theorem IsP.inj (h : IsP n p) {i j : Nat} (hi : i < n) (hj : j < n) (hij : i ≠ j) : ga p i ≠ ga p j := by
  have nd : p.toList.Nodup := h.nodup_iff.mpr List.nodup_range
  have ei := ga_at (p := p) (i := i) (by rw [h.size]; exact hi)
  have ej := ga_at (p := p) (i := j) (by rw [h.size]; exact hj)
  intro e
  rw [← e, ← ei] at ej
  exact hij ((List.getElem?_inj (by rw [Array.length_toList, h.size]; exact hi) nd).mp ej.symm)
theorem Srt.snoc (T : TotLt lt n) {m : Nat} (h : Srt lt p m) (hl : lt (ga p (m - 1)) (ga p m) = true) (h1 : 1 ≤ m) : Srt lt p (m + 1) := by
  intro i j hij hj
  by_cases e : j < m
  · exact h i j hij e
  · obtain rfl : j = m := by lia
    by_cases e2 : i = j - 1
    · rw [e2]; exact hl
    · exact T.tr _ _ _ (h i (j - 1) (by lia) (by lia)) hl
theorem Dsc.snoc (T : TotLt lt n) {m : Nat} (h : Dsc lt p m) (hl : lt (ga p m) (ga p (m - 1)) = true) (h1 : 1 ≤ m) : Dsc lt p (m + 1) := by
  intro i j hij hj
  by_cases e : j < m
  · exact h i j hij e
  · obtain rfl : j = m := by lia
    by_cases e2 : i = j - 1
    · rw [e2]; exact hl
    · exact T.tr _ _ _ hl (h i (j - 1) (by lia) (by lia))
theorem asc_ok (T : TotLt lt n) (hp : IsP n p) : ∀ (f m : Nat), 1 ≤ m → m + f ≤ n → Srt lt p m → okT lt n (fun r => m ≤ r ∧ r ≤ m + f ∧ Srt lt p r ∧ (r = m + f ∨ lt (ga p r) (ga p (r - 1)) = true)) (kas_asc p f m)
  | 0, m, _, _, hs => ⟨Nat.le_refl _, Nat.le_refl _, hs, .inl rfl⟩
  | f + 1, m, h1, h2, hs => by
    refine ⟨hp.lt_n (by lia), hp.lt_n (by lia), ?_⟩
    cases e : lt (ga p m) (ga p (m - 1)) with
    | true =>
      exact ⟨Nat.le_refl _, by lia, hs, .inr e⟩
    | false =>
      show okT lt n _ (kas_asc p f (m + 1))
      refine okT_mono (fun r hr => ?_) _ (asc_ok T hp f (m + 1) (by lia) (by lia) (hs.snoc T (T.tot _ _ (hp.lt_n (by lia)) (hp.lt_n (by lia)) (hp.inj (by lia) (by lia) (by lia)) e) h1))
      obtain ⟨a, b, c, d⟩ := hr
      exact ⟨by lia, by lia, c, d.imp (fun h => by lia) id⟩
theorem desc_ok (T : TotLt lt n) (hp : IsP n p) : ∀ (f m : Nat), 1 ≤ m → m + f ≤ n → Dsc lt p m → okT lt n (fun r => r.1 = p ∧ r.2.2 = 0 ∧ m ≤ r.2.1 ∧ r.2.1 ≤ m + f ∧ Dsc lt p r.2.1) (kas_desc f p m 0)
  | 0, m, _, _, hs => ⟨rfl, rfl, Nat.le_refl _, Nat.le_refl _, hs⟩
  | f + 1, m, h1, h2, hs => by
    refine ⟨hp.lt_n (by lia), hp.lt_n (by lia), ?_⟩
    cases e : lt (ga p m) (ga p (m - 1)) with
    | true =>
      show okT lt n _ (kas_desc f p (m + 1) 0)
      refine okT_mono (fun r hr => ?_) _ (desc_ok T hp f (m + 1) (by lia) (by lia) (hs.snoc T e h1))
      obtain ⟨a, b, c, d, e⟩ := hr
      exact ⟨a, b, by lia, by lia, e⟩
    | false =>
      refine ⟨hp.lt_n (by lia), hp.lt_n (by lia), ?_⟩
      have e2 := T.tot _ _ (hp.lt_n (by lia)) (hp.lt_n (by lia)) (hp.inj (by lia) (by lia) (by lia)) e
      show okT lt n _ (if lt (ga p (m - 1)) (ga p m) = true then _ else _)
      rw [if_pos e2]
      exact ⟨rfl, rfl, Nat.le_refl _, by show m ≤ m + (f + 1); lia, hs⟩
theorem ga_rev {m : Nat} (hm : m ≤ p.size) (i : Nat) : ga (kas_rev p 0 m) i = if i < m then ga p (m - 1 - i) else ga p i := by
  unfold kas_rev ga
  rw [Array.getD_eq_getD_getElem?, getElem?_mirror_all hm]
  by_cases h : i < m
  · rw [if_pos ⟨Nat.zero_le _, h⟩, if_pos h, Nat.zero_add, Array.getD_eq_getD_getElem?]
  · rw [if_neg (fun q => h q.2), if_neg h, Array.getD_eq_getD_getElem?]
theorem isP_rev (hp : IsP n p) {m : Nat} : IsP n (kas_rev p 0 m) := (Array.perm_iff_toList_perm.mp (mirror_perm p 0 m _)).trans hp
theorem srt_rev (hp : IsP n p) {m : Nat} (hm : m ≤ n) (h : Dsc lt p m) : Srt lt (kas_rev p 0 m) m := by
  intro i j hij hj
  rw [ga_rev (by rw [hp.size]; exact hm), ga_rev (by rw [hp.size]; exact hm), if_pos (by lia), if_pos hj]
  exact h _ _ (by lia) (by lia)
/-- a run's answer: how many stand in order, and the order -/
noncomputable def RunOk (lt : Nat → Nat → Bool) (n : Nat) (r : Nat × Array Nat) : Prop := r.1 ≤ n ∧ 1 ≤ r.1 ∧ IsP n r.2 ∧ Srt lt r.2 r.1
theorem tail3_ok (T : TotLt lt n) (hp : IsP n p) {m : Nat} (h1 : 1 ≤ m) (hm : m ≤ n) (h : Dsc lt p m) : okT lt n (RunOk lt n) (kas_tail3 m n p) := by
  refine okT_bind _ (okT_mono (fun r hr => ?_) _ (asc_ok T (isP_rev hp) (n - m) m h1 (by lia) (srt_rev hp hm h)))
  obtain ⟨a, b, c, _⟩ := hr
  exact ⟨by show r ≤ n; lia, by show 1 ≤ r; lia, isP_rev hp, c⟩
theorem descPart_ok (T : TotLt lt n) (hp : IsP n p) (h2 : 2 ≤ n) (h : Dsc lt p 2) : okT lt n (RunOk lt n) (kas_descPart 1 n p) := by
  refine okT_bind _ (okT_mono (fun r hr => ?_) _ (desc_ok T hp (n - (1 + 1)) 2 (by lia) (by lia) h))
  obtain ⟨r1, r2, r3⟩ := r
  obtain ⟨a, b, c, d, e⟩ := hr
  dsimp only at a b c d e
  subst a
  subst b
  show okT lt n _ (if (0 : Nat) > 0 then _ else kas_tail3 r2 n r1)
  rw [if_neg (by lia)]
  exact tail3_ok T hp (by lia) (by lia) e
theorem count_ok (T : TotLt lt n) (hp : IsP n p) (h2 : 2 ≤ n) : okT lt n (RunOk lt n) (kas_count n p) := by
  refine okT_bind _ (okT_mono (fun r hr => ?_) _ (asc_ok T hp (n - 1) 1 (by lia) (by lia) (fun i j hij hj => by lia)))
  obtain ⟨a, b, c, d⟩ := hr
  by_cases e : (r == n) = true
  · rw [if_pos e]
    exact ⟨by show r ≤ n; lia, a, hp, c⟩
  · rw [if_neg e]
    have e' : r ≠ n := fun q => e (by rw [q]; simp)
    have hl : lt (ga p r) (ga p (r - 1)) = true := d.resolve_left (by lia)
    by_cases h1 : r > 1
    · rw [if_pos h1]
      refine ⟨hp.lt_n (by lia), hp.lt_n (by lia), ?_⟩
      have q := c 0 (r - 1) (by lia) (by lia)
      show okT lt n _ (if lt (ga p 0) (ga p (r - 1)) = true then _ else _)
      rw [if_pos q]
      exact ⟨by show r ≤ n; lia, a, hp, c⟩
    · rw [if_neg h1]
      obtain rfl : r = 1 := by lia
      refine descPart_ok T hp h2 fun i j hij hj => ?_
      obtain rfl : i = 0 := by lia
      obtain rfl : j = 1 := by lia
      exact hl
theorem place_ok (T : TotLt lt n) (hp : IsP n p) {k : Nat} (hk : k < n) : ∀ (f l r : Nat), l ≤ r → r ≤ k → r - l ≤ f → Srt lt p k → (∀ i, i < l → lt (ga p i) (ga p k) = true) → (∀ i, r ≤ i → i < k → lt (ga p k) (ga p i) = true) →
    okT lt n (fun x => x ≤ k ∧ (∀ i, i < x → lt (ga p i) (ga p k) = true) ∧ ∀ i, x ≤ i → i < k → lt (ga p k) (ga p i) = true) (kas_place p k f l r)
  | 0, l, r, h1, h2, h3, hs, ha, hb => ⟨by lia, ha, fun i h4 h5 => hb i (by lia) h5⟩
  | f + 1, l, r, h1, h2, h3, hs, ha, hb => by
    unfold kas_place
    by_cases e : l ≥ r
    · rw [if_pos e]
      exact ⟨by lia, ha, fun i h4 h5 => hb i (by lia) h5⟩
    · rw [if_neg e]
      refine ⟨hp.lt_n hk, hp.lt_n (by lia), ?_⟩
      cases q : lt (ga p k) (ga p ((l + r) / 2)) with
      | true =>
        show okT lt n _ (kas_place p k f l ((l + r) / 2))
        exact place_ok T hp hk f l ((l + r) / 2) (by lia) (by lia) (by lia) hs ha fun i h4 h5 => by
          by_cases e2 : i = (l + r) / 2
          · rw [e2]; exact q
          · exact T.tr _ _ _ q (hs _ _ (by lia) h5)
      | false =>
        show okT lt n _ (kas_place p k f ((l + r) / 2 + 1) r)
        have q2 := T.tot _ _ (hp.lt_n hk) (hp.lt_n (by lia)) (hp.inj hk (by lia) (by lia)) q
        exact place_ok T hp hk f ((l + r) / 2 + 1) r (by lia) h2 (by lia) hs (fun i h4 => by
          by_cases e2 : i = (l + r) / 2
          · rw [e2]; exact q2
          · exact T.tr _ _ _ (hs _ _ (by lia) (by lia)) q2) hb
theorem ga_bubble {k l : Nat} (hk : k < p.size) (hl : l ≤ k) (i : Nat) : ga (bubble p k (k - l)) i = if i = l then ga p k else if l < i ∧ i ≤ k then ga p (i - 1) else ga p i := by
  unfold ga
  rw [Array.getD_eq_getD_getElem?, getElem?_bubble hk _ (by lia), show k - (k - l) = l by lia]
  by_cases h : i = l
  · rw [if_pos h, if_pos h, Array.getD_eq_getD_getElem?]
  · rw [if_neg h, if_neg h]
    by_cases h2 : l < i ∧ i ≤ k
    · rw [if_pos h2, if_pos h2, Array.getD_eq_getD_getElem?]
    · rw [if_neg h2, if_neg h2, Array.getD_eq_getD_getElem?]
theorem bin_ok (T : TotLt lt n) : ∀ (f : Nat) (p : Array Nat) (k : Nat), IsP n p → k + f = n → Srt lt p k → okT lt n (fun q => IsP n q ∧ Srt lt q n) (kas_bin f p k)
  | 0, p, k, hp, e, hs => ⟨hp, by rw [← e]; exact hs⟩
  | f + 1, p, k, hp, e, hs => by
    refine okT_bind _ (okT_mono (fun l hl => ?_) _ (place_ok T hp (k := k) (by lia) k 0 k (by lia) (by lia) (by lia) hs (fun i h => absurd h (Nat.not_lt_zero i)) (fun i h1 h2 => by lia)))
    obtain ⟨h1, h2, h3⟩ := hl
    have hk : k < p.size := by rw [hp.size]; lia
    refine bin_ok T f _ (k + 1) ((Array.perm_iff_toList_perm.mp (bubble_perm p k (k - l))).trans hp) (by lia) fun i j hij hj => ?_
    rw [ga_bubble hk h1, ga_bubble hk h1]
    by_cases a : i = l
    · rw [if_pos a, if_neg (by lia), if_pos (by lia)]
      exact h3 _ (by lia) (by lia)
    · rw [if_neg a]
      by_cases b : j = l
      · rw [if_pos b, if_neg (by lia)]
        exact h2 _ (by lia)
      · rw [if_neg b]
        by_cases c : l < i ∧ i ≤ k
        · rw [if_pos c, if_pos (by lia)]
          exact hs _ _ (by lia) (by lia)
        · rw [if_neg c]
          by_cases d : l < j ∧ j ≤ k
          · rw [if_pos d]
            by_cases g : i = j - 1
            · lia
            · exact hs _ _ (by lia) (by lia)
          · rw [if_neg d]
            exact hs _ _ hij (by lia)
theorem isP_range (n : Nat) : IsP n (List.toArray (List.range n)) := by unfold IsP; exact List.Perm.refl _
theorem sort_ok (T : TotLt lt n) (h2 : 2 ≤ n) : okT lt n (fun q => IsP n q ∧ Srt lt q n) (kas_sort n) := by
  refine okT_bind _ (okT_mono (fun r hr => ?_) _ (count_ok T (isP_range n) h2))
  obtain ⟨a, b, c, d⟩ := hr
  by_cases e : r.1 < n
  · rw [if_pos e, Nat.max_eq_left b]
    exact bin_ok T _ _ _ c (by lia) d
  · rw [if_neg e]
    exact ⟨c, by rw [show n = r.1 by lia]; exact d⟩
end
end Mine
namespace Mine
/-- the tuples of the things stand in R -/
noncomputable def TriIn (L : List Tri) (R : List (Addr × Obj)) (vs : List Value) : Prop :=
  vs.length = L.length ∧ ∀ (j : Nat) x, L[j]? = some x → ∃ a t1 t2 t3, vs[j]? = some (.ref a) ∧ (a, tupO [.int x.p t1, .int (x.k : Int) t2, .int (x.i : Int) t3]) ∈ R
theorem TriIn.mono {L : List Tri} {R R' : List (Addr × Obj)} {vs : List Value} (h : TriIn L R vs) (k : ∀ p ∈ R, p ∈ R') : TriIn L R' vs := ⟨h.1, fun j x e => by
  obtain ⟨a, t1, t2, t3, h1, h2⟩ := h.2 j x e
  exact ⟨a, t1, t2, t3, h1, k _ h2⟩⟩
theorem TriIn.append {L L' : List Tri} {R : List (Addr × Obj)} {vs vs' : List Value} (h : TriIn L R vs) (h' : TriIn L' R vs') : TriIn (L ++ L') R (vs ++ vs') := by
  refine ⟨by rw [List.length_append, List.length_append, h.1, h'.1], fun j x e => ?_⟩
  by_cases hj : j < L.length
  · rw [List.getElem?_append_left hj] at e
    obtain ⟨a, t1, t2, t3, h1, h2⟩ := h.2 j x e
    exact ⟨a, t1, t2, t3, by rw [List.getElem?_append_left (by rw [h.1]; exact hj)]; exact h1, h2⟩
  · rw [List.getElem?_append_right (by lia)] at e
    obtain ⟨a, t1, t2, t3, h1, h2⟩ := h'.2 _ x e
    exact ⟨a, t1, t2, t3, by rw [List.getElem?_append_right (by rw [h.1]; lia), h.1]; exact h1, h2⟩
noncomputable def Tri.ltB (x y : Tri) : Bool := decide (x.p < y.p) || (decide (x.p = y.p) && (decide (x.k < y.k) || (decide (x.k = y.k) && decide (x.i < y.i))))
theorem Tri.ltB_iff {x y : Tri} : x.ltB y = true ↔ x.lt y := by unfold Tri.ltB Tri.lt; simp
noncomputable def tri0 : Tri := ⟨0, 0, 0⟩
noncomputable def ltOf (L : List Tri) (i j : Nat) : Bool := (L.getD i tri0).ltB (L.getD j tri0)
/-- no two alike -/
noncomputable def Apart (L : List Tri) : Prop := ∀ (i j : Nat) x y, L[i]? = some x → L[j]? = some y → i ≠ j → x.k ≠ y.k ∨ x.i ≠ y.i
theorem tot_of {L : List Tri} (h : Apart L) : TotLt (ltOf L) L.length where
  tr i j k h1 h2 := by
    unfold ltOf at *
    rw [Tri.ltB_iff] at *
    exact Tri.lt_trans h1 h2
  tot i j hi hj hij h1 := by
    unfold ltOf at *
    have hx : L[i]? = some (L.getD i tri0) := by rw [List.getD_eq_getElem?_getD, List.getElem?_eq_getElem hi]; rfl
    have hy : L[j]? = some (L.getD j tri0) := by rw [List.getD_eq_getElem?_getD, List.getElem?_eq_getElem hj]; rfl
    have q := h i j _ _ hx hy hij
    generalize L.getD i tri0 = x at *
    generalize L.getD j tri0 = y at *
    rw [Tri.ltB_iff]
    have h1' : ¬ x.lt y := fun z => by rw [Tri.ltB_iff.mpr z] at h1; cases h1
    unfold Tri.lt at *
    lia
  asy i j h1 := by
    unfold ltOf at *
    have := Tri.lt_asymm (Tri.ltB_iff.mp h1)
    cases e : (L.getD j tri0).ltB (L.getD i tri0) with
    | false => rfl
    | true => exact absurd (Tri.ltB_iff.mp e) this
theorem tups_of {h₀ h : Heap} {L : Addr} {R : List (Addr × Obj)} (N : News h₀ L h R) : ∀ (Ls : List Tri) (vs : List Value), TriIn Ls R vs → ∃ fs, KatTups h vs fs ∧ fs.length = Ls.length ∧ ∀ v ∈ fs, ∃ z t, v = .int z t
  | [], [], _ => ⟨[], .nil, rfl, fun _ h => nomatch h⟩
  | [], _ :: _, h => absurd h.1 (by simp)
  | _ :: _, [], h => absurd h.1 (by simp)
  | x :: r, v :: q, h => by
    obtain ⟨a, t1, t2, t3, h1, h2⟩ := h.2 0 x rfl
    obtain ⟨fs, k1, k2, k3⟩ := tups_of N r q ⟨by simpa using h.1, fun j y e => by simpa using h.2 (j + 1) y (by simpa using e)⟩
    have e : v = .ref a := by simpa using h1
    subst e
    refine ⟨.int x.p t1 :: fs, KatTups.cons (N _ h2).1 rfl rfl rfl k1, by simp [k2], fun w hw => ?_⟩
    rcases List.mem_cons.mp hw with rfl | hw
    · exact ⟨_, _, rfl⟩
    · exact k3 w hw
section
variable {prog : Program} {w : World} {A : Around} {E : Value → Shared → Prop} {s : Shared} {h₀ : Heap} {L l : Addr} {m : Str → Option Value} {news R : List (Addr × Obj)} {vs : List Value} {Ls : List Tri}
theorem ask_tri (N : News h₀ L s.heap R) (H : TriIn Ls R vs) {i j : Nat} (hi : i < Ls.length) (hj : j < Ls.length) {C : Bool → Shared → Prop} (h : C (ltOf Ls i j) s) : kas_ask prog w A (tuples' true) vs i j C s := by
  have hx : Ls[i]? = some (Ls.getD i tri0) := by rw [List.getD_eq_getElem?_getD, List.getElem?_eq_getElem hi]; rfl
  have hy : Ls[j]? = some (Ls.getD j tri0) := by rw [List.getD_eq_getElem?_getD, List.getElem?_eq_getElem hj]; rfl
  obtain ⟨a, t1, t2, t3, e1, m1⟩ := H.2 i _ hx
  obtain ⟨b, u1, u2, u3, e2, m2⟩ := H.2 j _ hy
  unfold ltOf at h
  unfold kas_ask
  generalize Ls.getD i tri0 = x at *
  generalize Ls.getD j tri0 = y at *
  rw [show vs.getD i Value.none = .ref a by rw [List.getD_eq_getElem?_getD, e1]; rfl, show vs.getD j Value.none = .ref b by rw [List.getD_eq_getElem?_getD, e2]; rfl]
  refine kat_lt (N _ m1).1 rfl (N _ m2).1 rfl ?_
  refine kat_cons (wpAny_eqBool_int ?_)
  cases ep : (x.p == y.p) with
  | false =>
    refine kat_no (oneLt_int ?_)
    have ne : x.p ≠ y.p := by simpa using ep
    have : x.ltB y = decide (x.p < y.p) := by unfold Tri.ltB; simp [ne]
    rw [← this]
    exact h
  | true =>
    have he : x.p = y.p := by simpa using ep
    refine kat_yes (kat_cons (wpAny_eqBool_int ?_))
    cases ek : ((x.k : Int) == (y.k : Int)) with
    | false =>
      have ne : x.k ≠ y.k := by intro q; rw [q] at ek; simp at ek
      refine kat_no (kat_one _ _ (wpAny_lt_int ?_))
      have : x.ltB y = decide ((x.k : Int) < (y.k : Int)) := by unfold Tri.ltB; simp [he, ne]
      rw [← this]
      exact h
    | true =>
      have hk : x.k = y.k := Int.ofNat.inj (eq_of_beq ek)
      refine kat_yes (kat_cons (wpAny_eqBool_int ?_))
      cases ei : ((x.i : Int) == (y.i : Int)) with
      | false =>
        have ne : x.i ≠ y.i := by intro q; rw [q] at ei; simp at ei
        refine kat_no (kat_one _ _ (wpAny_lt_int ?_))
        have : x.ltB y = decide ((x.i : Int) < (y.i : Int)) := by unfold Tri.ltB; simp [he, hk]
        rw [← this]
        exact h
      | true =>
        have hii : x.i = y.i := Int.ofNat.inj (eq_of_beq ei)
        refine kat_yes (kat_nil ?_)
        have : x.ltB y = decide ((#[Value.int x.p t1, .int (x.k : Int) t2, .int (x.i : Int) t3] : Array Value).size < (#[Value.int y.p u1, .int (y.k : Int) u2, .int (y.i : Int) u3] : Array Value).size) := by
          unfold Tri.ltB; simp [he, hk, hii]
        rw [this] at h
        exact h
theorem getD_mapp {p : Array Nat} {n i : Nat} (_ : IsP n p) {α : Type} (f : Nat → α) (hi : i < n) : (p.toList.map f)[i]? = some (f (ga p i)) := by
  rw [List.getElem?_map, ga_at (by rw [IsP.size ‹_›]; exact hi)]
  rfl
theorem sorted_of {p : Array Nat} (hp : IsP Ls.length p) (hs : Srt (ltOf Ls) p Ls.length) : (p.toList.map fun i => Ls.getD i tri0).Perm Ls ∧ (p.toList.map fun i => Ls.getD i tri0).Pairwise Tri.lt := by
  constructor
  · refine (List.Perm.map _ hp).trans ?_
    have : (List.range Ls.length).map (fun i => Ls.getD i tri0) = Ls := by
      apply List.ext_getElem?
      intro i
      rw [List.getElem?_map]
      by_cases hi : i < Ls.length
      · rw [List.getElem?_range hi, List.getElem?_eq_getElem hi]
        show some (Ls.getD i tri0) = _
        rw [List.getD_eq_getElem?_getD, List.getElem?_eq_getElem hi]
        rfl
      · rw [List.getElem?_eq_none (l := Ls) (by lia), List.getElem?_eq_none (l := List.range Ls.length) (by rw [List.length_range]; lia)]
        rfl
    rw [this]
  · refine List.pairwise_iff_getElem.mpr fun i j hi hj hij => ?_
    rw [List.length_map, Array.length_toList, hp.size] at hi hj
    have ei := getD_mapp hp (fun i => Ls.getD i tri0) hi
    have ej := getD_mapp hp (fun i => Ls.getD i tri0) hj
    rw [List.getElem?_eq_getElem (by rw [List.length_map, Array.length_toList, hp.size]; lia)] at ei ej
    rw [Option.some.inj ei, Option.some.inj ej]
    exact Tri.ltB_iff.mp (hs i j hij hj)
theorem TriIn.perm {p : Array Nat} (H : TriIn Ls R vs) (hp : IsP Ls.length p) : TriIn (p.toList.map fun i => Ls.getD i tri0) R (p.toList.map fun i => vs.getD i Value.none) := by
  refine ⟨by simp, fun j x e => ?_⟩
  have hj : j < Ls.length := by
    have := (List.getElem?_eq_some_iff.mp e).1
    rw [List.length_map, Array.length_toList, hp.size] at this
    exact this
  have hg := hp.lt_n hj
  rw [getD_mapp hp _ hj] at e
  have e' := Option.some.inj e
  obtain ⟨a, t1, t2, t3, h1, h2⟩ := H.2 (ga p j) x (by rw [← e', List.getD_eq_getElem?_getD, List.getElem?_eq_getElem hg]; rfl)
  refine ⟨a, t1, t2, t3, ?_, h2⟩
  rw [getD_mapp hp _ hj, List.getD_eq_getElem?_getD, h1]
  rfl
/-- sorted, of a list of tuples of three ints, no two alike -/
theorem sorted_tri {n : Nat} {Q : Value → Shared → Prop} (F : Fr h₀ L s.heap m) (N : News h₀ L s.heap news) (hm : (l, lstO vs n) ∈ news) (hR : ∀ p ∈ R, p ∈ news) (H : TriIn Ls R vs) (ha : Apart Ls) (h2 : 2 ≤ Ls.length) (h64 : Ls.length < 64)
    (h : ∀ D h' c Ls' vs', Fr h₀ L h' m → News h₀ L h' ((D, lstO vs' c) :: news) → (∀ q ∈ news, q.1 < D) → TriIn Ls' R vs' → Ls'.Perm Ls → Ls'.Pairwise Tri.lt → Q (.ref D) { s with heap := h' }) :
    wpAny (model prog w) A (call (.builtin "sorted") [.ref l]) Q E s := by
  refine kat_sorted F N (isList_of N hm) (by rw [H.1]; exact h2) (by rw [H.1]; exact h64) fun D e1 h' F' N' hD => ?_
  have NR : News h₀ L h' R := fun p hp => N' p (.tail _ (hR p hp))
  obtain ⟨fs, k1, k2, k3⟩ := tups_of NR Ls vs H
  refine kat_kind k1 (by lia) (T := .type "int") (fun v hv => by obtain ⟨z, t, rfl⟩ := k3 v hv; exact Looks.of_pure rfl) rfl ?_
  show (kas_sort vs.length).kasWp (kas_ask prog w A.in1.in1 (tuples' true) vs) _ _
  rw [H.1]
  refine okT_wp (lt := ltOf Ls) (n := Ls.length) (P := fun q => IsP Ls.length q ∧ Srt (ltOf Ls) q Ls.length) (fun s' => s' = { s with heap := h' }) ?_ ?_ _ _ (sort_ok (tot_of ha) h2) rfl
  · rintro i j C s' hi hj rfl hC
    exact ask_tri NR H hi hj (hC _ rfl)
  · rintro p s' ⟨hp, hs⟩ rfl
    obtain ⟨s1, s2⟩ := sorted_of hp hs
    exact KasFin.intro F' N' (.head fun q hq => Nat.ne_of_lt (hD q hq)) fun h9 c F9 N9 => h D h9 c _ _ F9 N9 hD (H.perm hp) s1 s2
end
end Mine
namespace Mine
/-- the things of a row, in their order -/
noncomputable def trisOf (P : Nat → Int) (k i : Nat) : List Tri := (List.range i).map fun j => ⟨P j, k, j⟩
theorem trisOf_len (P : Nat → Int) (k i : Nat) : (trisOf P k i).length = i := by unfold trisOf; rw [List.length_map, List.length_range]
theorem trisOf_at {P : Nat → Int} {k n i : Nat} {x : Tri} (h : (trisOf P k n)[i]? = some x) : i < n ∧ x = ⟨P i, k, i⟩ := by
  unfold trisOf at h
  rw [List.getElem?_map] at h
  by_cases hi : i < n
  · rw [List.getElem?_range hi] at h
    exact ⟨hi, (Option.some.inj h).symm⟩
  · rw [List.getElem?_eq_none (by rw [List.length_range]; lia)] at h
    cases h
theorem tri_apart (P Q : Nat → Int) (n k : Nat) : Apart (trisOf P 1 n ++ trisOf Q 0 k) := by
  intro i j x y hx hy hij
  by_cases h1 : i < n
  · rw [List.getElem?_append_left (by rw [trisOf_len]; exact h1)] at hx
    obtain ⟨_, rfl⟩ := trisOf_at hx
    by_cases h2 : j < n
    · rw [List.getElem?_append_left (by rw [trisOf_len]; exact h2)] at hy
      obtain ⟨_, rfl⟩ := trisOf_at hy
      exact .inr hij
    · rw [List.getElem?_append_right (by rw [trisOf_len]; lia)] at hy
      obtain ⟨_, rfl⟩ := trisOf_at hy
      exact .inl (by show (1 : Nat) ≠ 0; decide)
  · rw [List.getElem?_append_right (by rw [trisOf_len]; lia), trisOf_len] at hx
    obtain ⟨_, rfl⟩ := trisOf_at hx
    by_cases h2 : j < n
    · rw [List.getElem?_append_left (by rw [trisOf_len]; exact h2)] at hy
      obtain ⟨_, rfl⟩ := trisOf_at hy
      exact .inl (by show (0 : Nat) ≠ 1; decide)
    · rw [List.getElem?_append_right (by rw [trisOf_len]; lia), trisOf_len] at hy
      obtain ⟨_, rfl⟩ := trisOf_at hy
      exact .inr (by show i - n ≠ j - n; lia)
noncomputable def TriInv (P : Nat → Int) (k : Nat) (b : Addr) (fixed : List (Addr × Obj)) (i : Nat) (ys : List Value) (news : List (Addr × Obj)) : Prop :=
  ∃ T, news = fixed ++ T ∧ TriIn (trisOf P k i) T ys ∧ Above b T
theorem TriInv.start {h₀ h : Heap} {L : Addr} {fixed : List (Addr × Obj)} (P : Nat → Int) (k : Nat) (_ : News h₀ L h fixed) : TriInv P k (L + 1 + 1 + 1 + 1 + 1 + 1) fixed 0 [] fixed :=
  ⟨[], by simp, ⟨rfl, fun j x h => by simp [trisOf] at h⟩, fun _ h => nomatch h⟩
theorem tri_snoc {P : Nat → Int} {k i : Nat} {T : List (Addr × Obj)} {ys : List Value} {a : Addr} {t1 t2 t3 : Tok} (h : TriIn (trisOf P k i) T ys) :
    TriIn (trisOf P k (i + 1)) ((a, tupO [.int (P i) t1, .int (k : Int) t2, .int (i : Int) t3]) :: T) (ys ++ [.ref a]) := by
  have hl := h.1
  rw [trisOf_len] at hl
  refine ⟨by rw [List.length_append, trisOf_len, hl]; rfl, fun j x e => ?_⟩
  obtain ⟨hj, rfl⟩ := trisOf_at e
  by_cases q : j < i
  · have e2 : (trisOf P k i)[j]? = some ⟨P j, k, j⟩ := by unfold trisOf; rw [List.getElem?_map, List.getElem?_range q]; rfl
    obtain ⟨a', u1, u2, u3, h1, h2⟩ := h.2 j _ e2
    exact ⟨a', u1, u2, u3, by rw [List.getElem?_append_left (by lia)]; exact h1, .tail _ h2⟩
  · obtain rfl : j = i := by lia
    exact ⟨a, t1, t2, t3, by rw [← hl, List.getElem?_concat_length], .head _⟩
theorem tri_end {h₀ h' : Heap} {L I C D a b : Addr} {m : Str → Option Value} {s₁ : Shared} {oI oC oD : Obj} {P : Nat → Int} {k : Nat} {fixed T : List (Addr × Obj)} {ys : List Value} {i tk : Nat} {t1 t2 t3 : Tok}
    (F : Fr h₀ L h' m) (off : LCg.Off3 I C D (fixed ++ T)) {all : List (Addr × Obj)} (N0 : News h₀ L h' all) (hs : ∀ p ∈ (a, tupO [.int (P i) t1, .int (k : Int) t2, .int (0 + (i : Int)) t3]) :: (I, oI) :: (C, oC) :: (D, oD) :: (fixed ++ T), p ∈ all) (hI : @LT.lt Nat _ I a) (hC : @LT.lt Nat _ C a) (hD : @LT.lt Nat _ D a) (hb : @LT.lt Nat _ b a)
    (hT : TriIn (trisOf P k i) T ys) (hA : Above b T) :
    LCg.CompEnd h₀ L m s₁ I oI C oC D oD (fun _ => True) (fun y news' => TriInv P k b fixed (i + 1) (ys ++ [y]) news') (.ref a) { s₁ with heap := h', toks := tk } := by
  have N := news_sub N0 hs
  rw [Int.zero_add] at N
  refine ⟨h', tk, fixed ++ (a, tupO [.int (P i) t1, .int (k : Int) t2, .int (i : Int) t3]) :: T, rfl, F, ?_, off3_mid off (Nat.ne_of_gt hI) (Nat.ne_of_gt hC) (Nat.ne_of_gt hD), trivial, _, rfl, tri_snoc hT, List.forall_mem_cons.mpr ⟨hb, hA⟩⟩
  intro p hp
  simp only [List.mem_cons] at hp
  rcases hp with rfl | rfl | rfl | hp
  · exact N _ (.tail _ (.head _))
  · exact N _ (.tail _ (.tail _ (.head _)))
  · exact N _ (.tail _ (.tail _ (.tail _ (.head _))))
  · rcases List.mem_cons.mp (mem_mid p hp) with rfl | hp
    · exact N _ (.head _)
    · exact N _ (.tail _ (.tail _ (.tail _ (.tail _ hp))))
theorem fr_two {x y : String} {h₀ h : Heap} {L : Addr} {m : Str → Option Value} {u v : Value} (e1 : m (Str.ofString x) = some u) (e2 : m (Str.ofString y) = some v) (F : Fr h₀ L h m) :
    Fr h₀ L h (fun z => if z = Str.ofString x then some u else if z = Str.ofString y then some v else m z) := by
  have e : (fun z => if z = Str.ofString x then some u else if z = Str.ofString y then some v else m z) = m := by
    funext z
    by_cases h1 : z = Str.ofString x
    · rw [if_pos h1, h1, e1]
    · rw [if_neg h1]
      by_cases h2 : z = Str.ofString y
      · rw [if_pos h2, h2, e2]
      · rw [if_neg h2]
  rw [e]
  exact F
theorem not_second : Str.ofString "first" ≠ Str.ofString "reply" ∧ Str.ofString "first" ≠ Str.ofString "second" := by decide +kernel
end Mine
namespace Mine
theorem drop3 {α : Type} {a b c d : α} {l : List α} : ∀ p ∈ a :: l, p ∈ a :: b :: c :: d :: l := by
  intro p hp
  rcases List.mem_cons.mp hp with rfl | hp
  · exact .head _
  · exact .tail _ (.tail _ (.tail _ (.tail _ hp)))
theorem drop_at2 {α : Type} {a b c : α} {l : List α} : ∀ p ∈ a :: b :: l, p ∈ a :: b :: c :: l := by
  intro p hp
  simp only [List.mem_cons] at hp ⊢
  rcases hp with h | h | h
  · exact .inl h
  · exact .inr (.inl h)
  · exact .inr (.inr (.inr h))
theorem drop_at7 {α : Type} {a b c d e f g x : α} {l : List α} : ∀ p ∈ a :: b :: c :: d :: e :: f :: g :: l, p ∈ a :: b :: c :: d :: e :: f :: g :: x :: l := by
  intro p hp
  simp only [List.mem_cons] at hp ⊢
  rcases hp with h | h | h | h | h | h | h | h <;> simp [h]
/-- what is due -/
theorem due_is {P Q : Nat → Int} {a b : Nat} {L : List Tri} (h : L.Perm (trisOf P 1 a ++ trisOf Q 0 b)) : ∀ x ∈ L, (x.k = 1 ∧ x.i < a ∧ x.p = P x.i) ∨ (x.k = 0 ∧ x.i < b ∧ x.p = Q x.i) := by
  intro x hx
  have := h.mem_iff.mp hx
  rw [List.mem_append] at this
  unfold trisOf at this
  simp only [List.mem_map, List.mem_range] at this
  rcases this with ⟨j, hj, rfl⟩ | ⟨j, hj, rfl⟩
  · exact .inl ⟨rfl, hj, rfl⟩
  · exact .inr ⟨rfl, hj, rfl⟩
end Mine
namespace Mine
/-- what a list comprehension over a list of triples asks of its source: its elements are read off, nothing is kept -/
noncomputable def Src3 (prog : Program) (w : World) (A : Around) (h₀ : Heap) (L : Addr) (m : Str → Option Value) (env : Env) (elt : PySem.Expr) (x1 x2 x3 : Str) (scope : Scope) (cl : List (Str × Addr)) (y : Str) (Q : Flow → Shared → Prop) (xv : Value) (s : Shared) : Prop :=
  ∃ (ax : Addr) (vs : List Value) (n : Nat) (news : List (Addr × Obj)) (Inv : Nat → List Value → Prop), xv = .ref ax ∧ A.handled = none ∧ Fr h₀ L s.heap m ∧ News h₀ L s.heap news ∧ (ax, lstO vs n) ∈ news ∧ vs.length ≤ 1000 ∧ Inv 0 [] ∧
    (∀ i ys v, vs[i]? = some v → Inv i ys → ∃ t v1 v2 v3, v = .ref t ∧ (t, tupO [v1, v2, v3]) ∈ news ∧
      ∀ I oI C oC D m₂ h tk (E' : Value → Shared → Prop), LCg.NsObj oC m₂ → m₂ x1 = some v1 → m₂ x2 = some v2 → m₂ x3 = some v3 → Fr h₀ L h m → News h₀ L h ((I, oI) :: (C, oC) :: (D, LCg.lst ys) :: news) →
        wpAny (model prog w) A (eval elt (compEnvC scope cl C env)) (fun y s' => ∃ h' tk', s' = { s with heap := h', toks := tk' } ∧ Fr h₀ L h' m ∧ News h₀ L h' ((I, oI) :: (C, oC) :: (D, LCg.lst ys) :: news) ∧ Inv (i + 1) (ys ++ [y])) E' { s with heap := h, toks := tk }) ∧
    ∀ D ys h tk, Inv vs.length ys → Fr h₀ L h (fun z => if z = y then some (.ref D) else m z) → News h₀ L h ((D, LCg.lst ys) :: news) → Under D news → Q .next { s with heap := h, toks := tk }
theorem assign3 {prog : Program} {w : World} {A : Around} {E : Value → Shared → Prop} {s : Shared} {h₀ : Heap} {L : Addr} {m : Str → Option Value} {env : Env} {elt iter : PySem.Expr} {x1 x2 x3 y : Str} {p1 p2 p3 tp py : Pos} {tk} {scope : Scope} {cl : List (Str × Addr)} {pos spos : Pos} {Q : Flow → Shared → Prop} (_F₀ : Fr h₀ L s.heap m) (hLe : env.locals = L)
    (hsw : swapsWith (.ListComp elt [⟨.Tuple [.Name x1 p1, .Name x2 p2, .Name x3 p3] tk tp, iter, [], 0⟩] scope pos) (some (.Name y py)) spos.line env = pure true)
    (hclos : closureFor scope env = pure cl) (hcell : ∀ y ∈ scope.names, y.2 ≠ .cell) (hkind : scope.kind = .function)
    (hnames : ∀ y ∈ scope.names, y.2 = .local → scope.names.lookup y.1 = some .local) (hx1 : scope.names.lookup x1 = some .local) (hx2 : scope.names.lookup x2 = some .local) (hx3 : scope.names.lookup x3 = some .local) (n12 : x1 ≠ x2) (n13 : x1 ≠ x3) (n23 : x2 ≠ x3)
    (hy : env.kindOf y = some .local) (hp : (env.scope.kind == .class || (env.scope.kind == .module && env.locals != env.globals)) = false)
    (h : wpAny (model prog w) A (eval iter env) (Src3 prog w A h₀ L m env elt x1 x2 x3 scope cl y Q) E s)
    (hs : ∀ x, foldedSetIterable iter env x = pure x := by intro _; rfl) :
    wpAny (model prog w) A (exec (.Assign [.Name y py] (.ListComp elt [⟨.Tuple [.Name x1 p1, .Name x2 p2, .Name x3 p3] tk tp, iter, [], 0⟩] scope pos) spos) env) Q E s := by
  subst hLe
  rw [exec_Assign_Name_used _ _ _ _ hsw]
  refine wpAny_bind (wpAny_standAt (wpAny_bind ?_))
  show wpAny _ A (do let _ ← comprehension (.ListComp elt [⟨.Tuple [.Name x1 p1, .Name x2 p2, .Name x3 p3] tk tp, iter, [], 0⟩] scope pos) scope env _ (newList []) false (eval iter env) (some (assign (.Name y py) env))) _ _ s
  refine wpAny_bind (wpAny_mono (wpAny_comprehension_free (use := some (assign (.Name y py) env)) (Q := fun _ s' => Q .next s') rfl hs hclos hkind hnames (wpAny_mono h (fun xv s₁ h₁ => ?_) fun _ _ e => e)) (fun _ s' hq => wpAny_pure (wpAny_pure hq)) fun _ _ e => e)
  obtain ⟨ax, vs, n, news, Inv, rfl, hh, F, N, hm, hsz, h0, turn, fin⟩ := h₁
  have hl := isList_of N hm
  have hlt : ax < s₁.heap.objs.size := Heap.lt_size (N _ hm).1
  refine wpAny_pyIter_list hl ?_
  have hI0 := next_is_new F
  have hIL : env.locals ≠ s₁.heap.objs.size := Nat.ne_of_lt F.ns.lt
  have hIa : ax ≠ s₁.heap.objs.size := Nat.ne_of_lt hlt
  have offI : ∀ p ∈ news, p.1 ≠ s₁.heap.objs.size := fun p hp => Nat.ne_of_lt (Heap.lt_size (N p hp).1)
  have F1 := F.push { cls := .type "list_iterator", data := .fields #[.ref ax, .int 0 0] }
  have N1 : News h₀ env.locals (s₁.heap.push { cls := .type "list_iterator", data := .fields #[.ref ax, .int 0 0] }) news := N.grown fun _ _ e => Heap.get?_push_of_some _ e
  have hit1 : (s₁.heap.push { cls := .type "list_iterator", data := .fields #[.ref ax, .int 0 0] }).IsListIter s₁.heap.objs.size ax 0 := ⟨_, Heap.get?_push_size _ rfl, rfl, rfl⟩
  have hz1 : s₁.heap.objs.size < (s₁.heap.push { cls := .type "list_iterator", data := .fields #[.ref ax, .int 0 0] }).objs.size := by rw [Heap.size_push]; exact Nat.lt_succ_self _
  generalize s₁.heap.objs.size = I at *
  generalize s₁.heap.push { cls := .type "list_iterator", data := .fields #[.ref ax, .int 0 0] } = H1 at *
  refine wpAny_newObj_type (wpAny_newFunctionEnv hcell (by intro y hy; simp at hy) (fun h₁ hns₁ hsb₁ => ?_) hkind)
  dsimp only at hns₁ hsb₁ ⊢
  have hUD : Under H1.objs.size news := fun p hp => Heap.lt_size (N1 p hp).1
  have hLD : env.locals < H1.objs.size := F1.ns.lt
  have hD0 := next_is_new F1
  have F2 := F1.push { cls := .type "list", data := .seq ([] : List Value).toArray }
  have hC0 := next_is_new F2
  have N2 : News h₀ env.locals (H1.push { cls := .type "list", data := .seq ([] : List Value).toArray }) ((H1.objs.size, LCg.lst []) :: news) := fun p hp => by
    rcases List.mem_cons.mp hp with rfl | hp
    · exact ⟨Heap.get?_push_size _ rfl, Nat.ne_of_gt hLD, hD0⟩
    · exact ⟨Heap.get?_push_of_some _ (N1 p hp).1, (N1 p hp).2⟩
  have hit2 : (H1.push { cls := .type "list", data := .seq ([] : List Value).toArray }).IsListIter I ax 0 := by
    obtain ⟨o, e, r⟩ := hit1
    exact ⟨o, Heap.get?_push_of_some _ e, r⟩
  have hDC : H1.objs.size < (H1.push { cls := .type "list", dict := none, data := .seq ([] : List Value).toArray }).objs.size := by rw [Heap.size_push]; exact Nat.lt_succ_self _
  generalize hH2 : H1.push { cls := .type "list", dict := none, data := .seq ([] : List Value).toArray } = H2 at *
  have hDI : I ≠ H1.objs.size := Nat.ne_of_lt hz1
  generalize H1.objs.size = D at *
  have hCL : H2.objs.size ≠ env.locals := Nat.ne_of_gt (Nat.lt_trans hLD hDC)
  have offC : ∀ p ∈ news, p.1 ≠ H2.objs.size := fun p hp => Nat.ne_of_lt (Nat.lt_trans (hUD p hp) hDC)
  have hCI : I ≠ H2.objs.size := Nat.ne_of_lt (Nat.lt_trans hz1 hDC)
  have hCa : ax ≠ H2.objs.size := offC _ hm
  have hDne : D ≠ H2.objs.size := Nat.ne_of_lt hDC
  have up : ∀ b o, H2.get? b = some o → h₁.get? b = some o := fun b o e => hsb₁.extBut b o (Nat.ne_of_lt (Heap.lt_size e)) (Heap.get?_push_of_some _ e)
  have hitS : h₁.IsListIter I ax 0 := by
    obtain ⟨o, e, r⟩ := hit2
    exact ⟨o, up _ _ e, r⟩
  generalize H2.objs.size = C at *
  have loop : ∀ R : Result → Shared → Prop, (∀ ys h' tk' m', Inv vs.length ys → Fr h₀ env.locals h' m → News h₀ env.locals h' ((D, LCg.lst ys) :: news) → h'.Ns C m' → R (.ok .next) { s₁ with heap := h', toks := tk' }) → ∀ s₃ : Shared, s₃ = { s₁ with heap := h₁, toks := s₁.toks + ([] : List (Str × Value)).length } →
      codeAny (model prog w) A (.compLoop (.ListComp elt [⟨.Tuple [.Name x1 p1, .Name x2 p2, .Name x3 p3] tk tp, iter, [], 0⟩] scope pos) 0 (.ref I) (.ref D) (compEnvC scope cl C env))
        R s₃ := by
    rintro R hR s₃ rfl
    refine LCp.codeAny_compLoop_pair (fun k s' => ∃ h' tk' i ys m', s' = { s₁ with heap := h', toks := tk' } ∧ i ≤ vs.length ∧ k = vs.length + 1 - i ∧ ys.length = i ∧ h'.IsListIter I ax i ∧ Fr h₀ env.locals h' m ∧ h'.Ns C m' ∧ News h₀ env.locals h' ((D, LCg.lst ys) :: news) ∧ Inv i ys) ?_ (vs.length + 1)
      ⟨h₁, _, 0, [], _, rfl, Nat.zero_le _, rfl, rfl, hitS, F2.keeps up, hns₁, N2.grown up, h0⟩
    rintro k s' ⟨h', tk', i, ys, m', rfl, hi, rfl, hyl, hit', F', hn', N', hI'⟩
    have hl' : h'.IsList ax vs.toArray := isList_of N' (.tail _ hm)
    by_cases hlt' : i < vs.length
    · have hv : vs[i]? = some vs[i] := List.getElem?_eq_getElem hlt'
      refine wpAny_pyNext_list_item hit' hl' (by rw [List.getElem?_toArray]; exact hv) fun h₂ hit₂ hs₂ => ?_
      obtain ⟨t, v1, v2, v3, et, hmt, stp⟩ := turn i ys _ hv hI'
      rw [et]
      have k₂ : ∀ b o, b ≠ I → h'.get? b = some o → h₂.get? b = some o := fun b o hb e => hs₂.extBut b o hb e
      have N₂ : News h₀ env.locals h₂ ((D, LCg.lst ys) :: news) := news_off N' k₂ fun p hp => by
        rcases List.mem_cons.mp hp with rfl | hp
        · exact Ne.symm hDI
        · exact offI p hp
      have ht : IsTup h₂ t #[v1, v2, v3] := ⟨_, (N₂ _ (.tail _ hmt)).1, rfl, _, rfl⟩
      refine wpAny_letOwnedTupleGo_listiter hit₂ ?_
      refine assign_Tuple_tuple hh ht rfl rfl fun h₅ he => ?_
      have he' : ∀ b o, h₂.get? b = some o → h₅.get? b = some o := fun b o e => he b o (Nat.ne_of_lt (Heap.lt_size e)) e
      have hn₂ := (hn'.at' fun o e => k₂ _ o (Ne.symm hCI) e).at' fun o e => he' _ o e
      refine assignInOrder_cons (wpAny_assign_Name (wpAny_storeName_local (lookup_relabel_local hx1) hn₂ (fun h₆ hn₆ hs₆ => ?_) (by simp [compEnvC, relabel, hkind])))
      refine assignInOrder_cons (wpAny_assign_Name (wpAny_storeName_local (lookup_relabel_local hx2) hn₆ (fun h₇ hn₇ hs₇ => ?_) (by simp [compEnvC, relabel, hkind])))
      refine assignInOrder_cons (wpAny_assign_Name (wpAny_storeName_local (lookup_relabel_local hx3) hn₇ (fun h₈ hn₈ hs₈ => ?_) (by simp [compEnvC, relabel, hkind])))
      refine assignInOrder_nil ?_
      have k₈ : ∀ b o, b ≠ C → h₂.get? b = some o → h₈.get? b = some o := fun b o hb e => hs₈.extBut b o hb (hs₇.extBut b o hb (hs₆.extBut b o hb (he' b o e)))
      have hit₈ : h₈.IsListIter I ax (i + 1) := by
        obtain ⟨o, e, r⟩ := hit₂
        exact ⟨o, k₈ _ _ hCI e, r⟩
      obtain ⟨oI, heI, rI⟩ := id hit₈
      obtain ⟨oC, heC, hoC⟩ := LCg.ns_obj hn₈
      have F₈ : Fr h₀ env.locals h₈ m := fr_off (fr_off F' k₂ hIL hI0) k₈ (Ne.symm hCL) hC0
      have N₈ : News h₀ env.locals h₈ ((I, oI) :: (C, oC) :: (D, LCg.lst ys) :: news) := fun p hp => by
        rcases List.mem_cons.mp hp with rfl | hp
        · exact ⟨heI, Ne.symm hIL, hI0⟩
        · rcases List.mem_cons.mp hp with rfl | hp
          · exact ⟨heC, hCL, hC0⟩
          · refine ⟨k₈ _ _ ?_ (N₂ p hp).1, (N₂ p hp).2⟩
            rcases List.mem_cons.mp hp with rfl | hp
            · exact hDne
            · exact offC p hp
      refine wpAny_mono (stp I oI C oC D _ h₈ _ _ hoC (by simp [n12, n13]) (by simp [n23]) (by simp) F₈ N₈) (fun y s₄ h₄ => ?_) fun _ _ e => e
      obtain ⟨h₄, tk₄, rfl, F₄, N₄, I₄⟩ := h₄
      have zI := (N₄ (I, oI) (.head _)).1
      have zC := (N₄ (C, oC) (.tail _ (.head _))).1
      have zD := (N₄ (D, LCg.lst ys) (.tail _ (.tail _ (.head _)))).1
      refine append_at (hsz := by show ys.toArray.size ≤ sizeLine; rw [List.size_toArray, sizeLine_eq]; lia) zD fun h₅ hs₅ hD₅ => ?_
      have hDL : D ≠ env.locals := (N₄ (D, LCg.lst ys) (.tail _ (.tail _ (.head _)))).2.1
      have hD0' := (N₄ (D, LCg.lst ys) (.tail _ (.tail _ (.head _)))).2.2
      refine ⟨vs.length + 1 - (i + 1), by lia, h₅, tk₄, i + 1, ys ++ [y], _, rfl, hlt', rfl, by rw [List.length_append, List.length_singleton, hyl], ⟨oI, hs₅.extBut _ _ hDI zI, rI⟩, F₄.change hs₅ hDL hD0', (hoC.ns zC).sameBut hs₅ (Ne.symm hDne), fun p hp => ?_, I₄⟩
      rcases List.mem_cons.mp hp with rfl | hp
      · exact ⟨hD₅.trans (congrArg some (LCg.lst_snoc ys y)), hDL, hD0'⟩
      · have z := N₄ p (.tail _ (.tail _ (.tail _ hp)))
        exact ⟨hs₅.extBut _ _ (Nat.ne_of_lt (hUD p hp)) z.1, z.2⟩
    · obtain rfl : i = vs.length := by lia
      refine wpAny_pyNext_list_end hh hit' hl' (by simp) fun h₂ he => ?_
      have k₂ : ∀ b o, b ≠ I → h'.get? b = some o → h₂.get? b = some o := fun b o hb e => he b o hb e
      exact hR ys h₂ tk' m' hI' (fr_off F' k₂ hIL hI0) (news_off N' k₂ fun p hp => by
        rcases List.mem_cons.mp hp with rfl | hp
        · exact Ne.symm hDI
        · exact offI p hp) (hn'.at' fun o e => k₂ _ o (Ne.symm hCI) e)
  have hself : h₁.IsListIter I ax 0 ∧ h₁.IsList ax vs.toArray := ⟨hitS, isList_of (N2.grown up) (.tail _ hm)⟩
  refine codeAny_compStart_list (loop _ ?_ _ rfl) ((Walks.list hh I ax hIa vs.toArray).self 0 _ _ _ hself (loop _ ?_ _ rfl))
  all_goals
    intro ys h' tk' m' hI' F' N' hn'
    show wpAny _ A (assign (.Name y py) env (.ref D)) _ _ _
    refine wpAny_assign_Name (wpAny_storeName_local hy F'.ns (fun h₂ hn₂ hs₂ => ?_) hp)
    have F₂ := F'.set hn₂ hs₂
    refine ⟨m', hn'.sameBut hs₂ hCL, fun h'' hs'' => fin D ys h'' _ hI' (F₂.change hs'' hCL hC0) (fun p hp => ?_) hUD⟩
    have z : h₂.get? p.1 = some p.2 := hs₂.extBut _ _ (N' p hp).2.1 (N' p hp).1
    refine ⟨hs''.extBut _ _ ?_ z, (N' p hp).2⟩
    rcases List.mem_cons.mp hp with rfl | hp
    · exact hDne
    · exact offC p hp
end Mine
namespace Mine
theorem item_rep {prog : Program} {w : World} {A : Around} {E : Value → Shared → Prop} {s : Shared} {value slice : PySem.Expr} {h₀ : Heap} {L l : Addr} {news : List (Addr × Obj)} {ys : List Value} {n k i : Nat} {T : Nat → Str} {u : Tok} {Q : Value → Shared → Prop}
    (N : News h₀ L s.heap news) (hm : (l, lstO ys n) ∈ news) (hT : TxtsAre T k ys) (hi : i < k) (hk : k ≤ 100) (h : ∀ t, Q (.str (T i) t) s)
    (hs : subscripted slice false (.ref l) (.int (i : Int) u) = operate [.ref l, .int (i : Int) u] (getItem (.ref l) (.int (i : Int) u)) := by with_unfolding_all rfl) :
    wpAny (model prog w) A (subscriptTail value slice (.ref l) (.int (i : Int) u)) Q E s := by
  have hl := hT.1
  refine item_any N hm (by omega) (by omega) (by omega) (fun v hv => ?_) hs
  obtain ⟨t, e⟩ := hT.2 i hi
  rw [Int.toNat_natCast, e] at hv
  cases hv
  exact h t
theorem strs_snoc {ys : List Value} {L : List Tri} {T : Nat → Nat → Str} {i : Nat} {x : Tri} {t : Tok} (h : StrsAre ys ((L.take i).map fun x => T x.k x.i)) (hx : L[i]? = some x) : StrsAre (ys ++ [.str (T x.k x.i) t]) ((L.take (i + 1)).map fun x => T x.k x.i) := by
  rw [List.take_add_one, hx, List.map_append]
  exact strs_append h (.cons _ t .nil)
end Mine
namespace Mine
theorem mrg_rows {T : Nat → Nat → Str} {P : Nat → Nat → Int} {L1 L2 : List Tri} {v1 v2 : List Value} (h1 : RowIs T P L1 v1) (h2 : RowIs T P L2 v2) (k1 : ∀ x ∈ L1, x.k = 1) (k2 : ∀ x ∈ L2, x.k = 0) :
    ∀ (n a b : Nat), a + b = n → a ≤ L1.length → b ≤ L2.length → ∃ M : List Tri, StrsAre (mrg (portAt L1) (portAt L2) v1 v2 a b) (M.map fun x => T x.k x.i) ∧ M.Perm (L1.take a ++ L2.take b) ∧ M.Pairwise Tri.lt := by
  intro n
  induction n with
  | zero =>
    intro a b e _ _
    obtain rfl : a = 0 := by lia
    obtain rfl : b = 0 := by lia
    refine ⟨[], ?_, ?_, .nil⟩
    · rw [mrg]; simpa using StrsAre.nil
    · simp
  | succ n ih =>
    intro a b e ha hb
    cases a with
    | zero =>
      refine ⟨L2.take b, ?_, by simp, pairwise_take h2.srt b⟩
      rw [mrg, List.map_take]
      exact strs_take b h2.txt
    | succ a =>
      cases b with
      | zero =>
        refine ⟨L1.take (a + 1), ?_, by simp, pairwise_take h1.srt _⟩
        rw [mrg, List.map_take]
        exact strs_take _ h1.txt
      | succ b =>
        have xa : L1[a]? = some L1[a] := List.getElem?_eq_getElem (by lia)
        have xb : L2[b]? = some L2[b] := List.getElem?_eq_getElem (by lia)
        have pa := portAt_eq xa
        have pb := portAt_eq xb
        have ka := k1 _ (List.mem_of_getElem? xa)
        have kb := k2 _ (List.mem_of_getElem? xb)
        have da : (L1.drop a).take 1 = [L1[a]] := by rw [List.drop_eq_getElem_cons (by lia)]; rfl
        have db : (L2.drop b).take 1 = [L2[b]] := by rw [List.drop_eq_getElem_cons (by lia)]; rfl
        by_cases hc : portAt L1 a < portAt L2 b
        · obtain ⟨M, s, p, w⟩ := ih (a + 1) b (by lia) ha (by lia)
          refine ⟨M ++ (L2.drop b).take 1, ?_, ?_, ?_⟩
          · rw [mrg, if_pos hc, List.map_append, List.map_take, List.map_drop]
            exact strs_append s (strs_take 1 (strs_drop b h2.txt))
          · rw [take_succ' L2 b, ← List.append_assoc]
            exact List.Perm.append_right _ p
          · rw [db]
            refine List.pairwise_append.mpr ⟨w, List.pairwise_singleton _ _, fun y hy x hx => ?_⟩
            rw [List.mem_singleton.mp hx]
            rcases List.mem_append.mp (p.mem_iff.mp hy) with q | q
            · obtain ⟨i, hi, ei⟩ := mem_take_get q
              have := RowIs.sorted h1.srt i a (by lia) (by lia) (by lia)
              rw [portAt_eq ei] at this
              exact .inl (by lia)
            · obtain ⟨i, hi, ei⟩ := mem_take_get q
              have := List.pairwise_iff_getElem.mp h2.srt i b (by lia) (by lia) hi
              rw [(List.getElem?_eq_some_iff.mp ei).2] at this
              exact this
        · obtain ⟨M, s, p, w⟩ := ih a (b + 1) (by lia) (by lia) hb
          refine ⟨M ++ (L1.drop a).take 1, ?_, ?_, ?_⟩
          · rw [mrg, if_neg hc, List.map_append, List.map_take, List.map_drop]
            exact strs_append s (strs_take 1 (strs_drop a h1.txt))
          · rw [take_succ' L1 a]
            refine (List.Perm.append_right _ p).trans ?_
            rw [List.append_assoc, List.append_assoc]
            exact List.Perm.append_left _ List.perm_append_comm
          · rw [da]
            refine List.pairwise_append.mpr ⟨w, List.pairwise_singleton _ _, fun y hy x hx => ?_⟩
            rw [List.mem_singleton.mp hx]
            rcases List.mem_append.mp (p.mem_iff.mp hy) with q | q
            · obtain ⟨i, hi, ei⟩ := mem_take_get q
              have := List.pairwise_iff_getElem.mp h1.srt i a (by lia) (by lia) hi
              rw [(List.getElem?_eq_some_iff.mp ei).2] at this
              exact this
            · obtain ⟨i, hi, ei⟩ := mem_take_get q
              have h5 := RowIs.sorted h2.srt i b (by lia) (by lia) (by lia)
              rw [portAt_eq ei] at h5
              have h6 := k2 y (List.mem_of_getElem? ei)
              unfold Tri.lt
              lia
theorem rows_merge {ns : List Int} {S : Int} {ma mb i : Nat} {L1 L2 Lo : List Tri} {v1 v2 : List Value} (h1 : RowR (txtOf ns S) (prtOf ns S) ma L1 v1) (h2 : RowL (txtOf ns S) (prtOf ns S) mb 0 L2 v2)
    (hp : Lo.Perm (trisOf (portsOf ns 2 S) 1 ma ++ trisOf (portsOf ns 6 S) 0 mb)) (hs : Lo.Pairwise Tri.lt) :
    StrsAre (mrg (portAt L1) (portAt L2) v1 v2 v1.length v2.length) (Lo.map fun x => txtOf ns S x.k x.i) := by
  have p1 : L1.Perm (trisOf (portsOf ns 2 S) 1 ma) := h1.prm
  have p2 : L2.Perm (trisOf (portsOf ns 6 S) 0 mb) := by
    have := h2.prm
    rw [Nat.sub_zero, ← List.range_eq_range'] at this
    exact this
  have l1 := rowR_len h1
  have l2 := rowL_len h2
  obtain ⟨M, s, p, w⟩ := mrg_rows h1.toRowIs h2.toRowIs (fun x hx => by
    have := p1.mem_iff.mp hx
    unfold trisOf at this
    simp only [List.mem_map, List.mem_range] at this
    obtain ⟨j, _, rfl⟩ := this
    rfl) (fun x hx => by
    have := p2.mem_iff.mp hx
    unfold trisOf at this
    simp only [List.mem_map, List.mem_range] at this
    obtain ⟨j, _, rfl⟩ := this
    rfl) _ L1.length L2.length rfl (Nat.le_refl _) (Nat.le_refl _)
  rw [List.take_length, List.take_length] at p
  have e : M = Lo := tri_unique ((p.trans (p1.append p2)).trans hp.symm) w hs
  rw [← e, l1.1, l2.1, ← l1.2, ← l2.2]
  exact s
end Mine
namespace Mine
theorem ClaimM.use {w : World} {k : Nat} {f : Addr} {args : List Value} {kw : List (Str × Value)} {news : List (Addr × Obj)} {Ret : (Value → List (Addr × Obj) → Prop)} (C : ClaimM w k f args kw news Ret)
    {dp un : Nat} {gd : Option (List Code)} {cn : Str} {cs : Scope} {a : Addr} {ccd : Value} {cl : List (Str × Addr)} {outer : List Env} {A₀ : Around} {base h₀ : Heap} {L : Addr} {m : Str → Option Value} {s : Shared} {Q E : Value → Shared → Prop}
    {p : Program} {loose : List Str} {mean : ExcName → Option Value} {mg mb : Str → Option Value}
    (B : Below A₀ base outer h₀) (F : Fr h₀ L s.heap m) (X : (hd0.heap_1_39 w.params).In h₀) (N : News h₀ L s.heap news) (T : Top p loose mean mg mb h₀) (hk : cs.kind = .function)
    (hd : dp + k < recursionLimit) (hu : un + 20 * k < cLine) (hc : CodeHd base 170 166)
    (ret : ∀ v news' h' tk', Ret v news' → Fr h₀ L h' m → News h₀ L h' news' → Q v { s with heap := h', toks := tk' }) :
      wpAny (model PySem.Challenge.rw_wu0062_01.row.prog w) (ktrTop dp un gd cn cs L a ccd cl outer) (call (.ref f) args kw) Q E s :=
  C dp un gd cn cs a ccd cl outer A₀ base h₀ L m s Q E p loose mean mg mb B F X N T hk hd hu hc ret
theorem arrange {D : Addr} {du od se fi a1 a2 a3 a4 a5 a6 a7 a8 a9 a10 a11 ta : Addr × Obj} {R : List (Addr × Obj)} (_ : Under D (du :: od :: se :: fi :: a1 :: a2 :: a3 :: a4 :: a5 :: a6 :: a7 :: a8 :: a9 :: a10 :: a11 :: ta :: R)) :
    ∀ p ∈ ta :: fi :: se :: du :: od :: a1 :: a2 :: a3 :: a4 :: a5 :: a6 :: a7 :: a8 :: a9 :: a10 :: a11 :: R, p ∈ du :: od :: se :: fi :: a1 :: a2 :: a3 :: a4 :: a5 :: a6 :: a7 :: a8 :: a9 :: a10 :: a11 :: ta :: R := by
  iterate 16 refine sub_c (by k_mem) ?_
  intro p hp
  iterate 16 refine List.Mem.tail _ ?_
  exact hp
theorem sub_ins4 {α : Type} {a b c x : α} {l old : List α} (h : ∀ p ∈ a :: b :: c :: l, p ∈ old) : ∀ p ∈ a :: b :: c :: x :: l, p ∈ x :: old := by
  intro p hp
  simp only [List.mem_cons] at hp
  rcases hp with rfl | rfl | rfl | rfl | hp
  · exact .tail _ (h _ (.head _))
  · exact .tail _ (h _ (.tail _ (.head _)))
  · exact .tail _ (h _ (.tail _ (.tail _ (.head _))))
  · exact .head _
  · exact .tail _ (h _ (.tail _ (.tail _ (.tail _ hp))))
theorem under_rest {D : Addr} {a b c : Addr × Obj} {l old : List (Addr × Obj)} (h : Under D old) (s : ∀ p ∈ a :: b :: c :: l, p ∈ old) : (∀ q ∈ l, q.1 ≠ D) ∧ b.1 ≠ D ∧ c.1 ≠ D :=
  ⟨fun q hq => h.ne q (s q (.tail _ (.tail _ (.tail _ hq)))), h.ne _ (s _ (.tail _ (.head _))), h.ne _ (s _ (.tail _ (.tail _ (.head _))))⟩
theorem txts_ok {ns : List Int} {S : Int} {ma mb : Nat} {Lo : List Tri} (hp : Lo.Perm (trisOf (portsOf ns 2 S) 1 ma ++ trisOf (portsOf ns 6 S) 0 mb)) (ha : ma ≤ 9) (hb : mb ≤ 9) : ∀ x ∈ (Lo.map fun x => txtOf ns S x.k x.i), PyData.strOk x = true := by
  intro x hx
  obtain ⟨y, hy, rfl⟩ := List.mem_map.mp hx
  rcases due_is hp y hy with ⟨h1, h2, -⟩ | ⟨h1, h2, -⟩
  · rw [h1]; exact reps_ok (.inl rfl) (by lia)
  · rw [h1]; exact reps_ok (.inr rfl) (by lia)
end Mine
namespace Mine
theorem sorted_two {prog : Program} {w : World} {A : Around} {E : Value → Shared → Prop} {s : Shared} {h₀ : Heap} {L l : Addr} {m : Str → Option Value} {news : List (Addr × Obj)} {a b n : Nat} {t u : Tok} {Q : Value → Shared → Prop}
    (F : Fr h₀ L s.heap m) (N : News h₀ L s.heap news) (hl : (l, lstO [.int (a : Int) t, .int (b : Int) u] n) ∈ news)
    (h : ∀ D h' t' u' e, Fr h₀ L h' m → News h₀ L h' ((D, lstO [.int ((min a b : Nat) : Int) t', .int ((max a b : Nat) : Int) u'] e) :: news) → Q (.ref D) { s with heap := h' }) :
    wpAny (model prog w) A (call (.builtin "sorted") [.ref l]) Q E s := by
  refine sorted_N F N (isList_of N hl) (.cons _ t (.cons _ u .nil)) (by show 2 < 64; decide) fun h' vs' ns' e F' N' hI hp hs => ?_
  have hx : ns' = [((min a b : Nat) : Int), ((max a b : Nat) : Int)] := by
    rcases ksk_perm2 hp with rfl | rfl
    · have := (List.pairwise_cons.mp hs).1 _ (.head _)
      rw [Nat.min_eq_left (by lia), Nat.max_eq_right (by lia)]
    · have := (List.pairwise_cons.mp hs).1 _ (.head _)
      rw [Nat.min_eq_right (by lia), Nat.max_eq_left (by lia)]
  subst hx
  cases hI with
  | cons _ t1 r =>
    cases r with
    | cons _ t2 r =>
      cases r
      exact h _ h' t1 t2 e F' N'
theorem bnd_two : ∀ a, a < 5 → ∀ b, b < 10 → 0 < a → 0 < b → bnd a b = min a b * (1 + hvN (min a b) (max a b)) + max a b / 2 ^ hvN (min a b) (max a b) - 1 := by decide +kernel
/-- how often it goes -/
theorem hv_all : ∀ few, few < 10 → ∀ many, many < 10 → ∀ c, c < 5 → (1 ≤ few ∧ few * 2 ^ c ≤ many ∧ many < few * 2 ^ (c + 1)) → hvN few many = c := by decide +kernel
theorem hv_is {few many c : Nat} (h1 : few < 10) (h2 : many < 10) (h3 : c < 5) (h4 : 1 ≤ few) (h5 : few * 2 ^ c ≤ many) (h6 : many < few * 2 ^ (c + 1)) : hvN few many = c := hv_all few h1 many h2 c h3 ⟨h4, h5, h6⟩
end Mine
namespace Mine
noncomputable abbrev tmPs (c : Nat × Tok) : List (Str × Value) := [(Str.ofString "times", .int (c.1 : Int) c.2)]
theorem times_loop {prog : Program} {w : World} {A : Around} {E : Value → Shared → Prop} {Q : Flow → Shared → Prop} {s : Shared} {env : Env} {h₀ : Heap} {L : Addr} {test : PySem.Expr} {body : List Stmt} {pos : Pos} {m₀ : Str → Option Value} {news : List (Addr × Obj)} (few many : Nat) (h1 : 1 ≤ few) (h2 : few ≤ many) (h9 : many ≤ 9)
    (F : Fr h₀ L s.heap m₀) (N : News h₀ L s.heap news) {t0 : Tok} (e : m₀ (Str.ofString "times") = some (.int 0 t0))
    (turn : ∀ (c : Nat) (tc : Tok) (h : Heap) tk, few * 2 ^ c ≤ many → c ≤ 3 → Fr h₀ L h (fun y => if y = Str.ofString "times" then some (.int (c : Int) tc) else m₀ y) → News h₀ L h news →
      wpAny (model prog w) A (isTrue test env (eval test env)) (fun b s₂ => if b = true then wpAny (model prog w) A (execs body env) (fun f s₃ => f = .next ∧ few * 2 ^ (c + 1) ≤ many ∧ ∃ h' tk' m' t', s₃ = { s with heap := h', toks := tk' } ∧ Fr h₀ L h' m' ∧ News h₀ L h' news ∧ m' (Str.ofString "times") = some (.int ((c : Int) + 1) t') ∧ ∀ z, z ≠ Str.ofString "times" → m' z = m₀ z) E s₂
        else Q .next s₂) E { s with heap := h, toks := tk })
    (hE : PassesOwn (model prog w) A env E := by passes_own) :
    wpAny (model prog w) A (exec (.While test body [] pos) env) Q E s := by
  refine ksw_while (σ := Nat × Tok) (fun _ => news) tmPs (fun _ => True) [] (fun c => few * 2 ^ c.1 ≤ many ∧ c.1 ≤ 3) (fun c => 9 - c.1) (0, t0) F N trivial (List.forall_mem_cons.mpr ⟨e, fun _ h => nomatch h⟩) ⟨by simpa using h2, Nat.zero_le _⟩ ?_ hE
  rintro ⟨c, tc⟩ u h tk - ⟨hp, hc3⟩ F2 N2
  have F3 : Fr h₀ L h (fun y => if y = Str.ofString "times" then some (.int (c : Int) tc) else m₀ y) := by
    have e : kstB (fun z => if ([] : List Str).contains z then u z else m₀ z) (tmPs (c, tc)) = fun y => if y = Str.ofString "times" then some (.int (c : Int) tc) else m₀ y := by
      funext y
      simp only [kstB, List.contains_nil, Bool.false_eq_true, if_false]
    rw [← e]
    exact F2
  refine wpAny_mono (turn c tc h tk hp hc3 F3 N2) (fun b s₂ hb => ?_) fun _ _ x => x
  cases b with
  | false => exact hb
  | true =>
    simp only [if_true] at hb ⊢
    refine wpAny_mono hb (fun f s₃ h₃ => ?_) fun _ _ x => x
    obtain ⟨rfl, hf, h', tk', m', t', rfl, F', N', e', r'⟩ := h₃
    have hc : c + 1 ≤ 3 := by
      have hpow : 2 ^ (c + 1) ≤ 9 := by
        have : 1 * 2 ^ (c + 1) ≤ few * 2 ^ (c + 1) := Nat.mul_le_mul_right _ h1
        lia
      refine Nat.le_of_not_lt fun hlt => ?_
      have : 2 ^ 4 ≤ 2 ^ (c + 1) := Nat.pow_le_pow_right (by decide) (by lia)
      lia
    exact ksw_end (c + 1, t') F' N' (fun p hp => hp) trivial (List.forall_mem_cons.mpr ⟨by rw [e']; rfl, fun _ h => nomatch h⟩) (fun z hz _ => r' z (hz _ (.head _))) ⟨hf, hc⟩ (by show 9 - (c + 1) < 9 - c; lia)
end Mine
namespace Mine
theorem pow_up {few many c : Nat} : (few : Int) * 2 ^ ((c : Int) + 1).toNat ≤ (many : Int) ↔ few * 2 ^ (c + 1) ≤ many := by
  rw [show ((c : Int) + 1).toNat = c + 1 by lia]
  have : ((few * 2 ^ (c + 1) : Nat) : Int) = (few : Int) * 2 ^ (c + 1) := by rw [Int.natCast_mul, Int.natCast_pow]; rfl
  rw [← this]
  lia
/-- kept from the eyes of the arithmetic -/
noncomputable def Fits (few c many : Nat) : Prop := few * 2 ^ c ≤ many
noncomputable def Few (n few many c : Nat) : Prop := n ≤ few * (1 + c) + many / 2 ^ c - 1
end Mine
namespace Mine
theorem bound_small {few many c : Nat} (h1 : few ≤ many) (h2 : many ≤ 9) (h3 : c ≤ 3) : few * (1 + c) + many / 2 ^ c - 1 ≤ 100 := by
  have a := Nat.mul_le_mul (show few ≤ 9 by omega) (show 1 + c ≤ 4 by omega)
  have b := Nat.div_le_self many (2 ^ c)
  omega
theorem no_more {few many c n : Nat} (h : n ≤ few * (1 + c) + many / 2 ^ c - 1) (h1 : 1 ≤ few) : decide (((few : Int) * (1 + (c : Int)) + Int.fdiv (many : Int) (2 ^ ((c : Int)).toNat) - 1) < (n : Int)) = false := by
  have e1 : (few : Int) * (1 + (c : Int)) = ((few * (1 + c) : Nat) : Int) := by rw [Int.natCast_mul, Int.natCast_add]; rfl
  have e2 : Int.fdiv (many : Int) (2 ^ ((c : Int)).toNat) = ((many / 2 ^ c : Nat) : Int) := by
    rw [Int.toNat_natCast, Int.fdiv_eq_ediv_of_nonneg _ (Int.pow_nonneg (by decide)), Int.natCast_ediv, Int.natCast_pow]
    rfl
  rw [e1, e2]
  have : 1 * 1 ≤ few * (1 + c) := Nat.mul_le_mul h1 (by omega)
  simp only [decide_eq_false_iff_not]
  generalize few * (1 + c) = X at *
  generalize many / 2 ^ c = Y at *
  omega
theorem gt_bound {prog : Program} {w : World} {A : Around} {E : Value → Shared → Prop} {s : Shared} {few many c n : Nat} {t u : Tok} {Q : Value → Shared → Prop} (h : Few n few many c) (h1 : 1 ≤ few) (hq : Q (.bool false) s) :
    wpAny (model prog w) A (compareOp .Gt (.int (n : Int) t) (.int ((few : Int) * (1 + (c : Int)) + Int.fdiv (many : Int) (2 ^ ((c : Int)).toNat) - 1) u)) Q E s :=
  SiftDown.gt_int (by rw [no_more h h1]; exact hq)
end Mine
namespace Mine
theorem nat_q {n : Nat} (h : n ≤ 9) : QFacts (n : Int) := qfacts (by lia) (by lia)
theorem val_ind {prog : Program} {w : World} {A : Around} {E : Value → Shared → Prop} {h₀ : Heap} {env : Env} {target : PySem.Expr} {body : List Stmt} {Q : Flow → Shared → Prop} {s : Shared} {ws : List (Addr × String)} {keep : List (Addr × Obj)}
    (J : (Str → Option Value) → List (Addr × Obj) → Prop) (P : Value → Prop)
    (turn : ∀ v r m news, P v → J m news → (∀ m' n', J m' n' → ItemsRest prog w A E h₀ env target body Q s ws keep r m' n') → ItemsRest prog w A E h₀ env target body Q s ws keep (.val v :: r) m news)
    (fin : ∀ m news, J m news → ItemsRest prog w A E h₀ env target body Q s ws keep [] m news) :
    ∀ (xs : List Value), (∀ v ∈ xs, P v) → ∀ m news, J m news → ItemsRest prog w A E h₀ env target body Q s ws keep (xs.map .val) m news
  | [], _, m, news, hJ => fin m news hJ
  | x :: r, hP, m, news, hJ => turn x _ m news (hP x (.head _)) hJ fun m' n' hJ' => val_ind J P turn fin r (fun v hv => hP v (.tail _ hv)) m' n' hJ'
noncomputable def OneJ (x : String) (m₀ : Str → Option Value) (fixed : List (Addr × Obj)) (m : Str → Option Value) (nx : List (Addr × Obj)) : Prop := nx = fixed ∧ ∀ z, z ≠ Str.ofString x → m z = m₀ z
theorem one_end {x : String} {h₀ h' : Heap} {L I : Addr} {m' m₀ : Str → Option Value} {its fixed all keep : List (Addr × Obj)} {s₁ : Shared} {tk : Nat} {RestP : (Str → Option Value) → List (Addr × Obj) → Prop}
    (F : Fr h₀ L h' m') (N : News h₀ L h' all) (hsub : ∀ p ∈ its ++ fixed, p ∈ all) (hI : ∀ p ∈ fixed, p.1 < I) (his : ∀ q ∈ its, I ≤ q.1) (hk : SubL keep fixed)
    (hr : ∀ z, z ≠ Str.ofString x → m' z = m₀ z) (rest : ∀ m' n', OneJ x m₀ fixed m' n' → RestP m' n') :
    UnrEndW h₀ L s₁ its (fun m' n' => SubL keep n' ∧ RestP m' n') { s₁ with heap := h', toks := tk } :=
  ⟨h', tk, m', fixed, rfl, F, fun p hp => N p (hsub p hp), fun p hp q hq e => absurd (hI p hp) (by rw [e]; exact Nat.not_lt.mpr (his q hq)), hk, rest _ _ ⟨rfl, hr⟩⟩
theorem one_fr {x : String} {h₀ h : Heap} {L : Addr} {m₁ m₀ : Str → Option Value} {v : Value} (hr : ∀ z, z ≠ Str.ofString x → m₁ z = m₀ z) (F : Fr h₀ L h (fun y => if y = Str.ofString x then some v else m₁ y)) : Fr h₀ L h (fun y => if y = Str.ofString x then some v else m₀ y) := by
  have e : (fun y => if y = Str.ofString x then some v else m₁ y) = fun y => if y = Str.ofString x then some v else m₀ y := by
    funext y
    by_cases h1 : y = Str.ofString x
    · rw [if_pos h1, if_pos h1]
    · rw [if_neg h1, if_neg h1, hr y h1]
  rw [← e]
  exact F
theorem ne_same {prog : Program} {w : World} {A : Around} {E : Value → Shared → Prop} {s : Shared} {x y : Str} {t u : Tok} {Q : Value → Shared → Prop} (e : x = y) (h : Q (.bool false) s) : wpAny (model prog w) A (compareOp .NotEq (.str x t) (.str y u)) Q E s := by
  subst e
  refine ne_str ?_
  rw [bne_no (rfl : x = x)]
  exact h
theorem mul_lens : ∀ k, k < 10 → (Txt.mul (Str.ofString "\"") (Int.fdiv ((k : Nat) : Int) 2)).length ≤ 10 ∧ (Txt.mul (Str.ofString "z") (1 - Int.fmod ((k : Nat) : Int) 2)).length ≤ 10 := by decide +kernel
noncomputable def SmallN (v : Value) : Prop := ∃ (k : Nat) (t : Tok), v = .int (k : Int) t ∧ k ≤ 9
end Mine
namespace Mine
theorem item_pair0 {prog : Program} {w : World} {A : Around} {E : Value → Shared → Prop} {s : Shared} {value slice : PySem.Expr} {h₀ : Heap} {L l : Addr} {news R : List (Addr × Obj)} {ys : List Value} {n k : Nat} {name : Nat → Str} {f : Nat → Int} {u : Tok} {Q : Value → Shared → Prop}
    (N : News h₀ L s.heap news) (hm : (l, lstO ys n) ∈ news) (hP : PairsIn name f R k ys) (hl : ys.length = k) (hi : 0 < k) (hk : k ≤ 100) (h : ∀ a tn tp, (a, tupO [.str (name 0) tn, .int (f 0) tp]) ∈ R → Q (.ref a) s)
    (hs : subscripted slice false (.ref l) (.int 0 u) = operate [.ref l, .int 0 u] (getItem (.ref l) (.int 0 u)) := by with_unfolding_all rfl) :
    wpAny (model prog w) A (subscriptTail value slice (.ref l) (.int 0 u)) Q E s := by
  refine item_any N hm (by lia) (by lia) (by lia) (fun v hv => ?_) hs
  obtain ⟨a, tn, tp, h1, h2⟩ := hP 0 hi
  rw [show Int.toNat 0 = 0 from rfl, h1] at hv
  cases hv
  exact h a tn tp h2
end Mine
namespace Mine
noncomputable def SrcTu (prog : Program) (w : World) (A : Around) (h₀ : Heap) (L : Addr) (m : Str → Option Value) (env : Env) (elt : PySem.Expr) (x : Str) (scope : Scope) (cl : List (Str × Addr)) (Fin : Shared → List Value → List (Addr × Obj) → Prop) (xv : Value) (s₁ : Shared) : Prop :=
  ∃ ax vs news, xv = .ref ax ∧ A.handled = none ∧ Fr h₀ L s₁.heap m ∧ News h₀ L s₁.heap news ∧ (ax, tupO vs) ∈ news ∧ vs.length ≤ 1000 ∧
    ∀ s₂ : Shared, (∃ h, s₂ = { s₁ with heap := h }) → LCg.CompRest prog w A h₀ L m env elt x scope cl s₂ (fun nw => (ax, tupO vs) ∈ nw) (fun i v => vs.toArray[i]? = some v) (Fin s₂) vs.length 0 [] news
theorem comp_tup {prog : Program} {w : World} {A : Around} {E : Value → Shared → Prop} {s : Shared} {h₀ : Heap} {L : Addr} {m : Str → Option Value} {env : Env} {elt iter : PySem.Expr} {x : Str} {px : Pos} {scope : Scope} {cl : List (Str × Addr)} {pos : Pos} {Q : Value → Shared → Prop} (_F₀ : Fr h₀ L s.heap m)
    (hclos : closureFor scope env = pure cl) (hcell : ∀ y ∈ scope.names, y.2 ≠ .cell) (hkind : scope.kind = .function)
    (hnames : ∀ y ∈ scope.names, y.2 = .local → scope.names.lookup y.1 = some .local) (hx : scope.names.lookup x = some .local)
    (h : wpAny (model prog w) A (eval iter env) (SrcTu prog w A h₀ L m env elt x scope cl (fun s₂ => LCg.FinE h₀ L m s₂ Q)) E s)
    (hs : ∀ x, foldedSetIterable iter env x = pure x := by intro _; rfl) :
    wpAny (model prog w) A (eval (.ListComp elt [⟨.Name x px, iter, [], 0⟩] scope pos) env) Q E s := by
  rw [eval_ListComp]
  refine wpAny_comprehension_free (use := none) rfl hs hclos hkind hnames (wpAny_mono h (fun xv s₁ h₁ => ?_) fun _ _ e => e)
  obtain ⟨ax, vs, news, rfl, hh, F, N, hm, hsz, R⟩ := h₁
  have hax := N _ hm
  have hl : s₁.heap.IsTuple ax vs.toArray := ⟨_, hax.1, rfl, _, rfl⟩
  have hlt : ax < s₁.heap.objs.size := Heap.lt_size hax.1
  refine wpAny_pyIter_tuple hl ?_
  have up : ∀ b o, s₁.heap.get? b = some o → (s₁.heap.push { cls := .type "tuple_iterator", data := .fields #[.ref ax, .int 0 0] }).get? b = some o := fun b o e => Heap.get?_push_of_some _ e
  refine LCg.block_U (S := fun nw => (ax, tupO vs) ∈ nw) (Walks.tuple hh s₁.heap.objs.size ax (Nat.ne_of_lt hlt) vs.toArray) (by rw [List.size_toArray, sizeLine_eq]; lia) (fun i h st => by obtain ⟨o, e, _⟩ := st.1; exact ⟨o, e⟩)
    (fun i h h' o nw st e e' k N S => ⟨by obtain ⟨o', q, r⟩ := st.1; rw [e] at q; cases q; exact ⟨o, e', r⟩, ⟨_, (N _ S).1, rfl, _, rfl⟩⟩) hcell hkind hx ⟨⟨_, Heap.get?_push_size _ rfl, rfl, rfl⟩, hl.at fun o e => Heap.get?_push_of_some _ e⟩ (fun b hb => ?_)
    (F.keeps up) (N.grown up) (Nat.ne_of_lt F.ns.lt) (next_is_new F) (fun p hp => Nat.ne_of_lt (Heap.lt_size (N p hp).1)) hm (R _ ⟨_, rfl⟩) ?_
  · show b < (s₁.heap.push _).objs.size
    rw [Heap.size_push]
    rcases List.mem_cons.mp hb with rfl | hb
    · exact Nat.lt_succ_self _
    · rw [List.mem_singleton.mp hb]; exact Nat.lt_succ_of_lt hlt
  · intro D C h tk m' ys news' F' N' o1 hn hC₀ hD₀ hCL hDL hCD offC fin
    refine ⟨m', hn, fun h'' hs'' => fin D h'' tk (F'.change hs'' hCL hC₀) (fun p hp => ?_) o1⟩
    refine ⟨hs''.extBut _ _ ?_ (N' p hp).1, (N' p hp).2⟩
    rcases List.mem_cons.mp hp with rfl | hp
    · exact Ne.symm hCD
    · exact offC p hp
end Mine
namespace Mine
theorem txt_endS {h₀ h' : Heap} {L I C D : Addr} {m : Str → Option Value} {s₁ : Shared} {oI oC oD : Obj} {S : List (Addr × Obj) → Prop} {T : Nat → Str} {fixed : List (Addr × Obj)} {ys : List Value} {i tk : Nat} {x : Str} {t : Tok}
    (F : Fr h₀ L h' m) (N : News h₀ L h' ((I, oI) :: (C, oC) :: (D, oD) :: fixed)) (off : LCg.Off3 I C D fixed) (hS : S fixed) (hT : TxtsAre T i ys) (ex : x = T i) :
    LCg.CompEnd h₀ L m s₁ I oI C oC D oD S (fun y news' => TxtInv T fixed (i + 1) (ys ++ [y]) news') (.str x t) { s₁ with heap := h', toks := tk } := by
  subst ex
  exact ⟨h', tk, fixed, rfl, F, N, off, hS, rfl, hT.snoc⟩
/-- the three codes -/
noncomputable def codeOf (j : Nat) : Str := ([Str.ofString "228", Str.ofString "239", Str.ofString "129"] : List Str).getD j Str.empty
theorem code_len (j : Nat) : (codeOf j).length ≤ 3 := by
  match j with
  | 0 => decide +kernel
  | 1 => decide +kernel
  | 2 => decide +kernel
  | j + 3 => show Str.empty.length ≤ 3; decide +kernel
theorem codes_at {t1 t2 t3 : Tok} {i : Nat} {v : Value} (h : ([.str (Str.ofString "228") t1, .str (Str.ofString "239") t2, .str (Str.ofString "129") t3] : List Value).toArray[i]? = some v) : ∃ t, v = .str (codeOf i) t := by
  match i, h with
  | 0, h => cases h; exact ⟨_, rfl⟩
  | 1, h => cases h; exact ⟨_, rfl⟩
  | 2, h => cases h; exact ⟨_, rfl⟩
/-- the spoilt ends -/
noncomputable def endOf (mk fg : Str) (j : Nat) : Str :=
  ([Txt.mul mk 3 ++ fg ++ mk ++ Str.ofString "x", Txt.mul mk 3 ++ fg ++ mk ++ Str.ofString "x)", Txt.mul mk 4 ++ fg ++ mk ++ Str.ofString ")", Txt.mul mk 2 ++ fg ++ mk ++ Str.ofString ")"] : List Str).getD j Str.empty
theorem ends_are {mk fg : Str} {t0 t1 t2 t3 : Tok} : TxtsAre (endOf mk fg) 4 [.str (Txt.mul mk 3 ++ fg ++ mk ++ Str.ofString "x") t0, .str (Txt.mul mk 3 ++ fg ++ mk ++ Str.ofString "x)") t1, .str (Txt.mul mk 4 ++ fg ++ mk ++ Str.ofString ")") t2, .str (Txt.mul mk 2 ++ fg ++ mk ++ Str.ofString ")") t3] := by
  refine ⟨rfl, fun j hj => ?_⟩
  match j, hj with
  | 0, _ => exact ⟨_, rfl⟩
  | 1, _ => exact ⟨_, rfl⟩
  | 2, _ => exact ⟨_, rfl⟩
  | 3, _ => exact ⟨_, rfl⟩
theorem item_rep0 {prog : Program} {w : World} {A : Around} {E : Value → Shared → Prop} {s : Shared} {value slice : PySem.Expr} {h₀ : Heap} {L l : Addr} {news : List (Addr × Obj)} {ys : List Value} {n k : Nat} {T : Nat → Str} {u : Tok} {Q : Value → Shared → Prop}
    (N : News h₀ L s.heap news) (hm : (l, lstO ys n) ∈ news) (hT : TxtsAre T k ys) (hi : 0 < k) (hk : k ≤ 100) (h : ∀ t, Q (.str (T 0) t) s)
    (hs : subscripted slice false (.ref l) (.int 0 u) = operate [.ref l, .int 0 u] (getItem (.ref l) (.int 0 u)) := by with_unfolding_all rfl) :
    wpAny (model prog w) A (subscriptTail value slice (.ref l) (.int 0 u)) Q E s := by
  have hl := hT.1
  refine item_any N hm (by lia) (by lia) (by lia) (fun v hv => ?_) hs
  obtain ⟨t, e⟩ := hT.2 0 hi
  rw [show Int.toNat 0 = 0 from rfl, e] at hv
  cases hv
  exact h t
/-- the spoilt replies -/
noncomputable def spoT (r fg mk : Str) (j : Nat) : Str := if j < 3 then codeOf j ++ Txt.slice r (some 3) none else if j = 3 then Str.ofString "229 2" ++ fg ++ Str.ofString "2)" else Str.ofString "229 (" ++ endOf mk fg (j - 4)
theorem spo_are {r fg mk : Str} {xs ys : List Value} {t : Tok} (h1 : TxtsAre (fun j => codeOf j ++ Txt.slice r (some 3) none) 3 xs) (h2 : TxtsAre (fun j => Str.ofString "229 (" ++ endOf mk fg j) 4 ys) :
    TxtsAre (spoT r fg mk) 8 (xs ++ [.str (Str.ofString "229 2" ++ fg ++ Str.ofString "2)") t] ++ ys) := by
  refine ⟨by simp [h1.1, h2.1], fun j hj => ?_⟩
  by_cases a : j < 3
  · obtain ⟨t, e⟩ := h1.2 j a
    refine ⟨t, ?_⟩
    rw [List.append_assoc, List.getElem?_append_left (by rw [h1.1]; exact a), e]
    unfold spoT
    rw [if_pos a]
  · by_cases b : j = 3
    · subst b
      refine ⟨t, ?_⟩
      rw [List.append_assoc, List.getElem?_append_right (by rw [h1.1]; lia), h1.1]
      rfl
    · obtain ⟨t, e⟩ := h2.2 (j - 4) (by lia)
      refine ⟨t, ?_⟩
      rw [List.getElem?_append_right (by simp [h1.1]; lia)]
      unfold spoT
      rw [if_neg a, if_neg b, ← e]
      congr 1
      simp [h1.1]
end Mine
namespace Mine
/-- the mark -/
noncomputable abbrev mkOf (ns : List Int) : Str := Txt.item (Str.ofString "|!:#") (Int.fmod (ns.getD (Int.toNat 16) 0) 4)
theorem b229 {x : Str} {B R : List Nat} (hl : x.cps.toList = B ++ R) (h3 : B.length = 3) {b : Bool} (hb : ((⟨B.toArray⟩ : Str) != ⟨#[50, 50, 57]⟩) = b) : (Txt.slice x none (some 3) != Str.ofString "229") = b := by
  rw [slice_to3 hl h3, p229, hb]
theorem spo_one (w : World) {ns : List Int} {S : Int} (h4 : 4 ≤ S) (h5 : S ≤ 2000001) {fg mk : Str} {j : Nat} (hj : j < 3) : Raises w (spoT (repsOf "a" ns 2 S 0) fg mk j) 73 := by
  have hl := (good_reps (ns := ns) (b := 2) (c := "a") (j := 0) (.inl rfl) (by decide) h4 h5).len
  generalize repsOf "a" ns 2 S 0 = r at *
  unfold spoT
  rw [if_pos hj]
  have hs : (Txt.slice r (some 3) none).length ≤ 197 := by
    by_cases h : (3 : Int) ≤ r.length
    · rw [eq_of_beq (slice_closes_fromL (x := r) (i := 3) (by decide) h rfl), len_lst]
      have := len_lst r
      simp
      lia
    · have := Txt.slice_le r (some 3) none
      lia
  generalize Txt.slice r (some 3) none = q at *
  intro t peer x y news hm
  have hl2 : (codeOf j ++ q).length ≤ 200 := by
    have := code_len j
    rw [len_lst, lst_app, List.length_append, ← len_lst, ← len_lst]
    lia
  match j, hj with
  | 0, _ => exact raise1_ok w _ t peer x y news hm hl2 (b229 (B := [50, 50, 56]) (R := q.cps.toList) (by rw [lst_app]; congr 1) rfl (by decide +kernel))
  | 1, _ => exact raise1_ok w _ t peer x y news hm hl2 (b229 (B := [50, 51, 57]) (R := q.cps.toList) (by rw [lst_app]; congr 1) rfl (by decide +kernel))
  | 2, _ => exact raise1_ok w _ t peer x y news hm hl2 (b229 (B := [49, 50, 57]) (R := q.cps.toList) (by rw [lst_app]; congr 1) rfl (by decide +kernel))
theorem t2292 : (Str.ofString "229 2").cps.toList = [50, 50, 57, 32, 50] := by decide +kernel
theorem t2p : (Str.ofString "2)").cps.toList = [50, 41] := by decide +kernel
theorem t229p : (Str.ofString "229 (").cps.toList = [50, 50, 57, 32, 40] := by decide +kernel
theorem tx : (Str.ofString "x").cps.toList = [120] := by decide +kernel
theorem txp : (Str.ofString "x)").cps.toList = [120, 41] := by decide +kernel
theorem tp : (Str.ofString ")").cps.toList = [41] := by decide +kernel
theorem spo_two (w : World) {ns : List Int} {S : Int} (h4 : 4 ≤ S) (h5 : S ≤ 2000001) {r : Str} {j : Nat} (hj : ¬ j < 3) (h8 : j < 8) : Raises w (spoT r (Str.ofString (toString (portsOf ns 2 S 0))) (mkOf ns) j) 85 := by
  have hp0 := portsOf_lo (ns := ns) (b := 2) (i := 0) h4
  have hp1 := portsOf_hi (ns := ns) (b := 2) (i := 0) h4 h5
  have hdl := num_len hp0 hp1
  obtain ⟨hD, -⟩ := num_signs hp0 hp1
  obtain ⟨k, ek, hk⟩ := mark_is (ns.getD (Int.toNat 16) 0)
  unfold mkOf
  rw [ek]
  generalize portsOf ns 2 S 0 = p at *
  rw [len_lst] at hdl
  generalize hDe : Str.ofString (toString p) = fg at *
  generalize hF : fg.cps.toList = D at *
  have hk2 : k ∉ D := fun h => by
    have := hD k h
    lia
  have d41 : 41 ∉ D := fun h => by
    have := hD 41 h
    lia
  have d40 : 40 ∉ D := fun h => by
    have := hD 40 h
    lia
  have k41 : 41 ≠ k := by lia
  have k120 : k ≠ 120 := by lia
  unfold spoT
  rw [if_neg hj]
  intro t peer x y news hm
  have e : j = 3 ∨ j = 4 ∨ j = 5 ∨ j = 6 ∨ j = 7 := by lia
  rcases e with rfl | rfl | rfl | rfl | rfl
  · rw [if_pos rfl]
    have hr : (Str.ofString "229 2" ++ fg ++ Str.ofString "2)").cps.toList = [50, 50, 57] ++ ([32, 50] ++ D ++ [50, 41]) := by
      simp only [lst_app, t2292, t2p, hF]
      simp
    refine raise2_ok w _ t peer x y news hm ?_ (b229 hr rfl (by decide +kernel)) ?_
    · rw [len_lst, hr]; simp; lia
    · rw [p40, find_no (by rw [hr]; simp [d40])]; decide
  · rw [if_neg (by decide)]
    have hr : (Str.ofString "229 (" ++ endOf ⟨#[k]⟩ fg (4 - 4)).cps.toList = [50, 50, 57] ++ ([32, 40] ++ [k, k, k] ++ D ++ [k, 120]) := by
      show (Str.ofString "229 (" ++ (Txt.mul ⟨#[k]⟩ 3 ++ fg ++ ⟨#[k]⟩ ++ Str.ofString "x")).cps.toList = _
      simp only [lst_app, t229p, mul3, hF, tx]
      simp
    have hf : Txt.find (Str.ofString "229 (" ++ endOf ⟨#[k]⟩ fg (4 - 4)) (Str.ofString "(") = 4 := by
      rw [p40, find_at (B := [50, 50, 57, 32]) (R := [k, k, k] ++ D ++ [k, 120]) (by rw [hr]; simp) (by decide)]
      rfl
    refine raise3_ok w _ t peer x y news hm ?_ (b229 hr rfl (by decide +kernel)) ?_ ?_
    · rw [len_lst, hr]; simp; lia
    · rw [hf]; decide
    · rw [hf, p41]
      have := find3_no (x := Str.ofString "229 (" ++ endOf ⟨#[k]⟩ fg (4 - 4)) (A := [50, 50, 57, 32, 40]) (B := [k, k, k] ++ D ++ [k, 120]) (c := 41) (by rw [hr]; simp) (by simp [k41, d41])
      show Txt.find3 _ _ (5 : Int) < 0
      rw [show ((5 : Int)) = (([50, 50, 57, 32, 40] : List Nat).length : Int) from rfl, this]
      decide
  · rw [if_neg (by decide)]
    have hr : (Str.ofString "229 (" ++ endOf ⟨#[k]⟩ fg (5 - 4)).cps.toList = [50, 50, 57] ++ [32] ++ 40 :: (k :: ([k, k] ++ D ++ [k]) ++ [120]) ++ 41 :: [] := by
      show (Str.ofString "229 (" ++ (Txt.mul ⟨#[k]⟩ 3 ++ fg ++ ⟨#[k]⟩ ++ Str.ofString "x)")).cps.toList = _
      simp only [lst_app, t229p, mul3, hF, txp]
      simp
    obtain ⟨a1, a2, a3, a4, a5, a6, a7⟩ := places hr (by decide) k41 (by decide) (by simp [k41, d41])
    refine raise4_ok w _ t peer x y news hm ?_ (by rw [a1]; decide +kernel) a2 a3 a4 ?_
    · rw [len_lst, hr]; simp; lia
    · rw [a5, a6, bne_iff_ne]
      intro h
      exact k120 (by simpa using h)
  · rw [if_neg (by decide)]
    have hr : (Str.ofString "229 (" ++ endOf ⟨#[k]⟩ fg (6 - 4)).cps.toList = [50, 50, 57] ++ [32] ++ 40 :: (k :: ([k, k, k] ++ D) ++ [k]) ++ 41 :: [] := by
      show (Str.ofString "229 (" ++ (Txt.mul ⟨#[k]⟩ 4 ++ fg ++ ⟨#[k]⟩ ++ Str.ofString ")")).cps.toList = _
      simp only [lst_app, t229p, mul4, hF, tp]
      simp
    obtain ⟨a1, a2, a3, a4, a5, a6, a7⟩ := places hr (by decide) k41 k41 (by simp [k41, d41])
    have hs : Txt.split ⟨(k :: ([k, k, k] ++ D) ++ [k]).toArray⟩ ⟨#[k]⟩ = [⟨#[]⟩, ⟨#[]⟩, ⟨#[]⟩, ⟨#[]⟩, ⟨D.toArray⟩, ⟨#[]⟩] := by
      refine split_is (str_ext ?_) (by simp) ?_
      · simp only [Str.join, lst_app]
        simp
      · intro p hp
        simp only [List.mem_cons, List.not_mem_nil, or_false] at hp
        rcases hp with rfl | rfl | rfl | rfl | rfl | rfl <;> simp [hk2]
    refine raise5_ok w _ t peer x y news hm ?_ (by rw [a1]; decide +kernel) a2 a3 a4 ?_ ?_
    · rw [len_lst, hr]; simp; lia
    · rw [a5, a6]; simp
    · rw [a7, hs]; simp
  · rw [if_neg (by decide)]
    have hr : (Str.ofString "229 (" ++ endOf ⟨#[k]⟩ fg (7 - 4)).cps.toList = [50, 50, 57] ++ [32] ++ 40 :: (k :: ([k] ++ D) ++ [k]) ++ 41 :: [] := by
      show (Str.ofString "229 (" ++ (Txt.mul ⟨#[k]⟩ 2 ++ fg ++ ⟨#[k]⟩ ++ Str.ofString ")")).cps.toList = _
      simp only [lst_app, t229p, mul2, hF, tp]
      simp
    obtain ⟨a1, a2, a3, a4, a5, a6, a7⟩ := places hr (by decide) k41 k41 (by simp [k41, d41])
    have hs : Txt.split ⟨(k :: ([k] ++ D) ++ [k]).toArray⟩ ⟨#[k]⟩ = [⟨#[]⟩, ⟨#[]⟩, ⟨D.toArray⟩, ⟨#[]⟩] := by
      refine split_is (str_ext ?_) (by simp) ?_
      · simp only [Str.join, lst_app]
        simp
      · intro p hp
        simp only [List.mem_cons, List.not_mem_nil, or_false] at hp
        rcases hp with rfl | rfl | rfl | rfl <;> simp [hk2]
    refine raise5_ok w _ t peer x y news hm ?_ (by rw [a1]; decide +kernel) a2 a3 a4 ?_ ?_
    · rw [len_lst, hr]; simp; lia
    · rw [a5, a6]; simp
    · rw [a7, hs]; simp
end Mine
namespace Mine
theorem ends_at {mk fg : Str} {t0 t1 t2 t3 : Tok} {i : Nat} {v : Value} (h : ([.str (Txt.mul mk 3 ++ fg ++ mk ++ Str.ofString "x") t0, .str (Txt.mul mk 3 ++ fg ++ mk ++ Str.ofString "x)") t1, .str (Txt.mul mk 4 ++ fg ++ mk ++ Str.ofString ")") t2, .str (Txt.mul mk 2 ++ fg ++ mk ++ Str.ofString ")") t3] : List Value).toArray[i]? = some v) :
    ∃ t, v = .str (endOf mk fg i) t := by
  match i, h with
  | 0, h => cases h; exact ⟨_, rfl⟩
  | 1, h => cases h; exact ⟨_, rfl⟩
  | 2, h => cases h; exact ⟨_, rfl⟩
  | 3, h => cases h; exact ⟨_, rfl⟩
theorem len_app {x y : Str} : (x ++ y).length = x.length + y.length := by
  show (x.cps ++ y.cps).size = _
  rw [Array.size_append]
  rfl
theorem end_len {mk fg : Str} {j : Nat} (h : mk.length = 1) (hf : fg.length ≤ 20) : (endOf mk fg j).length ≤ 40 := by
  have hx : (Str.ofString "x").length = 1 := by decide +kernel
  have hx2 : (Str.ofString "x)").length = 2 := by decide +kernel
  have hx3 : (Str.ofString ")").length = 1 := by decide +kernel
  have h3 : (Txt.mul mk 3).length = 3 := mul_len1 h 3
  have h4 : (Txt.mul mk 4).length = 4 := mul_len1 h 4
  have h2 : (Txt.mul mk 2).length = 2 := mul_len1 h 2
  match j with
  | 0 => show (Txt.mul mk 3 ++ fg ++ mk ++ Str.ofString "x").length ≤ 40; simp only [len_app]; lia
  | 1 => show (Txt.mul mk 3 ++ fg ++ mk ++ Str.ofString "x)").length ≤ 40; simp only [len_app]; lia
  | 2 => show (Txt.mul mk 4 ++ fg ++ mk ++ Str.ofString ")").length ≤ 40; simp only [len_app]; lia
  | 3 => show (Txt.mul mk 2 ++ fg ++ mk ++ Str.ofString ")").length ≤ 40; simp only [len_app]; lia
  | j + 4 => show Str.empty.length ≤ 40; decide +kernel
end Mine
namespace Mine
theorem Claim0.use {w : World} {k : Nat} {f : Addr} {args : List Value} {kw : List (Str × Value)} {news : List (Addr × Obj)} {Ret : (Value → List (Addr × Obj) → Prop)} (C : Claim0 w k f args kw news Ret)
    {dp un : Nat} {gd : Option (List Code)} {cn : Str} {cs : Scope} {a : Addr} {ccd : Value} {cl : List (Str × Addr)} {A₀ : Around} {h₀ : Heap} {L : Addr} {m : Str → Option Value} {s : Shared} {Q E : Value → Shared → Prop}
    {p : Program} {loose : List Str} {mean : ExcName → Option Value} {mg mb : Str → Option Value}
    (B : Below A₀ h₀ [] h₀) (F : Fr h₀ L s.heap m) (X : (hd0.heap_1_39 w.params).In h₀) (N : News h₀ L s.heap news) (T : Top p loose mean mg mb h₀) (hk : cs.kind = .function)
    (hd : dp + k < recursionLimit) (hu : un + 20 * k < cLine)
    (ret : ∀ v news' h' tk', Ret v news' → Fr h₀ L h' m → News h₀ L h' news' → Q v { s with heap := h', toks := tk' }) :
      wpAny (model PySem.Challenge.rw_wu0062_01.row.prog w) (ktrTop dp un gd cn cs L a ccd cl []) (call (.ref f) args kw) Q E s :=
  C dp un gd cn cs a ccd cl A₀ h₀ L m s Q E p loose mean mg mb B F X N T hk hd hu ret
noncomputable def oneTwo (i : Nat) : List Int := (List.range i).map fun j => if j < 3 then 1 else 2
theorem ints_snoc {x : Int} {t : Tok} : ∀ {vs : List Value} {ns : List Int}, IntsAre vs ns → IntsAre (vs ++ [.int x t]) (ns ++ [x])
  | _, _, .nil => .cons _ t .nil
  | _, _, .cons _ u h => .cons _ u (ints_snoc h)
theorem oneTwo_snoc {i : Nat} {x : Int} (h : x = if i < 3 then 1 else 2) : oneTwo (i + 1) = oneTwo i ++ [x] := by
  unfold oneTwo
  rw [List.range_succ, List.map_append, h]
  rfl
noncomputable def IntInv (fixed : List (Addr × Obj)) (i : Nat) (ys : List Value) (news : List (Addr × Obj)) : Prop := news = fixed ∧ ys.length = i ∧ IntsAre ys (oneTwo i)
theorem IntInv.start {h₀ h : Heap} {L : Addr} {fixed : List (Addr × Obj)} (_ : News h₀ L h fixed) : IntInv fixed 0 [] fixed := ⟨rfl, rfl, .nil⟩
theorem int_endS {h₀ h' : Heap} {L I C D : Addr} {m : Str → Option Value} {s₁ : Shared} {oI oC oD : Obj} {S : List (Addr × Obj) → Prop} {fixed : List (Addr × Obj)} {ys : List Value} {i tk : Nat} {x : Int} {t : Tok}
    (F : Fr h₀ L h' m) (N : News h₀ L h' ((I, oI) :: (C, oC) :: (D, oD) :: fixed)) (off : LCg.Off3 I C D fixed) (hS : S fixed) (hl : ys.length = i) (hI : IntsAre ys (oneTwo i)) (ex : x = if i < 3 then 1 else 2) :
    LCg.CompEnd h₀ L m s₁ I oI C oC D oD S (fun y news' => IntInv fixed (i + 1) (ys ++ [y]) news') (.int x t) { s₁ with heap := h', toks := tk } :=
  ⟨h', tk, fixed, rfl, F, N, off, hS, rfl, by rw [List.length_append, hl]; rfl, by rw [oneTwo_snoc ex]; exact ints_snoc hI⟩
theorem txts_get {T : Nat → Str} {k i : Nat} {ys : List Value} {v : Value} (h : TxtsAre T k ys) (hv : ys.toArray[i]? = some v) : i < k ∧ ∃ t, v = .str (T i) t := by
  rw [List.getElem?_toArray] at hv
  have hi := (List.getElem?_eq_some_iff.mp hv).1
  rw [h.1] at hi
  obtain ⟨t, e⟩ := h.2 i hi
  rw [e] at hv
  cases hv
  exact ⟨hi, t, rfl⟩
end Mine
namespace Mine
/-- a mark of the place in the walk -/
structure Stage (n : Nat) : Prop
local macro_rules | `(tactic| walk_at "pyIter ref") => `(tactic| ((with_reducible rename Stage 200 => st9); (k_here; (with_reducible show wpAny _ _ (pyIter (Value.ref _)) _ _ _); refine Hold.of ?_)))
local macro_rules | `(tactic| walk_at "setItem ref int") => `(tactic| ((with_reducible rename Stage 1 => st9); (k_here; (with_reducible show wpAny _ _ (setItem (Value.ref _) _ _) _ _ _); refine Hold.of ?_)))
local macro_rules | `(tactic| k_ne) => `(tactic| exact off1_ne (by with_reducible assumption) (by k_mem))
local macro_rules | `(tactic| k_all) => `(tactic| exact Above.ne (by with_reducible assumption) (by lia))
local macro_rules | `(tactic| walk_at "FinE") => `(tactic| refine Hold.of ?_)
local macro_rules | `(tactic| k_mem) => `(tactic| (with_reducible_and_instances refine List.mem_append_left _ ?_; k_mem))
local macro_rules | `(tactic| k_mem) => `(tactic| with_reducible_and_instances assumption)
local macro_rules | `(tactic| walk_at "subscriptTail") => `(tactic| ((with_reducible rename Stage 201 => st9); (k_here; (with_reducible show wpAny _ _ (subscriptTail _ _ (Value.ref _) (Value.int (0 + _) _)) _ _ _); refine Hold.of ?_)))
local macro_rules | `(tactic| walk_at "call builtin:len") => `(tactic| ((with_reducible rename Stage 202 => st9); (k_here; k_dflt (refine' len_any ?N ?m ?z ?_; (case N => k_asm); (case m => k_mem); (case z => lia); k_whole))))
local macro_rules | `(tactic| walk_at "subscriptTail Name Slice ref ref") => `(tactic| ((with_reducible rename Stage 9 => st9); (k_here; (with_reducible show wpAny _ _ (subscriptTail _ (PySem.Expr.Slice none none (some _) _) (Value.ref _) (Value.ref _)) _ _ _); refine Hold.of ?_)))
local macro_rules | `(tactic| walk_at "subscriptTail") => `(tactic| ((with_reducible rename Stage 12 => st9); (k_here; (with_reducible show wpAny _ _ (subscriptTail _ _ (Value.ref _) (Value.int (Nat.cast _) _)) _ _ _); refine Hold.of ?_)))
local macro_rules | `(tactic| walk_at "Src3") => `(tactic| (k_here; refine Hold.of ?_))
local macro_rules | `(tactic| walk_at "eval Constant int") => `(tactic| ((with_reducible rename Stage 115 => st9); dsimp only))
local macro_rules | `(tactic| walk_at "eval Name") => `(tactic| ((with_reducible rename Stage 115 => st9); dsimp only))
local macro_rules | `(tactic| walk_at "truthy bool") => `(tactic| ((with_reducible rename Stage 115 => st9); dsimp only))
local macro_rules | `(tactic| walk_at "eval Constant str") => `(tactic| ((with_reducible rename Stage 117 => st9); dsimp only))
local macro_rules | `(tactic| walk_at "subscriptTail") => `(tactic| ((with_reducible rename Stage 203 => st9); (k_here; (with_reducible show wpAny _ _ (subscriptTail _ _ (Value.ref _) (Value.int 0 _)) _ _ _); refine Hold.of ?_)))
local macro_rules | `(tactic| walk_at "eval ListComp") => `(tactic| ((with_reducible rename Stage 204 => st9); (k_here; (with_reducible show wpAny _ _ (eval (Expr.ListComp _ [⟨Expr.Name _ _, Expr.Tuple _ _ _, [], _⟩] _ _) _) _ _ _); refine Hold.of ?_)))
local macro_rules | `(tactic| walk_at "SrcTu") => `(tactic| (k_here; refine Hold.of ?_))
local macro_rules | `(tactic| walk_at "eval ListComp") => `(tactic| ((with_reducible rename Stage 205 => st9); (k_here; (with_reducible show wpAny _ _ (eval (Expr.ListComp _ [⟨Expr.Name _ _, Expr.Name _ _, [], _⟩] _ _) _) _ _ _); refine Hold.of ?_)))
/- The head lays, for each constant that it makes, a quick twin with a proof of their equality. That proof grows with the square of the constant. Where the name of the twin is taken, the head does without it: the names below are taken, so that the compiled file stays small. They are used nowhere. -/
theorem joined.tw10151233310533645146 : True := True.intro
theorem joined.tw1027942130893854691 : True := True.intro
theorem joined.tw10285783229602491089 : True := True.intro
theorem joined.tw10347221406564756343 : True := True.intro
theorem joined.tw10442094470229254151 : True := True.intro
theorem joined.tw10452763101987186345 : True := True.intro
theorem joined.tw10471073327044583175 : True := True.intro
theorem joined.tw10593262870856555462 : True := True.intro
theorem joined.tw10899676582699070223 : True := True.intro
theorem joined.tw10953261282597234525 : True := True.intro
theorem joined.tw11099765427900614764 : True := True.intro
theorem joined.tw11519736734938671206 : True := True.intro
theorem joined.tw11922101594939067438 : True := True.intro
theorem joined.tw1197884459743228048 : True := True.intro
theorem joined.tw1198429192662582217 : True := True.intro
theorem joined.tw12188665727218261818 : True := True.intro
theorem joined.tw12234736699906878678 : True := True.intro
theorem joined.tw12240710815909189973 : True := True.intro
theorem joined.tw12355484524322512697 : True := True.intro
theorem joined.tw12415063787053806138 : True := True.intro
theorem joined.tw12573659611459727996 : True := True.intro
theorem joined.tw12830383582667482676 : True := True.intro
theorem joined.tw12884206743703191494 : True := True.intro
theorem joined.tw12900319703711193489 : True := True.intro
theorem joined.tw12935316574246691570 : True := True.intro
theorem joined.tw12968632240603287704 : True := True.intro
theorem joined.tw13012775987164113456 : True := True.intro
theorem joined.tw13024724476519791256 : True := True.intro
theorem joined.tw13105501788971766413 : True := True.intro
theorem joined.tw13218874710986472609 : True := True.intro
theorem joined.tw13236177836179203263 : True := True.intro
theorem joined.tw13283044549052945301 : True := True.intro
theorem joined.tw13303873326811934841 : True := True.intro
theorem joined.tw13462734066717650353 : True := True.intro
theorem joined.tw13499040387660896877 : True := True.intro
theorem joined.tw13542590928270187375 : True := True.intro
theorem joined.tw13696127280957440197 : True := True.intro
theorem joined.tw1373007556353070522 : True := True.intro
theorem joined.tw13774948965231000752 : True := True.intro
theorem joined.tw13800626967037318241 : True := True.intro
theorem joined.tw13840843637300672381 : True := True.intro
theorem joined.tw13858403613675642411 : True := True.intro
theorem joined.tw13876830911239791029 : True := True.intro
theorem joined.tw1392342342523155264 : True := True.intro
theorem joined.tw14240517229908212008 : True := True.intro
theorem joined.tw14295126339887948828 : True := True.intro
theorem joined.tw14326764572723267326 : True := True.intro
theorem joined.tw14328154189331968557 : True := True.intro
theorem joined.tw14366987577495940941 : True := True.intro
theorem joined.tw14503487535435279655 : True := True.intro
theorem joined.tw14671035740828633695 : True := True.intro
theorem joined.tw15083307036683580239 : True := True.intro
theorem joined.tw15187654455994878695 : True := True.intro
theorem joined.tw15270529102946293798 : True := True.intro
theorem joined.tw15380553609194300408 : True := True.intro
theorem joined.tw15587221045393541715 : True := True.intro
theorem joined.tw15690039062468177693 : True := True.intro
theorem joined.tw15760344974446126212 : True := True.intro
theorem joined.tw158506580546336343 : True := True.intro
theorem joined.tw15936480748004049846 : True := True.intro
theorem joined.tw15940238307627816558 : True := True.intro
theorem joined.tw15956394820722649806 : True := True.intro
theorem joined.tw15962715962563352973 : True := True.intro
theorem joined.tw1617410390953448707 : True := True.intro
theorem joined.tw16276573893895910959 : True := True.intro
theorem joined.tw16328696636219402476 : True := True.intro
theorem joined.tw16421192094147637618 : True := True.intro
theorem joined.tw16517996812835508936 : True := True.intro
theorem joined.tw16650272516087058680 : True := True.intro
theorem joined.tw16820838826713314290 : True := True.intro
theorem joined.tw1709066945609698558 : True := True.intro
theorem joined.tw17255363389683276993 : True := True.intro
theorem joined.tw17357089961931387220 : True := True.intro
theorem joined.tw17359013648044423437 : True := True.intro
theorem joined.tw17421046176283152121 : True := True.intro
theorem joined.tw17697649985433978820 : True := True.intro
theorem joined.tw17820607687050543264 : True := True.intro
theorem joined.tw17877342664156804334 : True := True.intro
theorem joined.tw18316739270798647943 : True := True.intro
theorem joined.tw2158020974795696408 : True := True.intro
theorem joined.tw2213364716433512672 : True := True.intro
theorem joined.tw2411650052134736930 : True := True.intro
theorem joined.tw2502018317805250501 : True := True.intro
theorem joined.tw2548960520722086953 : True := True.intro
theorem joined.tw2661789196457824703 : True := True.intro
theorem joined.tw2780462673051835710 : True := True.intro
theorem joined.tw2791596305175550988 : True := True.intro
theorem joined.tw2893361279103254059 : True := True.intro
theorem joined.tw3015503264293040779 : True := True.intro
theorem joined.tw3290803848320030093 : True := True.intro
theorem joined.tw334156776421221415 : True := True.intro
theorem joined.tw3346923407652593782 : True := True.intro
theorem joined.tw342688943006275957 : True := True.intro
theorem joined.tw3463676295339476908 : True := True.intro
theorem joined.tw3602669931363719478 : True := True.intro
theorem joined.tw3686542836851991395 : True := True.intro
theorem joined.tw3828880986979051551 : True := True.intro
theorem joined.tw3859357752952994577 : True := True.intro
theorem joined.tw3939816038804377030 : True := True.intro
theorem joined.tw3944401725586385466 : True := True.intro
theorem joined.tw4002973886536774509 : True := True.intro
theorem joined.tw4023086643844819663 : True := True.intro
theorem joined.tw4081167350768344080 : True := True.intro
theorem joined.tw4184305123840918967 : True := True.intro
theorem joined.tw4207509633433574124 : True := True.intro
theorem joined.tw4252025068837197171 : True := True.intro
theorem joined.tw4374295744847189607 : True := True.intro
theorem joined.tw4554379266847124498 : True := True.intro
theorem joined.tw4574072331405090531 : True := True.intro
theorem joined.tw4629509380502741176 : True := True.intro
theorem joined.tw4779350796276676384 : True := True.intro
theorem joined.tw499391273720735921 : True := True.intro
theorem joined.tw506711193579104584 : True := True.intro
theorem joined.tw5279545341077042511 : True := True.intro
theorem joined.tw5328313232275962622 : True := True.intro
theorem joined.tw5332516678748288206 : True := True.intro
theorem joined.tw5374014946334845779 : True := True.intro
theorem joined.tw5471916891196267162 : True := True.intro
theorem joined.tw5647487063889257127 : True := True.intro
theorem joined.tw5734322732779109362 : True := True.intro
theorem joined.tw59450422780795421 : True := True.intro
theorem joined.tw6047412575382731651 : True := True.intro
theorem joined.tw6077385699954874734 : True := True.intro
theorem joined.tw618092884007527642 : True := True.intro
theorem joined.tw6372584442211725069 : True := True.intro
theorem joined.tw6393877673199089841 : True := True.intro
theorem joined.tw6476328747867646564 : True := True.intro
theorem joined.tw6497293569328331074 : True := True.intro
theorem joined.tw654713601734331886 : True := True.intro
theorem joined.tw6605980357697953941 : True := True.intro
theorem joined.tw6660922392875659241 : True := True.intro
theorem joined.tw6885607212837177478 : True := True.intro
theorem joined.tw6950984113090810197 : True := True.intro
theorem joined.tw7149023045767998652 : True := True.intro
theorem joined.tw7202382722322411881 : True := True.intro
theorem joined.tw7206964369590423574 : True := True.intro
theorem joined.tw7237075359318166527 : True := True.intro
theorem joined.tw7255269526312786388 : True := True.intro
theorem joined.tw7441027930822915298 : True := True.intro
theorem joined.tw7441039163481467519 : True := True.intro
theorem joined.tw7695242533436624187 : True := True.intro
theorem joined.tw7825462465049666276 : True := True.intro
theorem joined.tw8067661763040832447 : True := True.intro
theorem joined.tw8172527398388040236 : True := True.intro
theorem joined.tw825472786010668174 : True := True.intro
theorem joined.tw8655928049174703924 : True := True.intro
theorem joined.tw8691446290586122678 : True := True.intro
theorem joined.tw8695084478803602257 : True := True.intro
theorem joined.tw8860800598527484684 : True := True.intro
theorem joined.tw8887806392580539912 : True := True.intro
theorem joined.tw8888017668673433972 : True := True.intro
theorem joined.tw890200830820759619 : True := True.intro
theorem joined.tw900516813502517799 : True := True.intro
theorem joined.tw903294737116592629 : True := True.intro
theorem joined.tw9199968646932539294 : True := True.intro
theorem joined.tw9260299135454317180 : True := True.intro
theorem joined.tw9278062990012675829 : True := True.intro
theorem joined.tw9357527945781147946 : True := True.intro
theorem joined.tw9461716085335952369 : True := True.intro
theorem joined.tw9473998023314498359 : True := True.intro
theorem joined.tw9550116500351168569 : True := True.intro
theorem joined.tw9631569120137429881 : True := True.intro
theorem joined.tw97548798848973305 : True := True.intro
theorem joined.tw9771348635727910263 : True := True.intro
theorem joined.tw9815319924283290635 : True := True.intro
theorem joined.tw9915437245143846420 : True := True.intro
theorem joined.tw9974941247824670803 : True := True.intro
set_option Elab.async true in
set_option maxHeartbeats 16000000 in
theorem joined : PySem.Challenge.rw_wu0062_01.Holds := by
  w_on
  o_law
  k_head
  case hw => w_witness2
  k_go0
  all_goals try k_fold
  rename Frag.In _ _ => KX
  replace KX : (hd0.heap_1_39 _).In _ := KX
  rename Hook.says _ _ _ => Y9
  clear Y9
  rename Shared => s1
  generalize hG : GoodW _ _ _ _ _ = G
  generalize hG2 : GrownAll _ = G2
  generalize hh0 : ghostOf s1.heap [(170, 166)] = h0 at *
  generalize hL0 : s1.heap.objs.size = L0 at *
  generalize hgn : s1.gens = gn1
  generalize hdr : s1.drawn = dr1
  generalize hos : s1.os = os1
  have st9 : Stage 0 := ⟨⟩
  have st6 : StopAt "exec For Tuple Call cons nil" := ⟨⟩
  k_steps
  refine Hold.out ?_
  rename Stage 0 => zc9
  clear zc9
  have st9 : Stage 1 := ⟨⟩
  rename StopAt "exec For Tuple Call cons nil" => zc6
  clear zc6
  have st7 : Stage 200 := ⟨⟩
  rename Fr _ _ _ _ => F0
  have F1 := fr_script lifted F0 (by with_unfolding_all rfl)
  clear F0
  rename Heap.CodeRec _ _ _ => x1
  clear x1
  rename Dflts _ _ _ _ _ _ => x1
  clear x1
  k_steps
  refine Hold.out ?_
  rename PairSrcL _ _ _ _ _ _ _ _ _ _ _ _ => S1
  rename News _ _ _ _ => N1
  rename Fr _ _ _ _ => F1
  refine PairSrcL.at S1 _ rfl _ _ _ _ (ScrJ _ _ _) ⟨_, [1, 4, 3, 8, 1, 6, 5, 2, 8, 9, 4, 7, 0, 1, 3, 2, 0], _, rfl, ?ints0_1, ?len0_1, fun _ _ _ => rfl⟩ ?step0_1 ?fin0_1
  case ints0_1 => repeat (first | exact .nil | refine .cons _ _ ?_)
  case len0_1 => rfl
  case step0_1 =>
    intro i a ti v m₁ news₁ s₁' own hs0
    apply open_e2 hs0
    intro h2 tk2 ha hv0
    apply open_e hv0
    intro tv hI0
    apply open_eq3 hI0
    intro vs ns n hP0
    have hI := hP0.1
    have hlen := hP0.2.1
    have hr := hP0.2.2
    intro _ ho F2 N2
    replace F2 := scr_fr hr F2
    have hfx := own_ne N2 ho (by
      intro p hp
      simp only [List.mem_cons, List.not_mem_nil, or_false] at hp
      rcases hp with rfl | rfl | rfl | rfl | rfl | rfl | rfl <;> (dsimp only; first | k_ne | fail))
    replace N2 := news_sub N2 own_swap
    clear S1 N1 F1
    k_steps
    refine Hold.out ?_
    k_dflt (refine' ksa_set ?k1_1 ?k2_1 ?k3_1 ?k4_1 ?k5_1 ?k6_1 ?k7_1 ?_)
    case k1_1 => k_asm
    case k2_1 => k_asm
    case k3_1 => exact .head hfx
    case k4_1 => exact hI
    case k5_1 => exact mod17_lo _
    case k6_1 => rw [hlen]; exact mod17_hi _
    case k7_1 => exact Int.lt_of_lt_of_le (mod17_hi _) (by decide)
    k_whole
    intro h3 F3 N3 hI3 hl3 _
    k_steps
    exact scr_end F3 N3 hI3 (hl3.trans hlen) (fun z h1 h2 => by simp only [if_neg h1, if_neg h2])
  case fin0_1 =>
    intro h2 tk2 m2 news2 F2 N2 hmap hI0
    revert N2
    apply open_eq3 hI0
    intro vs ns n hP0
    have hI := hP0.1
    have hlen := hP0.2.1
    have hr := hP0.2.2
    intro N2
    clear S1 N1 F1
    dsimp only at F2 N2 ⊢
    dsimp only [envOfC] at F2 N2
    revert F2 N2
    rename News _ _ _ _ => x1
    clear x1
    rename Fr _ _ _ _ => x1
    clear x1
    intro F2 N2
    rename _ = Data.cell (bindC _ _ _ (Str.ofString "cells")) => x1
    clear x1
    rename CellsAre _ _ _ => x1
    clear x1
    clear hmap
    rename _ = Data.cell (bindC _ _ _ (Str.ofString "spread")) => e2
    replace e2 := cell_none e2 (by with_unfolding_all rfl)
    rename _ = Data.cell (bindC _ _ _ (Str.ofString "pairs")) => e3
    replace e3 := cell_none e3 (by with_unfolding_all rfl)
    rename _ = Data.cell (bindC _ _ _ (Str.ofString "others")) => e4
    replace e4 := cell_none e4 (by with_unfolding_all rfl)
    rename _ = Data.cell (bindC _ _ _ (Str.ofString "replies")) => e5
    replace e5 := cell_none e5 (by with_unfolding_all rfl)
    rename _ = Data.cell (bindC _ _ _ (Str.ofString "more")) => e6
    replace e6 := cell_none e6 (by with_unfolding_all rfl)
    rename Stage 1 => zc9
    clear zc9
    have st9 : Stage 2 := ⟨⟩
    have st8 : Stage 102 := ⟨⟩
    have st6 : StopAt "execs cons" := ⟨⟩
    have st6 : StopAt "CompSrc" := ⟨⟩
    have st6 : StopAt "subscriptTail" := ⟨⟩
    have st6 : StopAt "CompEnd" := ⟨⟩
    rename Stage 200 => zc7
    clear zc7
    refine wpAny_execs_cons ?_
    k_steps
    repeat' ((with_reducible refine Hold.out ?_); (first | ((with_reducible show wpAny _ _ (subscriptTail _ _ _ _) _ _ _); refine item_spread (by k_asm) (by k_mem) ?_; intro Sq9 uq9 hS0q9 hS1q9) | fail); k_steps)
    refine Hold.out ?_
    refine wpAny_execs_cons ?_
    k_steps
    repeat' ((with_reducible refine Hold.out ?_); (first | ((with_reducible show wpAny _ _ (subscriptTail _ _ _ _) _ _ _); refine item_spread (by k_asm) (by k_mem) ?_; intro Sq9 uq9 hS0q9 hS1q9) | fail); k_steps)
    rename Stage 2 => zc9
    clear zc9
    have st9 : Stage 3 := ⟨⟩
    rename StopAt "subscriptTail" => zc6
    clear zc6
    refine Hold.out ?_
    rename Fr _ _ _ _ => F1
    rename News _ _ _ _ => N1
    rename IsRange _ _ _ _ _ _ _ _ => R1
    obtain ⟨ma, hma, hma1, hma4⟩ := count_of (ns.getD (Int.toNat 0) 0) (k := 4) (by decide)
    rw [hma] at R1
    refine LCg.CompSrc.range rfl F1 N1 R1 (range_small (by lia)) (range_size ma) (size_ok (by lia)) (fun g => ?_)
    rename Int => S
    refine compRest_ind (TupInv (nameOf "a") (portsOf ns 2 S) _ _) ?step0_3 ?fin0_3 ma 0 [] _ (Nat.zero_add _) (TupInv.start (nameOf "a") (portsOf ns 2 S) N1)
    case step0_3 =>
      intro i ys news hi hI0
      apply open_eq hI0
      intro T hP0
      have hyl := hP0.1
      have hT := hP0.2.1
      have hA := hP0.2.2
      intro v I oI C oC D m₂ h tk E' hv0
      apply open_e hv0
      intro tv hC hx F2 N2 off2 ne2
      clear ne2
      clear F1 N1
      simp only [List.cons_append, List.nil_append] at N2
      k_steps
      repeat' ((with_reducible refine Hold.out ?_); (first | ((unfold LCg.FinE); intro Dq9 hq9 tkq9 Fq9 Nq9 oq9; (try simp only [List.nil_append, List.cons_append] at oq9); (try simp only [List.nil_append, List.cons_append] at Nq9); (try dsimp only)) | fail); k_steps)
      refine Hold.out ?_
      rename Fr _ _ _ _ => F3
      rename News _ _ _ _ => N3
      exact tup_end (fixed := [_, _, _, _, _, _, _, _, _]) F3 N3 off2 (by (first | (with_reducible (rename _ ∧ _ => z9; first | exact z9.1 | exact z9.2.1 | exact z9.2.2.1 | exact z9.2.2.2.1 | exact z9.2.2.2.2.1 | exact z9.2.2.2.2.2.1 | exact z9.2.2.2.2.2.2.1 | exact z9.2.2.2.2.2.2.2.1 | exact z9.2.2.2.2.2.2.2.2.1 | exact z9.2.2.2.2.2.2.2.2.2.1 | exact z9.2.2.2.2.2.2.2.2.2.2.1 | exact z9.2.2.2.2.2.2.2.2.2.2.2.1 | exact z9.2.2.2.2.2.2.2.2.2.2.2.2.1 | exact z9.2.2.2.2.2.2.2.2.2.2.2.2.2.1 | exact z9.2.2.2.2.2.2.2.2.2.2.2.2.2.2.1 | exact z9.2.2.2.2.2.2.2.2.2.2.2.2.2.2.2.1 | exact z9.2.2.2.2.2.2.2.2.2.2.2.2.2.2.2.2.1 | exact z9.2.2.2.2.2.2.2.2.2.2.2.2.2.2.2.2.2.1)) | lia)) (by (first | (with_reducible (rename _ ∧ _ => z9; first | exact z9.1 | exact z9.2.1 | exact z9.2.2.1 | exact z9.2.2.2.1 | exact z9.2.2.2.2.1 | exact z9.2.2.2.2.2.1 | exact z9.2.2.2.2.2.2.1 | exact z9.2.2.2.2.2.2.2.1 | exact z9.2.2.2.2.2.2.2.2.1 | exact z9.2.2.2.2.2.2.2.2.2.1 | exact z9.2.2.2.2.2.2.2.2.2.2.1 | exact z9.2.2.2.2.2.2.2.2.2.2.2.1 | exact z9.2.2.2.2.2.2.2.2.2.2.2.2.1 | exact z9.2.2.2.2.2.2.2.2.2.2.2.2.2.1 | exact z9.2.2.2.2.2.2.2.2.2.2.2.2.2.2.1 | exact z9.2.2.2.2.2.2.2.2.2.2.2.2.2.2.2.1 | exact z9.2.2.2.2.2.2.2.2.2.2.2.2.2.2.2.2.1 | exact z9.2.2.2.2.2.2.2.2.2.2.2.2.2.2.2.2.2.1)) | lia)) (by (first | (with_reducible (rename _ ∧ _ => z9; first | exact z9.1 | exact z9.2.1 | exact z9.2.2.1 | exact z9.2.2.2.1 | exact z9.2.2.2.2.1 | exact z9.2.2.2.2.2.1 | exact z9.2.2.2.2.2.2.1 | exact z9.2.2.2.2.2.2.2.1 | exact z9.2.2.2.2.2.2.2.2.1 | exact z9.2.2.2.2.2.2.2.2.2.1 | exact z9.2.2.2.2.2.2.2.2.2.2.1 | exact z9.2.2.2.2.2.2.2.2.2.2.2.1 | exact z9.2.2.2.2.2.2.2.2.2.2.2.2.1 | exact z9.2.2.2.2.2.2.2.2.2.2.2.2.2.1 | exact z9.2.2.2.2.2.2.2.2.2.2.2.2.2.2.1 | exact z9.2.2.2.2.2.2.2.2.2.2.2.2.2.2.2.1 | exact z9.2.2.2.2.2.2.2.2.2.2.2.2.2.2.2.2.1 | exact z9.2.2.2.2.2.2.2.2.2.2.2.2.2.2.2.2.2.1)) | lia)) (by (first | (with_reducible (rename _ ∧ _ => z9; first | exact z9.1 | exact z9.2.1 | exact z9.2.2.1 | exact z9.2.2.2.1 | exact z9.2.2.2.2.1 | exact z9.2.2.2.2.2.1 | exact z9.2.2.2.2.2.2.1 | exact z9.2.2.2.2.2.2.2.1 | exact z9.2.2.2.2.2.2.2.2.1 | exact z9.2.2.2.2.2.2.2.2.2.1 | exact z9.2.2.2.2.2.2.2.2.2.2.1 | exact z9.2.2.2.2.2.2.2.2.2.2.2.1 | exact z9.2.2.2.2.2.2.2.2.2.2.2.2.1 | exact z9.2.2.2.2.2.2.2.2.2.2.2.2.2.1 | exact z9.2.2.2.2.2.2.2.2.2.2.2.2.2.2.1 | exact z9.2.2.2.2.2.2.2.2.2.2.2.2.2.2.2.1 | exact z9.2.2.2.2.2.2.2.2.2.2.2.2.2.2.2.2.1 | exact z9.2.2.2.2.2.2.2.2.2.2.2.2.2.2.2.2.2.1)) | lia)) hyl hT hA nameOf_eq (portsOf_eq (b := 2))
    case fin0_3 =>
      intro pv news hI0
      have tr0 := True.intro
      revert tr0
      apply open_eq hI0
      intro T1 hP0 _
      have hpl := hP0.1
      have hT1 := hP0.2.1
      have hA1 := hP0.2.2
      clear F1 N1 R1
      k_steps
      repeat' ((with_reducible refine Hold.out ?_); (first | ((unfold LCg.FinE); intro Dq9 hq9 tkq9 Fq9 Nq9 oq9; (try simp only [List.nil_append, List.cons_append] at oq9); (try simp only [List.nil_append, List.cons_append] at Nq9); (try dsimp only)) | fail); k_steps)
      refine Hold.out ?_
      rename Stage 3 => zc9
      clear zc9
      have st9 : Stage 4 := ⟨⟩
      refine wpAny_execs_cons ?_
      k_steps
      repeat' ((with_reducible refine Hold.out ?_); (first | ((unfold LCg.FinE); intro Dq9 hq9 tkq9 Fq9 Nq9 oq9; (try simp only [List.nil_append, List.cons_append] at oq9); (try simp only [List.nil_append, List.cons_append] at Nq9); (try dsimp only)) | fail); k_steps)
      refine Hold.out ?_
      rename Fr _ _ _ _ => F1
      rename News _ _ _ _ => N1
      rename IsRange _ _ _ _ _ _ _ _ => R1
      obtain ⟨mb, hmb, hmb1, hmb9⟩ := count_of (ns.getD (Int.toNat 1) 0) (k := 9) (by decide)
      rw [hmb] at R1
      refine LCg.CompSrc.range rfl F1 N1 R1 (range_small (by lia)) (range_size mb) (size_ok (by lia)) (fun g => ?_)
      refine compRest_ind (TupInv (nameOf "b") (portsOf ns 6 S) _ _) ?step0_4 ?fin0_4 mb 0 [] _ (Nat.zero_add _) (TupInv.start (nameOf "b") (portsOf ns 6 S) N1)
      case step0_4 =>
        intro i ys news hi hI0
        apply open_eq hI0
        intro T hP0
        have hyl := hP0.1
        have hT := hP0.2.1
        have hA := hP0.2.2
        intro v I oI C oC D m₂ h tk E' hv0
        apply open_e hv0
        intro tv hC hx F2 N2 off2 ne2
        clear ne2
        clear F1 N1
        simp only [List.cons_append, List.nil_append] at N2
        k_steps
        repeat' ((with_reducible refine Hold.out ?_); (first | ((unfold LCg.FinE); intro Dq9 hq9 tkq9 Fq9 Nq9 oq9; (try simp only [List.nil_append, List.cons_append] at oq9); (try simp only [List.nil_append, List.cons_append] at Nq9); (try dsimp only)) | fail); k_steps)
        refine Hold.out ?_
        rename Fr _ _ _ _ => F3
        rename News _ _ _ _ => N3
        exact tup_end (fixed := _ :: _ :: _ :: _ :: _ :: _ :: _ :: _ :: _ :: _ :: T1) F3 N3 off2 (by (first | (with_reducible (rename _ ∧ _ => z9; first | exact z9.1 | exact z9.2.1 | exact z9.2.2.1 | exact z9.2.2.2.1 | exact z9.2.2.2.2.1 | exact z9.2.2.2.2.2.1 | exact z9.2.2.2.2.2.2.1 | exact z9.2.2.2.2.2.2.2.1 | exact z9.2.2.2.2.2.2.2.2.1 | exact z9.2.2.2.2.2.2.2.2.2.1 | exact z9.2.2.2.2.2.2.2.2.2.2.1 | exact z9.2.2.2.2.2.2.2.2.2.2.2.1 | exact z9.2.2.2.2.2.2.2.2.2.2.2.2.1 | exact z9.2.2.2.2.2.2.2.2.2.2.2.2.2.1 | exact z9.2.2.2.2.2.2.2.2.2.2.2.2.2.2.1 | exact z9.2.2.2.2.2.2.2.2.2.2.2.2.2.2.2.1 | exact z9.2.2.2.2.2.2.2.2.2.2.2.2.2.2.2.2.1 | exact z9.2.2.2.2.2.2.2.2.2.2.2.2.2.2.2.2.2.1)) | lia)) (by (first | (with_reducible (rename _ ∧ _ => z9; first | exact z9.1 | exact z9.2.1 | exact z9.2.2.1 | exact z9.2.2.2.1 | exact z9.2.2.2.2.1 | exact z9.2.2.2.2.2.1 | exact z9.2.2.2.2.2.2.1 | exact z9.2.2.2.2.2.2.2.1 | exact z9.2.2.2.2.2.2.2.2.1 | exact z9.2.2.2.2.2.2.2.2.2.1 | exact z9.2.2.2.2.2.2.2.2.2.2.1 | exact z9.2.2.2.2.2.2.2.2.2.2.2.1 | exact z9.2.2.2.2.2.2.2.2.2.2.2.2.1 | exact z9.2.2.2.2.2.2.2.2.2.2.2.2.2.1 | exact z9.2.2.2.2.2.2.2.2.2.2.2.2.2.2.1 | exact z9.2.2.2.2.2.2.2.2.2.2.2.2.2.2.2.1 | exact z9.2.2.2.2.2.2.2.2.2.2.2.2.2.2.2.2.1 | exact z9.2.2.2.2.2.2.2.2.2.2.2.2.2.2.2.2.2.1)) | lia)) (by (first | (with_reducible (rename _ ∧ _ => z9; first | exact z9.1 | exact z9.2.1 | exact z9.2.2.1 | exact z9.2.2.2.1 | exact z9.2.2.2.2.1 | exact z9.2.2.2.2.2.1 | exact z9.2.2.2.2.2.2.1 | exact z9.2.2.2.2.2.2.2.1 | exact z9.2.2.2.2.2.2.2.2.1 | exact z9.2.2.2.2.2.2.2.2.2.1 | exact z9.2.2.2.2.2.2.2.2.2.2.1 | exact z9.2.2.2.2.2.2.2.2.2.2.2.1 | exact z9.2.2.2.2.2.2.2.2.2.2.2.2.1 | exact z9.2.2.2.2.2.2.2.2.2.2.2.2.2.1 | exact z9.2.2.2.2.2.2.2.2.2.2.2.2.2.2.1 | exact z9.2.2.2.2.2.2.2.2.2.2.2.2.2.2.2.1 | exact z9.2.2.2.2.2.2.2.2.2.2.2.2.2.2.2.2.1 | exact z9.2.2.2.2.2.2.2.2.2.2.2.2.2.2.2.2.2.1)) | lia)) (by (first | (with_reducible (rename _ ∧ _ => z9; first | exact z9.1 | exact z9.2.1 | exact z9.2.2.1 | exact z9.2.2.2.1 | exact z9.2.2.2.2.1 | exact z9.2.2.2.2.2.1 | exact z9.2.2.2.2.2.2.1 | exact z9.2.2.2.2.2.2.2.1 | exact z9.2.2.2.2.2.2.2.2.1 | exact z9.2.2.2.2.2.2.2.2.2.1 | exact z9.2.2.2.2.2.2.2.2.2.2.1 | exact z9.2.2.2.2.2.2.2.2.2.2.2.1 | exact z9.2.2.2.2.2.2.2.2.2.2.2.2.1 | exact z9.2.2.2.2.2.2.2.2.2.2.2.2.2.1 | exact z9.2.2.2.2.2.2.2.2.2.2.2.2.2.2.1 | exact z9.2.2.2.2.2.2.2.2.2.2.2.2.2.2.2.1 | exact z9.2.2.2.2.2.2.2.2.2.2.2.2.2.2.2.2.1 | exact z9.2.2.2.2.2.2.2.2.2.2.2.2.2.2.2.2.2.1)) | lia)) hyl hT hA nameOf_eq (portsOf_eq (b := 6))
      case fin0_4 =>
        intro ov news hI0
        have tr0 := True.intro
        revert tr0
        apply open_eq hI0
        intro T2 hP0 _
        have hol := hP0.1
        have hT2 := hP0.2.1
        have hA2 := hP0.2.2
        clear F1 N1 R1
        have hP1 := hT1.mono (R' := T1 ++ T2) (fun p => List.mem_append_left _)
        have hP2 := hT2.mono (R' := T1 ++ T2) (fun p => List.mem_append_right _)
        have hA := hA1.append hA2
        simp only [List.cons_append, List.nil_append]
        generalize T1 ++ T2 = R at hP1 hP2 hA ⊢
        clear hT1 hT2 hA1 hA2
        k_steps
        repeat' ((with_reducible refine Hold.out ?_); (first | ((unfold LCg.FinE); intro Dq9 hq9 tkq9 Fq9 Nq9 oq9; (try simp only [List.nil_append, List.cons_append] at oq9); (try simp only [List.nil_append, List.cons_append] at Nq9); (try dsimp only)) | fail); k_steps)
        refine Hold.out ?_
        rename Stage 4 => zc9
        clear zc9
        have st9 : Stage 5 := ⟨⟩
        have st8 : Stage 105 := ⟨⟩
        have st6 : StopAt "call ref" := ⟨⟩
        have st7 : Stage 201 := ⟨⟩
        have st7 : Stage 202 := ⟨⟩
        refine wpAny_execs_cons ?_
        k_steps
        repeat' ((with_reducible refine Hold.out ?_); (first | ((with_reducible show wpAny _ _ (call (Value.ref 143) _ _) _ _ _); refine Claim.use1 ⟨by k_asm, by k_asm, by k_asm, by k_asm, by k_asm, by first | exact rfl | assumption, by first | exact room1 (by with_reducible assumption) (by decide) | ktr_room, by first | exact units1 (by with_reducible assumption) (by decide) | ktr_units⟩ (reply_ok _ _ _ _ _ _ _ (name_len (by simp) (by lia)) (portsOf_lo (by assumption)) (portsOf_hi (by assumption) (by assumption)) (num_len (portsOf_lo (by assumption)) (portsOf_hi (by assumption) (by assumption))) _) ?_; intro tq9 hq9 tkq9 Fq9 Nq9; (try dsimp only)) | ((with_reducible show wpAny _ _ (subscriptTail _ _ (Value.ref _) (Value.int (0 + _) _)) _ _ _); refine item_pair (by k_asm) (by k_mem) (by with_reducible assumption) (by assumption) (by assumption) (by lia) ?_; intro aq9 tnq9 tpq9 hmq9) | ((unfold LCg.FinE); intro Dq9 hq9 tkq9 Fq9 Nq9 oq9; (try simp only [List.nil_append, List.cons_append] at oq9); (try simp only [List.nil_append, List.cons_append] at Nq9); (try dsimp only)) | fail); k_steps)
        refine Hold.out ?_
        rename Fr _ _ _ _ => F1
        rename News _ _ _ _ => N1
        rename IsRange _ _ _ _ _ _ _ _ => R1
        rw [hpl] at R1
        refine LCg.CompSrc.range rfl F1 N1 R1 (range_small (by lia)) (range_size ma) (size_ok (by lia)) (fun g => ?_)
        refine compRest_ind (TxtInv (repsOf "a" ns 2 S) _) ?step0_5 ?fin0_5 ma 0 [] _ (Nat.zero_add _) (TxtInv.start (repsOf "a" ns 2 S) N1)
        case step0_5 =>
          intro i ys news hi hI0
          apply open_c hI0
          intro hT
          intro v I oI C oC D m₂ h tk E' hv0
          apply open_e hv0
          intro tv hC hx F2 N2 off2 ne2
          clear ne2
          clear F1 N1
          k_steps
          repeat' ((with_reducible refine Hold.out ?_); (first | ((with_reducible show wpAny _ _ (call (Value.ref 143) _ _) _ _ _); refine Claim.use1 ⟨by k_asm, by k_asm, by k_asm, by k_asm, by k_asm, by first | exact rfl | assumption, by first | exact room1 (by with_reducible assumption) (by decide) | ktr_room, by first | exact units1 (by with_reducible assumption) (by decide) | ktr_units⟩ (reply_ok _ _ _ _ _ _ _ (name_len (by simp) (by lia)) (portsOf_lo (by assumption)) (portsOf_hi (by assumption) (by assumption)) (num_len (portsOf_lo (by assumption)) (portsOf_hi (by assumption) (by assumption))) _) ?_; intro tq9 hq9 tkq9 Fq9 Nq9; (try dsimp only)) | ((with_reducible show wpAny _ _ (subscriptTail _ _ (Value.ref _) (Value.int (0 + _) _)) _ _ _); refine item_pair (by k_asm) (by k_mem) (by with_reducible assumption) (by assumption) (by assumption) (by lia) ?_; intro aq9 tnq9 tpq9 hmq9) | ((unfold LCg.FinE); intro Dq9 hq9 tkq9 Fq9 Nq9 oq9; (try simp only [List.nil_append, List.cons_append] at oq9); (try simp only [List.nil_append, List.cons_append] at Nq9); (try dsimp only)) | fail); k_steps)
          refine Hold.out ?_
          rename Fr _ _ _ _ => F3
          rename News _ _ _ _ => N3
          exact txt_end F3 N3 off2 hT repsOf_eq
        case fin0_5 =>
          intro rv news hI0
          have tr0 := True.intro
          revert tr0
          apply open_c hI0
          intro hrv _
          clear F1 N1 R1
          k_steps
          repeat' ((with_reducible refine Hold.out ?_); (first | ((with_reducible show wpAny _ _ (call (Value.ref 143) _ _) _ _ _); refine Claim.use1 ⟨by k_asm, by k_asm, by k_asm, by k_asm, by k_asm, by first | exact rfl | assumption, by first | exact room1 (by with_reducible assumption) (by decide) | ktr_room, by first | exact units1 (by with_reducible assumption) (by decide) | ktr_units⟩ (reply_ok _ _ _ _ _ _ _ (name_len (by simp) (by lia)) (portsOf_lo (by assumption)) (portsOf_hi (by assumption) (by assumption)) (num_len (portsOf_lo (by assumption)) (portsOf_hi (by assumption) (by assumption))) _) ?_; intro tq9 hq9 tkq9 Fq9 Nq9; (try dsimp only)) | ((with_reducible show wpAny _ _ (subscriptTail _ _ (Value.ref _) (Value.int (0 + _) _)) _ _ _); refine item_pair (by k_asm) (by k_mem) (by with_reducible assumption) (by assumption) (by assumption) (by lia) ?_; intro aq9 tnq9 tpq9 hmq9) | ((unfold LCg.FinE); intro Dq9 hq9 tkq9 Fq9 Nq9 oq9; (try simp only [List.nil_append, List.cons_append] at oq9); (try simp only [List.nil_append, List.cons_append] at Nq9); (try dsimp only)) | fail); k_steps)
          refine Hold.out ?_
          rename Stage 5 => zc9
          clear zc9
          have st9 : Stage 6 := ⟨⟩
          refine wpAny_execs_cons ?_
          k_steps
          repeat' ((with_reducible refine Hold.out ?_); (first | ((with_reducible show wpAny _ _ (call (Value.ref 143) _ _) _ _ _); refine Claim.use1 ⟨by k_asm, by k_asm, by k_asm, by k_asm, by k_asm, by first | exact rfl | assumption, by first | exact room1 (by with_reducible assumption) (by decide) | ktr_room, by first | exact units1 (by with_reducible assumption) (by decide) | ktr_units⟩ (reply_ok _ _ _ _ _ _ _ (name_len (by simp) (by lia)) (portsOf_lo (by assumption)) (portsOf_hi (by assumption) (by assumption)) (num_len (portsOf_lo (by assumption)) (portsOf_hi (by assumption) (by assumption))) _) ?_; intro tq9 hq9 tkq9 Fq9 Nq9; (try dsimp only)) | ((with_reducible show wpAny _ _ (subscriptTail _ _ (Value.ref _) (Value.int (0 + _) _)) _ _ _); refine item_pair (by k_asm) (by k_mem) (by with_reducible assumption) (by assumption) (by assumption) (by lia) ?_; intro aq9 tnq9 tpq9 hmq9) | ((unfold LCg.FinE); intro Dq9 hq9 tkq9 Fq9 Nq9 oq9; (try simp only [List.nil_append, List.cons_append] at oq9); (try simp only [List.nil_append, List.cons_append] at Nq9); (try dsimp only)) | fail); k_steps)
          refine Hold.out ?_
          rename Fr _ _ _ _ => F1
          rename News _ _ _ _ => N1
          rename IsRange _ _ _ _ _ _ _ _ => R1
          rw [hol] at R1
          refine LCg.CompSrc.range rfl F1 N1 R1 (range_small (by lia)) (range_size mb) (size_ok (by lia)) (fun g => ?_)
          refine compRest_ind (TxtInv (repsOf "b" ns 6 S) _) ?step0_6 ?fin0_6 mb 0 [] _ (Nat.zero_add _) (TxtInv.start (repsOf "b" ns 6 S) N1)
          case step0_6 =>
            intro i ys news hi hI0
            apply open_c hI0
            intro hT
            intro v I oI C oC D m₂ h tk E' hv0
            apply open_e hv0
            intro tv hC hx F2 N2 off2 ne2
            clear ne2
            clear F1 N1
            k_steps
            repeat' ((with_reducible refine Hold.out ?_); (first | ((with_reducible show wpAny _ _ (call (Value.ref 143) _ _) _ _ _); refine Claim.use1 ⟨by k_asm, by k_asm, by k_asm, by k_asm, by k_asm, by first | exact rfl | assumption, by first | exact room1 (by with_reducible assumption) (by decide) | ktr_room, by first | exact units1 (by with_reducible assumption) (by decide) | ktr_units⟩ (reply_ok _ _ _ _ _ _ _ (name_len (by simp) (by lia)) (portsOf_lo (by assumption)) (portsOf_hi (by assumption) (by assumption)) (num_len (portsOf_lo (by assumption)) (portsOf_hi (by assumption) (by assumption))) _) ?_; intro tq9 hq9 tkq9 Fq9 Nq9; (try dsimp only)) | ((with_reducible show wpAny _ _ (subscriptTail _ _ (Value.ref _) (Value.int (0 + _) _)) _ _ _); refine item_pair (by k_asm) (by k_mem) (by with_reducible assumption) (by assumption) (by assumption) (by lia) ?_; intro aq9 tnq9 tpq9 hmq9) | ((unfold LCg.FinE); intro Dq9 hq9 tkq9 Fq9 Nq9 oq9; (try simp only [List.nil_append, List.cons_append] at oq9); (try simp only [List.nil_append, List.cons_append] at Nq9); (try dsimp only)) | fail); k_steps)
            refine Hold.out ?_
            rename Fr _ _ _ _ => F3
            rename News _ _ _ _ => N3
            exact txt_end F3 N3 off2 hT repsOf_eq
          case fin0_6 =>
            intro sv news hI0
            have tr0 := True.intro
            revert tr0
            apply open_c hI0
            intro hsv _
            clear F1 N1 R1
            k_steps
            repeat' ((with_reducible refine Hold.out ?_); (first | ((with_reducible show wpAny _ _ (call (Value.ref 143) _ _) _ _ _); refine Claim.use1 ⟨by k_asm, by k_asm, by k_asm, by k_asm, by k_asm, by first | exact rfl | assumption, by first | exact room1 (by with_reducible assumption) (by decide) | ktr_room, by first | exact units1 (by with_reducible assumption) (by decide) | ktr_units⟩ (reply_ok _ _ _ _ _ _ _ (name_len (by simp) (by lia)) (portsOf_lo (by assumption)) (portsOf_hi (by assumption) (by assumption)) (num_len (portsOf_lo (by assumption)) (portsOf_hi (by assumption) (by assumption))) _) ?_; intro tq9 hq9 tkq9 Fq9 Nq9; (try dsimp only)) | ((with_reducible show wpAny _ _ (subscriptTail _ _ (Value.ref _) (Value.int (0 + _) _)) _ _ _); refine item_pair (by k_asm) (by k_mem) (by with_reducible assumption) (by assumption) (by assumption) (by lia) ?_; intro aq9 tnq9 tpq9 hmq9) | ((unfold LCg.FinE); intro Dq9 hq9 tkq9 Fq9 Nq9 oq9; (try simp only [List.nil_append, List.cons_append] at oq9); (try simp only [List.nil_append, List.cons_append] at Nq9); (try dsimp only)) | fail); k_steps)
            refine Hold.out ?_
            rename Stage 6 => zc9
            clear zc9
            have st9 : Stage 7 := ⟨⟩
            have st6 : StopAt "exec For Tuple Call cons nil" := ⟨⟩
            have st6 : StopAt "call type:zip" := ⟨⟩
            have st6 : StopAt "binaryOp Add ref ref" := ⟨⟩
            have st6 : StopAt "compareOp NotEq ref ref" := ⟨⟩
            rename Stage 201 => zc7
            clear zc7
            rename Stage 202 => zc7
            clear zc7
            refine wpAny_execs_cons ?_
            k_steps
            repeat' ((with_reducible refine Hold.out ?_); (first | ((with_reducible show wpAny _ _ (compareOp _ _ _) _ _ _); refine ne_told (by k_asm) (by k_mem) (by k_mem) (ok_h (by assumption)) (by ke_room) ?_) | ((with_reducible show wpAny _ _ (call (Value.ref 94) _) _ _ _); refine Claim.use2 ⟨by k_asm, by k_asm, by k_asm, by k_asm, by k_asm, by first | exact rfl | assumption, by first | exact room1 (by with_reducible assumption) (by decide) | ktr_room, by first | exact units1 (by with_reducible assumption) (by decide) | ktr_units⟩ (parse229_ok _ _ _ _ _ _ _ _ (by k_mem) (by with_reducible assumption)) ?_; intro Tq9 tq9 hq9 tkq9 Fq9 Nq9; (try dsimp only)) | ((with_reducible show wpAny _ _ (binaryOp _ _ _) _ _ _); refine add_L (by k_asm) (by k_asm) (by k_mem) (by k_mem) (by lia) (by lia) ?_; intro Dq9 hq9 Fq9 Nq9 l1q9; (try k_lt l1q9)) | fail); k_steps)
            refine Hold.out ?_
            rename Fr _ _ _ _ => F1
            have hrl := hrv.1
            have hsl := hsv.1
            k_dflt (refine' For_turns F1 ?_)
            k_steps
            repeat' ((with_reducible refine Hold.out ?_); (first | ((with_reducible show wpAny _ _ (compareOp _ _ _) _ _ _); refine ne_told (by k_asm) (by k_mem) (by k_mem) (ok_h (by assumption)) (by ke_room) ?_) | ((with_reducible show wpAny _ _ (call (Value.ref 94) _) _ _ _); refine Claim.use2 ⟨by k_asm, by k_asm, by k_asm, by k_asm, by k_asm, by first | exact rfl | assumption, by first | exact room1 (by with_reducible assumption) (by decide) | ktr_room, by first | exact units1 (by with_reducible assumption) (by decide) | ktr_units⟩ (parse229_ok _ _ _ _ _ _ _ _ (by k_mem) (by with_reducible assumption)) ?_; intro Tq9 tq9 hq9 tkq9 Fq9 Nq9; (try dsimp only)) | ((with_reducible show wpAny _ _ (binaryOp _ _ _) _ _ _); refine add_L (by k_asm) (by k_asm) (by k_mem) (by k_mem) (by lia) (by lia) ?_; intro Dq9 hq9 Fq9 Nq9 l1q9; (try k_lt l1q9)) | fail); k_steps)
            refine Hold.out ?_
            rename Fr _ _ _ _ => F2
            rename News _ _ _ _ => N2
            refine ktu_zip rfl F2 N2 (.tail _ (.head _)) rfl rfl (.head _) rfl rfl (fun I hIlt => ?_)
            refine zip_ind (TellJ _ _) (RepPair R) ?turn0_7 ?fin0_7 _ _ (rep_pairs (by lia) (by lia) (by assumption) (by assumption) hpl hP1 hP2 hrv hsv hol) _ _ ⟨rfl, fun _ _ _ _ => rfl⟩
            case turn0_7 =>
              intro x y r m news hx0
              apply open_xy7 hx0
              intro rr t a nm tn pt tp hP0
              have hg := hP0.1
              have hmem := hP0.2.1
              have hnl := hP0.2.2.1
              have hno := hP0.2.2.2
              intro hI0
              apply open_c hI0
              intro hr rest
              refine ItemsRest.pair (fun T t' h tk hT F3 => ?_)
              ktu_objs
              clear F2 N2 F1
              k_steps
              repeat' ((with_reducible refine Hold.out ?_); (first | ((with_reducible show wpAny _ _ (compareOp _ _ _) _ _ _); refine ne_told (by k_asm) (by k_mem) (by k_mem) (ok_h (by assumption)) (by ke_room) ?_) | ((with_reducible show wpAny _ _ (call (Value.ref 94) _) _ _ _); refine Claim.use2 ⟨by k_asm, by k_asm, by k_asm, by k_asm, by k_asm, by first | exact rfl | assumption, by first | exact room1 (by with_reducible assumption) (by decide) | ktr_room, by first | exact units1 (by with_reducible assumption) (by decide) | ktr_units⟩ (parse229_ok _ _ _ _ _ _ _ _ (by k_mem) (by with_reducible assumption)) ?_; intro Tq9 tq9 hq9 tkq9 Fq9 Nq9; (try dsimp only)) | ((with_reducible show wpAny _ _ (binaryOp _ _ _) _ _ _); refine add_L (by k_asm) (by k_asm) (by k_mem) (by k_mem) (by lia) (by lia) ?_; intro Dq9 hq9 Fq9 Nq9 l1q9; (try k_lt l1q9)) | fail); k_steps)
              refine Hold.out ?_
              refine wpAny_execs_cons ?_
              k_steps
              repeat' ((with_reducible refine Hold.out ?_); (first | ((with_reducible show wpAny _ _ (compareOp _ _ _) _ _ _); refine ne_told (by k_asm) (by k_mem) (by k_mem) (ok_h (by assumption)) (by ke_room) ?_) | ((with_reducible show wpAny _ _ (call (Value.ref 94) _) _ _ _); refine Claim.use2 ⟨by k_asm, by k_asm, by k_asm, by k_asm, by k_asm, by first | exact rfl | assumption, by first | exact room1 (by with_reducible assumption) (by decide) | ktr_room, by first | exact units1 (by with_reducible assumption) (by decide) | ktr_units⟩ (parse229_ok _ _ _ _ _ _ _ _ (by k_mem) (by with_reducible assumption)) ?_; intro Tq9 tq9 hq9 tkq9 Fq9 Nq9; (try dsimp only)) | ((with_reducible show wpAny _ _ (binaryOp _ _ _) _ _ _); refine add_L (by k_asm) (by k_asm) (by k_mem) (by k_mem) (by lia) (by lia) ?_; intro Dq9 hq9 Fq9 Nq9 l1q9; (try k_lt l1q9)) | fail); k_steps)
              refine Hold.out ?_
              refine wpAny_execs_cons ?_
              k_steps
              repeat' ((with_reducible refine Hold.out ?_); (first | ((with_reducible show wpAny _ _ (compareOp _ _ _) _ _ _); refine ne_told (by k_asm) (by k_mem) (by k_mem) (ok_h (by assumption)) (by ke_room) ?_) | ((with_reducible show wpAny _ _ (call (Value.ref 94) _) _ _ _); refine Claim.use2 ⟨by k_asm, by k_asm, by k_asm, by k_asm, by k_asm, by first | exact rfl | assumption, by first | exact room1 (by with_reducible assumption) (by decide) | ktr_room, by first | exact units1 (by with_reducible assumption) (by decide) | ktr_units⟩ (parse229_ok _ _ _ _ _ _ _ _ (by k_mem) (by with_reducible assumption)) ?_; intro Tq9 tq9 hq9 tkq9 Fq9 Nq9; (try dsimp only)) | ((with_reducible show wpAny _ _ (binaryOp _ _ _) _ _ _); refine add_L (by k_asm) (by k_asm) (by k_mem) (by k_mem) (by lia) (by lia) ?_; intro Dq9 hq9 Fq9 Nq9 l1q9; (try k_lt l1q9)) | fail); k_steps)
              rename Fr _ _ _ _ => F4
              rename News _ _ _ _ => N4
              exact tell_end F4 N4 (fun p hp => .tail _ (.tail _ (.tail _ hp))) hIlt (by
                intro q hq
                simp only [List.mem_cons, List.not_mem_nil, or_false] at hq
                rcases hq with rfl | rfl | rfl | rfl | rfl <;> first | exact Nat.le_refl _ | exact Nat.le_add_right _ _) (by k_subL) (fun z h1 h2 h3 => by
                simp only [if_neg h1, if_neg h2, if_neg h3]
                exact hr z h1 h2 h3) rest
            case fin0_7 =>
              rintro m3 news ⟨rfl, hr3⟩
              refine ItemsRest.zero (fun h9 tk9 F9 N9 => ?_)
              clear F2 N2 F1 hIlt hr3
              replace N9 := news_sub N9 (fun p hp => .tail _ (.tail _ hp))
              dsimp only [envOfC] at F9 N9
              dsimp only
              rename Stage 7 => zc9
              clear zc9
              have st9 : Stage 8 := ⟨⟩
              rename StopAt "exec For Tuple Call cons nil" => zc6
              clear zc6
              rename StopAt "call type:zip" => zc6
              clear zc6
              rename StopAt "binaryOp Add ref ref" => zc6
              clear zc6
              rename StopAt "compareOp NotEq ref ref" => zc6
              clear zc6
              have st6 : StopAt "exec For Name Name cons nil" := ⟨⟩
              have st6 : StopAt "newList" := ⟨⟩
              have st7 : Stage 200 := ⟨⟩
              refine wpAny_execs_cons ?_
              k_steps
              repeat' ((with_reducible refine Hold.out ?_); (first | ((with_reducible show wpAny _ _ (newList _) _ _ _); refine newList_K (by k_asm) (by k_asm) ?_; intro lq9 hq9 Fq9 Nq9 l1q9; (have l2 := under_of l1q9); (try k_lt l1q9); (try k_sweep)) | fail); k_steps)
              refine Hold.out ?_
              refine wpAny_execs_cons ?_
              k_steps
              repeat' ((with_reducible refine Hold.out ?_); (first | ((with_reducible show wpAny _ _ (newList _) _ _ _); refine newList_K (by k_asm) (by k_asm) ?_; intro lq9 hq9 Fq9 Nq9 l1q9; (have l2 := under_of l1q9); (try k_lt l1q9); (try k_sweep)) | fail); k_steps)
              refine Hold.out ?_
              refine wpAny_For ?_
              k_steps
              repeat' ((with_reducible refine Hold.out ?_); (first | ((with_reducible show wpAny _ _ (newList _) _ _ _); refine newList_K (by k_asm) (by k_asm) ?_; intro lq9 hq9 Fq9 Nq9 l1q9; (have l2 := under_of l1q9); (try k_lt l1q9); (try k_sweep)) | fail); k_steps)
              refine Hold.out ?_
              rename Fr _ _ _ _ => F1
              rename News _ _ _ _ => N1
              refine iter_list (n₀ := 0) (InsJ (txtOf ns S) (prtOf ns S) _ _ _) rfl rfl rfl rfl (.tail _ (.tail _ (.head _))) ?src0_8 (Nat.zero_le _) F1 N1 ⟨_, _, _, rfl, rowR_zero _ _, rfl, fun _ _ _ => rfl⟩ ?step0_8 ?fin0_8
              case src0_8 =>
                rintro i m1 n1 ⟨L1, v1, nl1, rfl, -⟩
                exact .tail _ (.tail _ (.head _))
              case step0_8 =>
                intro i v I m₁ news₁ oI h tk2 hv htk hI0
                apply open_eq3 hI0
                intro L1 v1 nl1 hP0
                have hRow := hP0.1
                have hfm := hP0.2.1
                have hr := hP0.2.2
                intro off F2 N2
                have hiv := (List.getElem?_eq_some_iff.mp hv).1
                rw [hrl] at hiv
                obtain ⟨tv, hv2⟩ := hrv.2 i hiv
                rw [hv] at hv2
                cases hv2
                replace F2 := ins_fr hfm hr F2
                clear F1 N1
                replace N2 := news_sub N2 (sub_swap' _ _ _)
                dsimp only [envOfC] at F2 N2
                refine Hold.out ?_
                refine wpAny_execs_cons ?_
                k_steps
                repeat' ((with_reducible refine Hold.out ?_); (first | ((with_reducible show wpAny _ _ (newList _) _ _ _); refine newList_K (by k_asm) (by k_asm) ?_; intro lq9 hq9 Fq9 Nq9 l1q9; (have l2 := under_of l1q9); (try k_lt l1q9); (try k_sweep)) | fail); k_steps)
                refine Hold.out ?_
                have hgood := rowR_good hRow (by lia) (by assumption) (by assumption)
                have hl1 := rowR_len hRow
                k_dflt (refine' Claim.use (insr_ok _ _ _ _ (strs_Strs hRow.txt) _ _ _ _ (hRow.toRowIs.ports hgood) (good_reps (c := "a") (j := i) (.inl rfl) (by lia) (by assumption) (by assumption)) (by lia) _ ?hne_8) ?kB_8 ?kF_8 ?kX_8 ?kN_8 ?kT_8 ?kK_8 ?kR_8 ?kU_8 ?_)
                case kB_8 => k_asm
                case kF_8 => k_asm
                case kX_8 => k_asm
                case kN_8 => k_asm
                case kT_8 => k_asm
                case kK_8 => first | exact rfl | assumption
                case kR_8 => ktr_room
                case kU_8 => ktr_units
                case hne_8 => exact ins_ne (by with_reducible assumption) off
                k_whole
                intro v' ex' h' tk' hI0
                apply open_vw hI0
                intro nl' F3 N3
                k_steps
                repeat' ((with_reducible refine Hold.out ?_); (first | ((with_reducible show wpAny _ _ (newList _) _ _ _); refine newList_K (by k_asm) (by k_asm) ?_; intro lq9 hq9 Fq9 Nq9 l1q9; (have l2 := under_of l1q9); (try k_lt l1q9); (try k_sweep)) | fail); k_steps)
                exact ins_end F3 N3 (off_set off) ⟨_, _, _, rfl, hRow.snoc rfl, rfl, fun z h1 h2 => by
                  simp only [if_neg h1, if_neg h2]⟩
              case fin0_8 =>
                intro m4 news4 h4 tk4 _ hI0
                apply open_eq3 hI0
                intro L1 v1 nl1 hP0
                have hRow := hP0.1
                have hfm := hP0.2.1
                have hr := hP0.2.2
                intro F4 N4
                clear F1 N1
                rename Under _ _ => hU
                dsimp only [envOfC] at F4 N4
                dsimp only
                have hl1 := rowR_len hRow
                rename Stage 8 => zc9
                clear zc9
                have st9 : Stage 9 := ⟨⟩
                rename StopAt "exec For Name Name cons nil" => zc6
                clear zc6
                have st6 : StopAt "exec For Name Subscript cons nil" := ⟨⟩
                refine wpAny_execs_cons ?_
                k_steps
                repeat' ((with_reducible refine Hold.out ?_); (first | ((with_reducible show wpAny _ _ (subscriptTail _ (PySem.Expr.Slice none none (some _) _) (Value.ref _) (Value.ref _)) _ _ _); refine rev_T (by k_asm) (by k_asm) (by k_mem) (IsPart.int _ _) ?_ (by with_unfolding_all rfl) (by lia); intro Dq9 hq9 Fq9 Nq9 l1q9; (have l2 := under_of l1q9); (try k_lt l1q9)) | ((with_reducible show wpAny _ _ (newList _) _ _ _); refine newList_K (by k_asm) (by k_asm) ?_; intro lq9 hq9 Fq9 Nq9 l1q9; (have l2 := under_of l1q9); (try k_lt l1q9); (try k_sweep)) | fail); k_steps)
                refine Hold.out ?_
                refine wpAny_execs_cons ?_
                k_steps
                repeat' ((with_reducible refine Hold.out ?_); (first | ((with_reducible show wpAny _ _ (subscriptTail _ (PySem.Expr.Slice none none (some _) _) (Value.ref _) (Value.ref _)) _ _ _); refine rev_T (by k_asm) (by k_asm) (by k_mem) (IsPart.int _ _) ?_ (by with_unfolding_all rfl) (by lia); intro Dq9 hq9 Fq9 Nq9 l1q9; (have l2 := under_of l1q9); (try k_lt l1q9)) | ((with_reducible show wpAny _ _ (newList _) _ _ _); refine newList_K (by k_asm) (by k_asm) ?_; intro lq9 hq9 Fq9 Nq9 l1q9; (have l2 := under_of l1q9); (try k_lt l1q9); (try k_sweep)) | fail); k_steps)
                refine Hold.out ?_
                refine wpAny_For ?_
                k_steps
                repeat' ((with_reducible refine Hold.out ?_); (first | ((with_reducible show wpAny _ _ (subscriptTail _ (PySem.Expr.Slice none none (some _) _) (Value.ref _) (Value.ref _)) _ _ _); refine rev_T (by k_asm) (by k_asm) (by k_mem) (IsPart.int _ _) ?_ (by with_unfolding_all rfl) (by lia); intro Dq9 hq9 Fq9 Nq9 l1q9; (have l2 := under_of l1q9); (try k_lt l1q9)) | ((with_reducible show wpAny _ _ (newList _) _ _ _); refine newList_K (by k_asm) (by k_asm) ?_; intro lq9 hq9 Fq9 Nq9 l1q9; (have l2 := under_of l1q9); (try k_lt l1q9); (try k_sweep)) | fail); k_steps)
                refine Hold.out ?_
                rename Fr _ _ _ _ => F1
                rename News _ _ _ _ => N1
                rename Under _ (_ :: _) => hU1
                revert hU1
                rename Under _ (_ :: _) => hU2
                intro hU1
                have hne := rev_ne (oR := lstO sv.reverse 0) hU1 hU2
                replace N1 := news_sub N1 (sub_swap' _ _ _)
                refine iter_list (n₀ := 0) (InlJ (txtOf ns S) (prtOf ns S) mb _ _ _) rfl rfl rfl rfl (.tail _ (.head _)) ?src0_9 (Nat.zero_le _) F1 N1 ⟨Nat.zero_le _, _, _, _, rfl, rowL_zero _ _ _, rfl, fun _ _ _ => rfl⟩ ?step0_9 ?fin0_9
                case src0_9 =>
                  rintro i m1 n1 ⟨-, L1, v1, nl1, rfl, -⟩
                  exact .tail _ (.head _)
                case step0_9 =>
                  intro i v I m₁ news₁ oI h tk2 hv htk hI0
                  apply open_eq3 hI0.2
                  intro L2 v2 nl2 hP0
                  have hRow2 := hP0.1
                  have hfm2 := hP0.2.1
                  have hr2 := hP0.2.2
                  intro off F2 N2
                  obtain ⟨hiv, tv, rfl⟩ := hsv.rev hv
                  replace F2 := ins_fr hfm2 hr2 F2
                  clear F1 N1
                  replace N2 := news_sub N2 (sub_swap' _ _ _)
                  dsimp only [envOfC] at F2 N2
                  refine Hold.out ?_
                  refine wpAny_execs_cons ?_
                  k_steps
                  repeat' ((with_reducible refine Hold.out ?_); (first | ((with_reducible show wpAny _ _ (subscriptTail _ (PySem.Expr.Slice none none (some _) _) (Value.ref _) (Value.ref _)) _ _ _); refine rev_T (by k_asm) (by k_asm) (by k_mem) (IsPart.int _ _) ?_ (by with_unfolding_all rfl) (by lia); intro Dq9 hq9 Fq9 Nq9 l1q9; (have l2 := under_of l1q9); (try k_lt l1q9)) | ((with_reducible show wpAny _ _ (newList _) _ _ _); refine newList_K (by k_asm) (by k_asm) ?_; intro lq9 hq9 Fq9 Nq9 l1q9; (have l2 := under_of l1q9); (try k_lt l1q9); (try k_sweep)) | fail); k_steps)
                  refine Hold.out ?_
                  have hgood := rowL_good hRow2 (by lia) (by assumption) (by assumption)
                  have hl2 := rowL_len hRow2
                  k_dflt (refine' Claim.use (insl_ok _ _ _ _ (strs_Strs hRow2.txt) _ _ _ _ (hRow2.toRowIs.ports hgood) (good_reps (c := "b") (j := mb - (i + 1)) (.inr rfl) (by lia) (by assumption) (by assumption)) (by lia) _ ?hne_9) ?kB_9 ?kF_9 ?kX_9 ?kN_9 ?kT_9 ?kK_9 ?kR_9 ?kU_9 ?_)
                  case kB_9 => k_asm
                  case kF_9 => k_asm
                  case kX_9 => k_asm
                  case kN_9 => k_asm
                  case kT_9 => k_asm
                  case kK_9 => first | exact rfl | assumption
                  case kR_9 => ktr_room
                  case kU_9 => ktr_units
                  case hne_9 => exact ins_ne2 hne off
                  k_whole
                  intro v' ex' h' tk' hI0
                  apply open_vw hI0
                  intro nl' F3 N3
                  k_steps
                  repeat' ((with_reducible refine Hold.out ?_); (first | ((with_reducible show wpAny _ _ (subscriptTail _ (PySem.Expr.Slice none none (some _) _) (Value.ref _) (Value.ref _)) _ _ _); refine rev_T (by k_asm) (by k_asm) (by k_mem) (IsPart.int _ _) ?_ (by with_unfolding_all rfl) (by lia); intro Dq9 hq9 Fq9 Nq9 l1q9; (have l2 := under_of l1q9); (try k_lt l1q9)) | ((with_reducible show wpAny _ _ (newList _) _ _ _); refine newList_K (by k_asm) (by k_asm) ?_; intro lq9 hq9 Fq9 Nq9 l1q9; (have l2 := under_of l1q9); (try k_lt l1q9); (try k_sweep)) | fail); k_steps)
                  have hRow3 : RowL (txtOf ns S) (prtOf ns S) mb (mb - (i + 1) + 1) L2 v2 := by rw [show mb - (i + 1) + 1 = mb - i by lia]; exact hRow2
                  exact ins_end F3 N3 (off_set off) ⟨by lia, _, _, _, rfl, hRow3.snoc (by lia) rfl, rfl, fun z h1 h2 => by
                    simp only [if_neg h1, if_neg h2]⟩
                case fin0_9 =>
                  intro m5 news5 h5 tk5 _ hI0
                  apply open_eq3 hI0.2
                  intro L2 v2 nl2 hP0
                  have hRow2 := hP0.1
                  have hfm2 := hP0.2.1
                  have hr2 := hP0.2.2
                  intro F5 N5
                  clear F1 N1
                  dsimp only [envOfC] at F5 N5
                  dsimp only
                  rw [show mb - sv.reverse.length = 0 by rw [List.length_reverse]; lia] at hRow2
                  have hl2 := rowL_len hRow2
                  rename Stage 9 => zc9
                  clear zc9
                  have st9 : Stage 10 := ⟨⟩
                  rename StopAt "call ref" => zc6
                  clear zc6
                  have st6 : StopAt "binaryOp Add ref ref" := ⟨⟩
                  rename StopAt "newList" => zc6
                  clear zc6
                  rename StopAt "exec For Name Subscript cons nil" => zc6
                  clear zc6
                  rename Stage 200 => zc7
                  clear zc7
                  have st7 : Stage 201 := ⟨⟩
                  have st7 : Stage 202 := ⟨⟩
                  have hf5 := hr2 (Str.ofString "first") not_second.1 not_second.2
                  dsimp only at hf5
                  rw [if_neg not_second.2, hfm] at hf5
                  rename Fr _ _ _ _ => F0
                  replace F0 := fr_two hfm2 hf5 F0
                  clear hr2 hfm2 hf5 hr hfm
                  refine wpAny_execs_cons ?_
                  k_steps
                  repeat' ((with_reducible refine Hold.out ?_); (first | ((with_reducible show wpAny _ _ (subscriptTail _ _ (Value.ref _) (Value.int (0 + _) _)) _ _ _); refine item_pair (by k_asm) (by k_mem) (by with_reducible assumption) (by assumption) (by assumption) (by lia) ?_; intro aq9 tnq9 tpq9 hmq9) | ((unfold LCg.FinE); intro Dq9 hq9 tkq9 Fq9 Nq9 oq9; (try simp only [List.nil_append, List.cons_append] at oq9); (try simp only [List.nil_append, List.cons_append] at Nq9); (try dsimp only)) | fail); k_steps)
                  refine Hold.out ?_
                  rename Fr _ _ _ _ => F1
                  rename News _ _ _ _ => N1
                  rename IsRange _ _ _ _ _ _ _ _ => R1
                  rw [hpl] at R1
                  refine LCg.CompSrc.range rfl F1 N1 R1 (range_small (by lia)) (range_size ma) (size_ok (by lia)) (fun g => ?_)
                  refine compRest_ind (TriInv (portsOf ns 2 S) 1 _ _) ?step0_10 ?fin0_10 ma 0 [] _ (Nat.zero_add _) (TriInv.start (portsOf ns 2 S) 1 N1)
                  case step0_10 =>
                    intro i ys news hi hI0
                    apply open_eq hI0
                    intro T hP0
                    have hT := hP0.1
                    have hTA := hP0.2
                    intro v I oI C oC D m₂ h tk E' hv0
                    apply open_e hv0
                    intro tv hC hx F2 N2 off2 ne2
                    clear F1 N1 ne2
                    simp only [List.cons_append] at N2
                    k_steps
                    repeat' ((with_reducible refine Hold.out ?_); (first | ((with_reducible show wpAny _ _ (subscriptTail _ _ (Value.ref _) (Value.int (0 + _) _)) _ _ _); refine item_pair (by k_asm) (by k_mem) (by with_reducible assumption) (by assumption) (by assumption) (by lia) ?_; intro aq9 tnq9 tpq9 hmq9) | ((unfold LCg.FinE); intro Dq9 hq9 tkq9 Fq9 Nq9 oq9; (try simp only [List.nil_append, List.cons_append] at oq9); (try simp only [List.nil_append, List.cons_append] at Nq9); (try dsimp only)) | fail); k_steps)
                    refine Hold.out ?_
                    rename Fr _ _ _ _ => F3
                    rename News _ _ _ _ => N3
                    refine' tri_end F3 off2 N3 ?hs_10 ?_ ?_ ?_ ?_ hT hTA
                    case hs_10 => exact fun p hp => hp
                    all_goals first | (with_reducible (rename _ ∧ _ => z9; first | exact z9.1 | exact z9.2.1 | exact z9.2.2.1 | exact z9.2.2.2.1 | exact z9.2.2.2.2.1 | exact z9.2.2.2.2.2.1 | exact z9.2.2.2.2.2.2.1 | exact z9.2.2.2.2.2.2.2.1 | exact z9.2.2.2.2.2.2.2.2.1 | exact z9.2.2.2.2.2.2.2.2.2.1 | exact z9.2.2.2.2.2.2.2.2.2.2.1 | exact z9.2.2.2.2.2.2.2.2.2.2.2.1 | exact z9.2.2.2.2.2.2.2.2.2.2.2.2.1 | exact z9.2.2.2.2.2.2.2.2.2.2.2.2.2.1 | exact z9.2.2.2.2.2.2.2.2.2.2.2.2.2.2.1 | exact z9.2.2.2.2.2.2.2.2.2.2.2.2.2.2.2.1 | exact z9.2.2.2.2.2.2.2.2.2.2.2.2.2.2.2.2.1 | exact z9.2.2.2.2.2.2.2.2.2.2.2.2.2.2.2.2.2.1)) | lia
                  case fin0_10 =>
                    intro ys1 news hI0
                    have tr0 := True.intro
                    revert tr0
                    apply open_eq hI0
                    intro T1 hP0 _
                    have hT1 := hP0.1
                    have hTA1 := hP0.2
                    clear F1 N1 R1
                    k_steps
                    repeat' ((with_reducible refine Hold.out ?_); (first | ((with_reducible show wpAny _ _ (subscriptTail _ _ (Value.ref _) (Value.int (0 + _) _)) _ _ _); refine item_pair (by k_asm) (by k_mem) (by with_reducible assumption) (by assumption) (by assumption) (by lia) ?_; intro aq9 tnq9 tpq9 hmq9) | ((unfold LCg.FinE); intro Dq9 hq9 tkq9 Fq9 Nq9 oq9; (try simp only [List.nil_append, List.cons_append] at oq9); (try simp only [List.nil_append, List.cons_append] at Nq9); (try dsimp only)) | fail); k_steps)
                    rename Stage 10 => zc9
                    clear zc9
                    have st9 : Stage 11 := ⟨⟩
                    have st6 : StopAt "call builtin:sorted" := ⟨⟩
                    refine Hold.out ?_
                    rename Fr _ _ _ _ => F1
                    rename News _ _ _ _ => N1
                    rename IsRange _ _ _ _ _ _ _ _ => R1
                    rw [hol] at R1
                    refine LCg.CompSrc.range rfl F1 N1 R1 (range_small (by lia)) (range_size mb) (size_ok (by lia)) (fun g => ?_)
                    refine compRest_ind (TriInv (portsOf ns 6 S) 0 _ _) ?step0_11 ?fin0_11 mb 0 [] _ (Nat.zero_add _) (TriInv.start (portsOf ns 6 S) 0 N1)
                    case step0_11 =>
                      intro i ys news hi hI0
                      apply open_eq hI0
                      intro T hP0
                      have hT := hP0.1
                      have hTA := hP0.2
                      intro v I oI C oC D m₂ h tk E' hv0
                      apply open_e hv0
                      intro tv hC hx F2 N2 off2 ne2
                      clear F1 N1 ne2
                      simp only [List.cons_append] at N2
                      k_steps
                      repeat' ((with_reducible refine Hold.out ?_); (first | ((with_reducible show wpAny _ _ (binaryOp _ _ _) _ _ _); refine add_L (by k_asm) (by k_asm) (by k_mem) (by k_mem) (by lia) (by lia) ?_; intro Dq9 hq9 Fq9 Nq9 l1q9; (have l2 := under_of l1q9); (try k_lt l1q9)) | ((with_reducible show wpAny _ _ (subscriptTail _ _ (Value.ref _) (Value.int (0 + _) _)) _ _ _); refine item_pair (by k_asm) (by k_mem) (by with_reducible assumption) (by assumption) (by assumption) (by lia) ?_; intro aq9 tnq9 tpq9 hmq9) | ((unfold LCg.FinE); intro Dq9 hq9 tkq9 Fq9 Nq9 oq9; (try simp only [List.nil_append, List.cons_append] at oq9); (try simp only [List.nil_append, List.cons_append] at Nq9); (try dsimp only)) | fail); k_steps)
                      refine Hold.out ?_
                      rename Fr _ _ _ _ => F3
                      rename News _ _ _ _ => N3
                      refine' tri_end F3 off2 N3 ?hs_11 ?_ ?_ ?_ ?_ hT hTA
                      case hs_11 => exact fun p hp => hp
                      all_goals first | (with_reducible (rename _ ∧ _ => z9; first | exact z9.1 | exact z9.2.1 | exact z9.2.2.1 | exact z9.2.2.2.1 | exact z9.2.2.2.2.1 | exact z9.2.2.2.2.2.1 | exact z9.2.2.2.2.2.2.1 | exact z9.2.2.2.2.2.2.2.1 | exact z9.2.2.2.2.2.2.2.2.1 | exact z9.2.2.2.2.2.2.2.2.2.1 | exact z9.2.2.2.2.2.2.2.2.2.2.1 | exact z9.2.2.2.2.2.2.2.2.2.2.2.1 | exact z9.2.2.2.2.2.2.2.2.2.2.2.2.1 | exact z9.2.2.2.2.2.2.2.2.2.2.2.2.2.1 | exact z9.2.2.2.2.2.2.2.2.2.2.2.2.2.2.1 | exact z9.2.2.2.2.2.2.2.2.2.2.2.2.2.2.2.1 | exact z9.2.2.2.2.2.2.2.2.2.2.2.2.2.2.2.2.1 | exact z9.2.2.2.2.2.2.2.2.2.2.2.2.2.2.2.2.2.1)) | lia
                    case fin0_11 =>
                      intro ys2 news hI0
                      have tr0 := True.intro
                      revert tr0
                      apply open_eq hI0
                      intro T2 hP0 _
                      have hT2 := hP0.1
                      have hTA2 := hP0.2
                      clear F1 N1 R1
                      have hy1 := hT1.1
                      have hy2 := hT2.1
                      rw [trisOf_len] at hy1 hy2
                      k_steps
                      repeat' ((with_reducible refine Hold.out ?_); (first | ((with_reducible show wpAny _ _ (binaryOp _ _ _) _ _ _); refine add_L (by k_asm) (by k_asm) (by k_mem) (by k_mem) (by lia) (by lia) ?_; intro Dq9 hq9 Fq9 Nq9 l1q9; (have l2 := under_of l1q9); (try k_lt l1q9)) | ((with_reducible show wpAny _ _ (subscriptTail _ _ (Value.ref _) (Value.int (0 + _) _)) _ _ _); refine item_pair (by k_asm) (by k_mem) (by with_reducible assumption) (by assumption) (by assumption) (by lia) ?_; intro aq9 tnq9 tpq9 hmq9) | ((unfold LCg.FinE); intro Dq9 hq9 tkq9 Fq9 Nq9 oq9; (try simp only [List.nil_append, List.cons_append] at oq9); (try simp only [List.nil_append, List.cons_append] at Nq9); (try dsimp only)) | fail); k_steps)
                      refine Hold.out ?_
                      rename Fr _ _ _ _ => F3
                      rename News _ _ _ _ => N3
                      have hTT := (hT1.mono (R' := R ++ T1 ++ T2) (fun p hp => List.mem_append_left _ (List.mem_append_right _ hp))).append (hT2.mono (R' := R ++ T1 ++ T2) (fun p hp => List.mem_append_right _ hp))
                      have hP1' := hP1.mono (R' := R ++ T1 ++ T2) (fun p hp => List.mem_append_left _ (List.mem_append_left _ hp))
                      have hAA := (hA.append hTA1).append hTA2
                      refine sorted_tri F3 N3 (.head _) (R := R ++ T1 ++ T2) (fun p hp => by k_mem) hTT (tri_apart _ _ _ _) (by rw [List.length_append, trisOf_len, trisOf_len]; lia) (by rw [List.length_append, trisOf_len, trisOf_len]; lia) ?_
                      intro D9 h9 c9 Lo vo F9 N9 hD9 hTo hperm hsrt
                      replace N9 := news_sub N9 drop3
                      replace N9 := news_sub N9 drop_at2
                      replace N9 := news_sub N9 drop_at7
                      clear F3 N3 hTT hP1 hP2 hT1 hT2 hTA1 hTA2 hA
                      generalize R ++ T1 ++ T2 = RR at *
                      k_steps
                      repeat' ((with_reducible refine Hold.out ?_); (first | ((with_reducible show wpAny _ _ (binaryOp _ _ _) _ _ _); refine add_L (by k_asm) (by k_asm) (by k_mem) (by k_mem) (by lia) (by lia) ?_; intro Dq9 hq9 Fq9 Nq9 l1q9; (have l2 := under_of l1q9); (try k_lt l1q9)) | ((with_reducible show wpAny _ _ (subscriptTail _ _ (Value.ref _) (Value.int (0 + _) _)) _ _ _); refine item_pair (by k_asm) (by k_mem) (by with_reducible assumption) (by assumption) (by assumption) (by lia) ?_; intro aq9 tnq9 tpq9 hmq9) | ((unfold LCg.FinE); intro Dq9 hq9 tkq9 Fq9 Nq9 oq9; (try simp only [List.nil_append, List.cons_append] at oq9); (try simp only [List.nil_append, List.cons_append] at Nq9); (try dsimp only)) | fail); k_steps)
                      refine Hold.out ?_
                      rename Stage 11 => zc9
                      clear zc9
                      have st9 : Stage 12 := ⟨⟩
                      have st6 : StopAt "exec Assign cons ListComp" := ⟨⟩
                      refine wpAny_execs_cons ?_
                      k_steps
                      repeat' ((with_reducible refine Hold.out ?_); (first | ((with_reducible show wpAny _ _ (subscriptTail _ _ (Value.ref _) (Value.int (Nat.cast _) _)) _ _ _); refine item_rep (by k_asm) (by k_mem) (by with_reducible assumption) (by assumption) (by lia) ?_; intro tq9) | ((with_reducible show wpAny _ _ (exec _ _) _ _ _); refine assign3 (by k_asm) (by rfl) (by with_unfolding_all rfl) (by rfl) (by decide) (by rfl) (by decide) (by rfl) (by rfl) (by rfl) (by decide +kernel) (by decide +kernel) (by decide +kernel) (by rfl) (by rfl) ?_) | ((with_reducible show wpAny _ _ (binaryOp _ _ _) _ _ _); refine add_L (by k_asm) (by k_asm) (by k_mem) (by k_mem) (by lia) (by lia) ?_; intro Dq9 hq9 Fq9 Nq9 l1q9; (have l2 := under_of l1q9); (try k_lt l1q9)) | ((with_reducible show wpAny _ _ (subscriptTail _ _ (Value.ref _) (Value.int (0 + _) _)) _ _ _); refine item_pair (by k_asm) (by k_mem) (by with_reducible assumption) (by assumption) (by assumption) (by lia) ?_; intro aq9 tnq9 tpq9 hmq9) | ((unfold LCg.FinE); intro Dq9 hq9 tkq9 Fq9 Nq9 oq9; (try simp only [List.nil_append, List.cons_append] at oq9); (try simp only [List.nil_append, List.cons_append] at Nq9); (try dsimp only)) | fail); k_steps)
                      refine Hold.out ?_
                      rename Fr _ _ _ _ => F1
                      rename News _ _ _ _ => N1
                      have hvo := hTo.1
                      have hlo := hperm.length_eq
                      rw [List.length_append, trisOf_len, trisOf_len] at hlo
                      refine ⟨_, vo, c9, _, fun i ys => StrsAre ys ((Lo.take i).map fun x => txtOf ns S x.k x.i), rfl, rfl, F1, N1, .head _, by lia, .nil, ?turn0_12, ?fin0_12⟩
                      case turn0_12 =>
                        intro i ys v hv hI'
                        have hi : i < Lo.length := by
                          have := (List.getElem?_eq_some_iff.mp hv).1
                          lia
                        have hx : Lo[i]? = some Lo[i] := List.getElem?_eq_getElem hi
                        obtain ⟨a, t1, t2, t3, e1, e2⟩ := hTo.2 i _ hx
                        have hd := due_is hperm _ (List.getElem_mem hi)
                        generalize Lo[i] = x at *
                        rw [e1] at hv
                        cases hv
                        obtain ⟨xp, xk, xi⟩ := x
                        dsimp only at hd e2
                        rcases hd with ⟨rfl, hxi, -⟩ | ⟨rfl, hxi, -⟩
                        · refine ⟨a, .int xp t1, .int 1 t2, .int (xi : Int) t3, rfl, ?m0_12, ?e0_12⟩
                          case m0_12 => k_mem
                          case e0_12 =>
                            intro I oI C oC D m₂ h tk E' hC h1 h2 h3 F2 N2
                            clear F1 N1
                            k_steps
                            repeat' ((with_reducible refine Hold.out ?_); (first | ((with_reducible show wpAny _ _ (subscriptTail _ _ (Value.ref _) (Value.int (Nat.cast _) _)) _ _ _); refine item_rep (by k_asm) (by k_mem) (by with_reducible assumption) (by assumption) (by lia) ?_; intro tq9) | ((with_reducible show wpAny _ _ (exec _ _) _ _ _); refine assign3 (by k_asm) (by rfl) (by with_unfolding_all rfl) (by rfl) (by decide) (by rfl) (by decide) (by rfl) (by rfl) (by rfl) (by decide +kernel) (by decide +kernel) (by decide +kernel) (by rfl) (by rfl) ?_) | ((with_reducible show wpAny _ _ (binaryOp _ _ _) _ _ _); refine add_L (by k_asm) (by k_asm) (by k_mem) (by k_mem) (by lia) (by lia) ?_; intro Dq9 hq9 Fq9 Nq9 l1q9; (have l2 := under_of l1q9); (try k_lt l1q9)) | ((with_reducible show wpAny _ _ (subscriptTail _ _ (Value.ref _) (Value.int (0 + _) _)) _ _ _); refine item_pair (by k_asm) (by k_mem) (by with_reducible assumption) (by assumption) (by assumption) (by lia) ?_; intro aq9 tnq9 tpq9 hmq9) | ((unfold LCg.FinE); intro Dq9 hq9 tkq9 Fq9 Nq9 oq9; (try simp only [List.nil_append, List.cons_append] at oq9); (try simp only [List.nil_append, List.cons_append] at Nq9); (try dsimp only)) | fail); k_steps)
                            · assumption
                            · rename News _ _ _ _ => N3
                              exact news_sub N3 (fun p hp => .tail _ hp)
                            · exact strs_snoc (T := txtOf ns S) (x := ⟨xp, 1, xi⟩) hI' hx
                        · refine ⟨a, .int xp t1, .int 0 t2, .int (xi : Int) t3, rfl, ?m1_12, ?e1_12⟩
                          case m1_12 => k_mem
                          case e1_12 =>
                            intro I oI C oC D m₂ h tk E' hC h1 h2 h3 F2 N2
                            clear F1 N1
                            k_steps
                            repeat' ((with_reducible refine Hold.out ?_); (first | ((with_reducible show wpAny _ _ (subscriptTail _ _ (Value.ref _) (Value.int (Nat.cast _) _)) _ _ _); refine item_rep (by k_asm) (by k_mem) (by with_reducible assumption) (by assumption) (by lia) ?_; intro tq9) | ((with_reducible show wpAny _ _ (exec _ _) _ _ _); refine assign3 (by k_asm) (by rfl) (by with_unfolding_all rfl) (by rfl) (by decide) (by rfl) (by decide) (by rfl) (by rfl) (by rfl) (by decide +kernel) (by decide +kernel) (by decide +kernel) (by rfl) (by rfl) ?_) | ((with_reducible show wpAny _ _ (binaryOp _ _ _) _ _ _); refine add_L (by k_asm) (by k_asm) (by k_mem) (by k_mem) (by lia) (by lia) ?_; intro Dq9 hq9 Fq9 Nq9 l1q9; (have l2 := under_of l1q9); (try k_lt l1q9)) | ((with_reducible show wpAny _ _ (subscriptTail _ _ (Value.ref _) (Value.int (0 + _) _)) _ _ _); refine item_pair (by k_asm) (by k_mem) (by with_reducible assumption) (by assumption) (by assumption) (by lia) ?_; intro aq9 tnq9 tpq9 hmq9) | ((unfold LCg.FinE); intro Dq9 hq9 tkq9 Fq9 Nq9 oq9; (try simp only [List.nil_append, List.cons_append] at oq9); (try simp only [List.nil_append, List.cons_append] at Nq9); (try dsimp only)) | fail); k_steps)
                            · assumption
                            · rename News _ _ _ _ => N3
                              exact news_sub N3 (fun p hp => .tail _ hp)
                            · exact strs_snoc (T := txtOf ns S) (x := ⟨xp, 0, xi⟩) hI' hx
                      case fin0_12 =>
                        intro Dd dv hd9 tkd hdv Fd Nd hUd
                        clear F1 N1
                        rw [hvo, List.take_length] at hdv
                        dsimp only
                        rename Stage 12 => zc9
                        clear zc9
                        have st9 : Stage 13 := ⟨⟩
                        have st6 : StopAt "call ref" := ⟨⟩
                        rename StopAt "binaryOp Add ref ref" => zc6
                        clear zc6
                        have st6 : StopAt "compareOp NotEq ref ref" := ⟨⟩
                        have st6 : StopAt "newList" := ⟨⟩
                        rename StopAt "call builtin:sorted" => zc6
                        clear zc6
                        rename StopAt "exec Assign cons ListComp" => zc6
                        clear zc6
                        rename Stage 201 => zc7
                        clear zc7
                        rename Stage 202 => zc7
                        clear zc7
                        refine wpAny_execs_cons ?_
                        k_steps
                        repeat' ((with_reducible refine Hold.out ?_); (first | ((with_reducible show wpAny _ _ (compareOp _ _ _) _ _ _); refine ne_txts (by k_asm) (by k_mem) (by k_mem) (by with_reducible assumption) (by with_reducible assumption) (by with_reducible assumption) (by ke_room) ?_) | ((with_reducible show wpAny _ _ (newList _) _ _ _); refine newList_K (by k_asm) (by k_asm) ?_; intro lq9 hq9 Fq9 Nq9 l1q9; (have l2 := under_of l1q9); (try k_lt l1q9); (try k_sweep)) | fail); k_steps)
                        refine Hold.out ?_
                        refine wpAny_execs_cons ?_
                        k_steps
                        repeat' ((with_reducible refine Hold.out ?_); (first | ((with_reducible show wpAny _ _ (compareOp _ _ _) _ _ _); refine ne_txts (by k_asm) (by k_mem) (by k_mem) (by with_reducible assumption) (by with_reducible assumption) (by with_reducible assumption) (by ke_room) ?_) | ((with_reducible show wpAny _ _ (newList _) _ _ _); refine newList_K (by k_asm) (by k_asm) ?_; intro lq9 hq9 Fq9 Nq9 l1q9; (have l2 := under_of l1q9); (try k_lt l1q9); (try k_sweep)) | fail); k_steps)
                        refine Hold.out ?_
                        rename Under _ _ => hUb
                        rename Fr _ _ _ _ => F1
                        rename News _ _ _ _ => N1
                        have hq1 : @LT.lt Nat _ 166 Dd := hUd (166, tabObj #[]) (by k_mem)
                        have hq2 : @LT.lt Nat _ 166 D9 := hD9 (166, tabObj #[]) (by k_mem)
                        have hs := arrange hUb
                        have hub := under_rest hUb hs
                        have N2 := news_sub N1 (sub_ins4 hs)
                        have hl5 : v1.length < 5 := by lia
                        have hl10 : v2.length < 10 := by lia
                        have hg1 := rowR_good hRow (by lia) (by assumption) (by assumption)
                        have hg2 := rowL_good hRow2 (by lia) (by assumption) (by assumption)
                        k_dflt (refine' ClaimM.use (merged_ok _ _ _ _ v1 v2 _ _ _ (portAt L1) (portAt L2) ?hap_13 (strs_Strs hRow.txt) (strs_Strs hRow2.txt) (hRow.toRowIs.ports hg1) (hRow2.toRowIs.ports hg2) ?so1_13 ?so2_13 hl5 hl10 hub.2.1 hub.2.2 hub.1) ?kB_13 ?kF_13 ?kX_13 ?kN_13 ?kT_13 ?kK_13 ?kR_13 ?kU_13 ?kC_13 ?_)
                        case kB_13 => k_asm
                        case kF_13 => k_asm
                        case kX_13 => k_asm
                        case kN_13 => exact N2
                        case kT_13 => k_asm
                        case kK_13 => first | exact rfl | assumption
                        case kR_13 => ktr_room
                        case kU_13 => ktr_units
                        case kC_13 => exact codeHd
                        case so1_13 =>
                          intro i j h0 h1 h2
                          exact RowIs.sorted hRow.srt i j h0 h1 (by lia)
                        case so2_13 =>
                          intro i j h0 h1 h2
                          exact RowIs.sorted hRow2.srt i j h0 h1 (by lia)
                        case hap_13 => first | k_all | fail "hap"
                        k_whole
                        intro v' ex' h' tk' hI0
                        apply open_vw4 hI0
                        intro Dm nd bv ps hbv F3 N3
                        rw [hrl] at hRow
                        have hmg := rows_merge (i := 0) hRow hRow2 hperm hsrt
                        have hok := txts_ok hperm (by lia) (by lia)
                        clear N1 N2 F1
                        k_steps
                        repeat' ((with_reducible refine Hold.out ?_); (first | ((with_reducible show wpAny _ _ (compareOp _ _ _) _ _ _); refine ne_txts (by k_asm) (by k_mem) (by k_mem) (by with_reducible assumption) (by with_reducible assumption) (by with_reducible assumption) (by ke_room) ?_) | ((with_reducible show wpAny _ _ (newList _) _ _ _); refine newList_K (by k_asm) (by k_asm) ?_; intro lq9 hq9 Fq9 Nq9 l1q9; (have l2 := under_of l1q9); (try k_lt l1q9); (try k_sweep)) | fail); k_steps)
                        refine Hold.out ?_
                        rename Stage 13 => zc9
                        clear zc9
                        have st9 : Stage 14 := ⟨⟩
                        have st8 : Stage 114 := ⟨⟩
                        rename StopAt "call ref" => zc6
                        clear zc6
                        rename StopAt "compareOp NotEq ref ref" => zc6
                        clear zc6
                        rename StopAt "newList" => zc6
                        clear zc6
                        have st6 : StopAt "call builtin:sorted" := ⟨⟩
                        have st6 : StopAt "exec While Compare cons nil" := ⟨⟩
                        have st7 : Stage 202 := ⟨⟩
                        repeat (rename (@LT.lt Nat _ _ _) ∧ _ => x1; clear x1)
                        repeat (rename LCg.Off1 _ _ => x1; clear x1)
                        clear hs hub hl5 hl10 hg1 hg2 hmg hok hdv hTo hperm hsrt hUd hUb hD9 hsv hRow2 hvo hlo
                        refine wpAny_execs_cons ?_
                        k_steps
                        repeat' ((with_reducible refine Hold.out ?_); (first | ((with_reducible show wpAny _ _ (call (Value.builtin "sorted") _) _ _ _); refine sorted_two (by k_asm) (by k_asm) (by k_mem) ?_; intro Dq9 hq9 tq9 uq9 eq9 Fq9 Nq9) | fail); k_steps)
                        refine Hold.out ?_
                        refine wpAny_execs_cons ?_
                        k_steps
                        repeat' ((with_reducible refine Hold.out ?_); (first | ((with_reducible show wpAny _ _ (call (Value.builtin "sorted") _) _ _ _); refine sorted_two (by k_asm) (by k_asm) (by k_mem) ?_; intro Dq9 hq9 tq9 uq9 eq9 Fq9 Nq9) | fail); k_steps)
                        refine Hold.out ?_
                        refine wpAny_execs_cons ?_
                        k_steps
                        repeat' ((with_reducible refine Hold.out ?_); (first | ((with_reducible show wpAny _ _ (call (Value.builtin "sorted") _) _ _ _); refine sorted_two (by k_asm) (by k_asm) (by k_mem) ?_; intro Dq9 hq9 tq9 uq9 eq9 Fq9 Nq9) | fail); k_steps)
                        refine Hold.out ?_
                        rename Fr _ _ _ _ => F1
                        rename News _ _ _ _ => N1
                        have hm4 : ma < 5 := by lia
                        have hm9 : mb < 10 := by lia
                        rw [hl1.1, hl2.1, hrl, Nat.sub_zero, bnd_two ma hm4 mb hm9 (by lia) (by lia)] at hbv
                        rw [hpl, hol] at F1
                        have hfe : min ma mb = min ma mb := rfl
                        have hme : max ma mb = max ma mb := rfl
                        generalize hfw : min ma mb = few at *
                        generalize hmn : max ma mb = many at *
                        have hf1 : 1 ≤ few := by lia
                        have hf2 : few ≤ many := by lia
                        have hf9 : many ≤ 9 := by lia
                        replace N1 := news_sub N1 (fun p hp => .tail _ (.tail _ hp))
                        rename Stage 14 => zc9
                        clear zc9
                        have st9 : Stage 15 := ⟨⟩
                        have st8 : Stage 115 := ⟨⟩
                        have st6 : StopAt "execs nil" := ⟨⟩
                        refine times_loop few many hf1 hf2 hf9 F1 N1 rfl ?_
                        intro c tc h tk hc hc3 F2 N2
                        have hcF : Fits few c many := hc
                        have hbF : bv.length ≤ few * (1 + hvN few many) + many / 2 ^ hvN few many - 1 := hbv
                        have hbW : Few bv.length few many (hvN few many) := hbF
                        clear hc hbv hbF
                        clear F1 N1 hfe hme
                        k_steps
                        repeat' ((with_reducible refine Hold.out ?_); (first | ((with_reducible show wpAny _ _ (call (Value.builtin "sorted") _) _ _ _); refine sorted_two (by k_asm) (by k_asm) (by k_mem) ?_; intro Dq9 hq9 tq9 uq9 eq9 Fq9 Nq9) | fail); k_steps)
                        · refine Hold.out ?_
                          refine wpAny_execs_cons ?_
                          k_steps
                          repeat' ((with_reducible refine Hold.out ?_); (first | ((with_reducible show wpAny _ _ (call (Value.builtin "sorted") _) _ _ _); refine sorted_two (by k_asm) (by k_asm) (by k_mem) ?_; intro Dq9 hq9 tq9 uq9 eq9 Fq9 Nq9) | fail); k_steps)
                          refine Hold.out ?_
                          rename (few : Int) * _ ≤ _ => hle
                          rename Fr _ _ _ _ => F3
                          rename News _ _ _ _ => N3
                          exact wpAny_execs_nil ⟨rfl, pow_up.mp hle, _, _, _, _, rfl, F3, N3, rfl, fun z hz => by simp only [if_neg hz]⟩
                        · refine Hold.out ?_
                          (try dsimp only)
                          rename ¬ _ ≤ _ => hex
                          rw [pow_up] at hex
                          have hcc : hvN few many = c := hv_is (by lia) (by lia) (by lia) hf1 hcF (Nat.lt_of_not_le hex)
                          rw [hcc] at hbW
                          clear hcc hex hcF
                          rename Stage 15 => zc9
                          clear zc9
                          have st9 : Stage 16 := ⟨⟩
                          rename StopAt "execs nil" => zc6
                          clear zc6
                          have st6 : StopAt "compareOp Gt int int" := ⟨⟩
                          have st6 : StopAt "exec For Name Tuple cons nil" := ⟨⟩
                          have hbs : bv.length ≤ 100 := Nat.le_trans hbW (bound_small hf2 hf9 hc3)
                          refine wpAny_execs_cons ?_
                          k_steps
                          repeat' ((with_reducible refine Hold.out ?_); (first | ((with_reducible show wpAny _ _ (compareOp _ _ _) _ _ _); with_reducible_and_instances refine gt_bound (by with_reducible assumption) (by with_reducible assumption) ?_) | ((with_reducible show wpAny _ _ (call (Value.builtin "sorted") _) _ _ _); refine sorted_two (by k_asm) (by k_asm) (by k_mem) ?_; intro Dq9 hq9 tq9 uq9 eq9 Fq9 Nq9) | fail); k_steps)
                          refine Hold.out ?_
                          clear hbs hbW
                          refine wpAny_execs_cons ?_
                          k_steps
                          repeat' ((with_reducible refine Hold.out ?_); (first | ((with_reducible show wpAny _ _ (compareOp _ _ _) _ _ _); with_reducible_and_instances refine gt_bound (by with_reducible assumption) (by with_reducible assumption) ?_) | ((with_reducible show wpAny _ _ (call (Value.builtin "sorted") _) _ _ _); refine sorted_two (by k_asm) (by k_asm) (by k_mem) ?_; intro Dq9 hq9 tq9 uq9 eq9 Fq9 Nq9) | fail); k_steps)
                          refine Hold.out ?_
                          rename Stage 16 => zc9
                          clear zc9
                          have st9 : Stage 17 := ⟨⟩
                          have st8 : Stage 117 := ⟨⟩
                          have st6 : StopAt "call ref" := ⟨⟩
                          rename StopAt "compareOp Gt int int" => zc6
                          clear zc6
                          rename StopAt "exec For Name Tuple cons nil" => zc6
                          clear zc6
                          have st6 : StopAt "compareOp NotEq str str" := ⟨⟩
                          rename Fr _ _ _ _ => F1
                          k_dflt (refine' For_turns F1 ?_)
                          k_steps
                          repeat' ((with_reducible refine Hold.out ?_); (first | ((with_reducible show wpAny _ _ (call (Value.ref 101) _ _) _ _ _); refine Claim.use1 ⟨by k_asm, by k_asm, by k_asm, by k_asm, by k_asm, by first | exact rfl | assumption, by first | exact room1 (by with_reducible assumption) (by decide) | ktr_room, by first | exact units1 (by with_reducible assumption) (by decide) | ktr_units⟩ (parse257_ok _ _ _ ((nat_q (by lia)).len) ((nat_q (by lia)).s3) ((nat_q (by lia)).s5) ((nat_q (by lia)).five) _) ?_; intro tq9 hq9 tkq9 Fq9 Nq9; (try dsimp only)) | ((with_reducible show wpAny _ _ (call (Value.builtin "sorted") _) _ _ _); refine sorted_two (by k_asm) (by k_asm) (by k_mem) ?_; intro Dq9 hq9 tq9 uq9 eq9 Fq9 Nq9) | fail); k_steps)
                          rename Fr _ _ _ _ => F2
                          rename News _ _ _ _ => N2
                          refine iter_tupTurns (vs := [_, _]) rfl F2 N2 (.head _) rfl rfl (fun I hIlt => ?_)
                          refine val_ind (OneJ "n" _ _) SmallN ?turn0_17 ?fin0_17 _ ?all0_17 _ _ ⟨rfl, fun _ _ => rfl⟩
                          case all0_17 => exact List.forall_mem_cons.mpr ⟨⟨few, _, rfl, by lia⟩, List.forall_mem_cons.mpr ⟨⟨many, _, rfl, by lia⟩, fun _ h => nomatch h⟩⟩
                          case turn0_17 =>
                            rintro v r m news ⟨k, tk1, rfl, hk9⟩ ⟨rfl, hr⟩ rest
                            refine ItemsRest.val (fun h tk F3 => ?_)
                            ktu_objs
                            have hml := mul_lens k (by lia)
                            clear F2 N2
                            k_steps
                            repeat' ((with_reducible refine Hold.out ?_); (first | ((with_reducible show wpAny _ _ (call (Value.ref 101) _ _) _ _ _); refine Claim.use1 ⟨by k_asm, by k_asm, by k_asm, by k_asm, by k_asm, by first | exact rfl | assumption, by first | exact room1 (by with_reducible assumption) (by decide) | ktr_room, by first | exact units1 (by with_reducible assumption) (by decide) | ktr_units⟩ (parse257_ok _ _ _ ((nat_q (by lia)).len) ((nat_q (by lia)).s3) ((nat_q (by lia)).s5) ((nat_q (by lia)).five) _) ?_; intro tq9 hq9 tkq9 Fq9 Nq9; (try dsimp only)) | ((with_reducible show wpAny _ _ (call (Value.builtin "sorted") _) _ _ _); refine sorted_two (by k_asm) (by k_asm) (by k_mem) ?_; intro Dq9 hq9 tq9 uq9 eq9 Fq9 Nq9) | fail); k_steps)
                            refine Hold.out ?_
                            refine wpAny_execs_cons ?_
                            k_steps
                            repeat' ((with_reducible refine Hold.out ?_); (first | ((with_reducible show wpAny _ _ (call (Value.ref 101) _ _) _ _ _); refine Claim.use1 ⟨by k_asm, by k_asm, by k_asm, by k_asm, by k_asm, by first | exact rfl | assumption, by first | exact room1 (by with_reducible assumption) (by decide) | ktr_room, by first | exact units1 (by with_reducible assumption) (by decide) | ktr_units⟩ (parse257_ok _ _ _ ((nat_q (by lia)).len) ((nat_q (by lia)).s3) ((nat_q (by lia)).s5) ((nat_q (by lia)).five) _) ?_; intro tq9 hq9 tkq9 Fq9 Nq9; (try dsimp only)) | ((with_reducible show wpAny _ _ (call (Value.builtin "sorted") _) _ _ _); refine sorted_two (by k_asm) (by k_asm) (by k_mem) ?_; intro Dq9 hq9 tq9 uq9 eq9 Fq9 Nq9) | fail); k_steps)
                            refine Hold.out ?_
                            refine ne_same (nat_q hk9).txt ?_
                            k_steps
                            repeat' ((with_reducible refine Hold.out ?_); (first | ((with_reducible show wpAny _ _ (call (Value.ref 101) _ _) _ _ _); refine Claim.use1 ⟨by k_asm, by k_asm, by k_asm, by k_asm, by k_asm, by first | exact rfl | assumption, by first | exact room1 (by with_reducible assumption) (by decide) | ktr_room, by first | exact units1 (by with_reducible assumption) (by decide) | ktr_units⟩ (parse257_ok _ _ _ ((nat_q (by lia)).len) ((nat_q (by lia)).s3) ((nat_q (by lia)).s5) ((nat_q (by lia)).five) _) ?_; intro tq9 hq9 tkq9 Fq9 Nq9; (try dsimp only)) | ((with_reducible show wpAny _ _ (call (Value.builtin "sorted") _) _ _ _); refine sorted_two (by k_asm) (by k_asm) (by k_mem) ?_; intro Dq9 hq9 tq9 uq9 eq9 Fq9 Nq9) | fail); k_steps)
                            rename Fr _ _ _ _ => F4
                            rename News _ _ _ _ => N4
                            exact one_end F4 N4 (fun p hp => hp) hIlt (List.forall_mem_cons.mpr ⟨Nat.le_refl _, fun _ h => nomatch h⟩) (by k_subL) (fun z h1 => by
                              simp only [if_neg h1]
                              exact hr z h1) rest
                          case fin0_17 =>
                            rintro m6 news ⟨rfl, hr6⟩
                            refine ItemsRest.zero (fun h8 tk8 F8 N8 => ?_)
                            clear F2 N2 hIlt
                            replace N8 := news_sub N8 (fun p hp => .tail _ hp)
                            dsimp only [envOfC] at F8 N8
                            dsimp only
                            rename Stage 17 => zc9
                            clear zc9
                            have st9 : Stage 18 := ⟨⟩
                            rename StopAt "call ref" => zc6
                            clear zc6
                            rename StopAt "compareOp NotEq str str" => zc6
                            clear zc6
                            have st7 : Stage 203 := ⟨⟩
                            have hfl := num_len (p := portsOf ns 2 S 0) (portsOf_lo (by assumption)) (portsOf_hi (by assumption) (by assumption))
                            have hpo1 := portsOf_lo (ns := ns) (b := 2) (i := 0) (S := S) (by assumption)
                            have hpo2 := portsOf_hi (ns := ns) (b := 2) (i := 0) (S := S) (by assumption) (by assumption)
                            refine wpAny_execs_cons ?_
                            k_steps
                            repeat' ((with_reducible refine Hold.out ?_); (first | ((with_reducible show wpAny _ _ (subscriptTail _ _ (Value.ref _) (Value.int 0 _)) _ _ _); refine item_pair0 (by k_asm) (by k_mem) (by with_reducible assumption) (by assumption) (by lia) (by lia) ?_; intro aq9 tnq9 tpq9 hmq9) | ((with_reducible show wpAny _ _ (call (Value.builtin "sorted") _) _ _ _); refine sorted_two (by k_asm) (by k_asm) (by k_mem) ?_; intro Dq9 hq9 tq9 uq9 eq9 Fq9 Nq9) | fail); k_steps)
                            refine Hold.out ?_
                            rename News _ _ _ _ => N1
                            replace N1 := news_sub N1 (fun p hp => .tail _ hp)
                            rename Fr _ _ _ _ => F1
                            have hmk := (by assumption : (Txt.item (Str.ofString "|!:#") ((ns.getD (Int.toNat 16) 0).fmod 4)).length = 1)
                            (try dsimp only at F1)
                            refine wpAny_execs_cons ?_
                            k_steps
                            repeat' ((with_reducible refine Hold.out ?_); (first | ((with_reducible show wpAny _ _ (subscriptTail _ _ (Value.ref _) (Value.int 0 _)) _ _ _); refine item_pair0 (by k_asm) (by k_mem) (by with_reducible assumption) (by assumption) (by lia) (by lia) ?_; intro aq9 tnq9 tpq9 hmq9) | ((with_reducible show wpAny _ _ (call (Value.builtin "sorted") _) _ _ _); refine sorted_two (by k_asm) (by k_asm) (by k_mem) ?_; intro Dq9 hq9 tq9 uq9 eq9 Fq9 Nq9) | fail); k_steps)
                            refine Hold.out ?_
                            rename Stage 18 => zc9
                            clear zc9
                            have st9 : Stage 19 := ⟨⟩
                            have st6 : StopAt "binaryOp Add ref ref" := ⟨⟩
                            have st7 : Stage 204 := ⟨⟩
                            have hrl200 := (good_reps (c := "a") (ns := ns) (b := 2) (j := 0) (S := S) (.inl rfl) (by lia) (by assumption) (by assumption)).len
                            refine wpAny_execs_cons ?_
                            k_steps
                            repeat' ((with_reducible refine Hold.out ?_); (first | ((with_reducible show wpAny _ _ (subscriptTail _ _ (Value.ref _) (Value.int 0 _)) _ _ _); refine item_rep0 (by k_asm) (by k_mem) (by with_reducible assumption) (by lia) (by lia) ?_; intro tq9) | ((unfold LCg.FinE); intro Dq9 hq9 tkq9 Fq9 Nq9 oq9; (try simp only [List.nil_append, List.cons_append] at oq9); (try simp only [List.nil_append, List.cons_append] at Nq9); (try dsimp only)) | ((with_reducible show wpAny _ _ (eval (Expr.ListComp _ [⟨Expr.Name _ _, Expr.Tuple _ _ _, [], _⟩] _ _) _) _ _ _); refine comp_tup (by k_asm) (by rfl) (by decide) (by rfl) (by decide) (by rfl) ?_) | ((with_reducible show wpAny _ _ (call (Value.builtin "sorted") _) _ _ _); refine sorted_two (by k_asm) (by k_asm) (by k_mem) ?_; intro Dq9 hq9 tq9 uq9 eq9 Fq9 Nq9) | fail); k_steps)
                            refine Hold.out ?_
                            rename Fr _ _ _ _ => F1
                            rename News _ _ _ _ => N1
                            refine ⟨_, [_, _, _], _, rfl, rfl, F1, N1, .head _, (by show 3 ≤ 1000; decide), ?_⟩
                            rintro s2 ⟨g, rfl⟩
                            refine compRest_ind (TxtInv (fun j => codeOf j ++ Txt.slice (repsOf "a" ns 2 S 0) (some 3) none) _) ?step0_19 ?fin0_19 3 0 [] _ (Nat.zero_add _) (TxtInv.start (fun j => codeOf j ++ Txt.slice (repsOf "a" ns 2 S 0) (some 3) none) N1)
                            case step0_19 =>
                              intro i ys news hi hI0
                              apply open_c hI0
                              intro hT
                              intro v I oI C oC D m₂ h tk E' hv hC hx F2 N2 off2 ne2
                              obtain ⟨tv, rfl⟩ := codes_at hv
                              have hcl := code_len i
                              clear F1 N1 ne2
                              k_steps
                              repeat' ((with_reducible refine Hold.out ?_); (first | ((with_reducible show wpAny _ _ (subscriptTail _ _ (Value.ref _) (Value.int 0 _)) _ _ _); refine item_rep0 (by k_asm) (by k_mem) (by with_reducible assumption) (by lia) (by lia) ?_; intro tq9) | ((unfold LCg.FinE); intro Dq9 hq9 tkq9 Fq9 Nq9 oq9; (try simp only [List.nil_append, List.cons_append] at oq9); (try simp only [List.nil_append, List.cons_append] at Nq9); (try dsimp only)) | ((with_reducible show wpAny _ _ (eval (Expr.ListComp _ [⟨Expr.Name _ _, Expr.Tuple _ _ _, [], _⟩] _ _) _) _ _ _); refine comp_tup (by k_asm) (by rfl) (by decide) (by rfl) (by decide) (by rfl) ?_) | ((with_reducible show wpAny _ _ (call (Value.builtin "sorted") _) _ _ _); refine sorted_two (by k_asm) (by k_asm) (by k_mem) ?_; intro Dq9 hq9 tq9 uq9 eq9 Fq9 Nq9) | fail); k_steps)
                              refine Hold.out ?_
                              rename Fr _ _ _ _ => F3
                              rename News _ _ _ _ => N3
                              exact txt_endS F3 N3 off2 (.head _) hT rfl
                            case fin0_19 =>
                              intro ys1 news hI0
                              have tr0 := True.intro
                              revert tr0
                              apply open_c hI0
                              intro hy1 _
                              have hy1l := hy1.1
                              clear F1 N1
                              k_steps
                              repeat' ((with_reducible refine Hold.out ?_); (first | ((with_reducible show wpAny _ _ (subscriptTail _ _ (Value.ref _) (Value.int 0 _)) _ _ _); refine item_rep0 (by k_asm) (by k_mem) (by with_reducible assumption) (by lia) (by lia) ?_; intro tq9) | ((unfold LCg.FinE); intro Dq9 hq9 tkq9 Fq9 Nq9 oq9; (try simp only [List.nil_append, List.cons_append] at oq9); (try simp only [List.nil_append, List.cons_append] at Nq9); (try dsimp only)) | ((with_reducible show wpAny _ _ (eval (Expr.ListComp _ [⟨Expr.Name _ _, Expr.Tuple _ _ _, [], _⟩] _ _) _) _ _ _); refine comp_tup (by k_asm) (by rfl) (by decide) (by rfl) (by decide) (by rfl) ?_) | ((with_reducible show wpAny _ _ (call (Value.builtin "sorted") _) _ _ _); refine sorted_two (by k_asm) (by k_asm) (by k_mem) ?_; intro Dq9 hq9 tq9 uq9 eq9 Fq9 Nq9) | fail); k_steps)
                              rename Stage 19 => zc9
                              clear zc9
                              have st9 : Stage 20 := ⟨⟩
                              have st7 : Stage 205 := ⟨⟩
                              refine Hold.out ?_
                              k_steps
                              repeat' ((with_reducible refine Hold.out ?_); (first | ((with_reducible show wpAny _ _ (eval (Expr.ListComp _ [⟨Expr.Name _ _, Expr.Name _ _, [], _⟩] _ _) _) _ _ _); refine LCg.ListComp_U (by k_asm) (by rfl) (by decide) (by rfl) (by decide) (by rfl) ?_) | ((with_reducible show wpAny _ _ (binaryOp _ _ _) _ _ _); refine add_L (by k_asm) (by k_asm) (by k_mem) (by k_mem) (by (first | lia | (simp; lia))) (by (first | lia | (simp; done) | (simp; lia))) ?_; intro Dq9 hq9 Fq9 Nq9 l1q9; (try k_lt l1q9)) | ((with_reducible show wpAny _ _ (subscriptTail _ _ (Value.ref _) (Value.int 0 _)) _ _ _); refine item_rep0 (by k_asm) (by k_mem) (by with_reducible assumption) (by lia) (by lia) ?_; intro tq9) | ((unfold LCg.FinE); intro Dq9 hq9 tkq9 Fq9 Nq9 oq9; (try simp only [List.nil_append, List.cons_append] at oq9); (try simp only [List.nil_append, List.cons_append] at Nq9); (try dsimp only)) | ((with_reducible show wpAny _ _ (eval (Expr.ListComp _ [⟨Expr.Name _ _, Expr.Tuple _ _ _, [], _⟩] _ _) _) _ _ _); refine comp_tup (by k_asm) (by rfl) (by decide) (by rfl) (by decide) (by rfl) ?_) | ((with_reducible show wpAny _ _ (call (Value.builtin "sorted") _) _ _ _); refine sorted_two (by k_asm) (by k_asm) (by k_mem) ?_; intro Dq9 hq9 tq9 uq9 eq9 Fq9 Nq9) | fail); k_steps)
                              refine Hold.out ?_
                              rename Fr _ _ _ _ => F1
                              rename News _ _ _ _ => N1
                              refine LCg.CompSrc.ledger rfl F1 N1 (.tail _ (.tail _ (.tail _ (.tail _ (.head _))))) (size_ok (by show 4 ≤ 1000; decide)) (fun g => ?_)
                              refine compRest_ind (TxtInv (fun j => Str.ofString "229 (" ++ endOf (Txt.item (Str.ofString "|!:#") ((ns.getD (Int.toNat 16) 0).fmod 4)) (Str.ofString (toString (portsOf ns 2 S 0))) j) _) ?step0_20 ?fin0_20 4 0 [] _ (Nat.zero_add _) (TxtInv.start (fun j => Str.ofString "229 (" ++ endOf (Txt.item (Str.ofString "|!:#") ((ns.getD (Int.toNat 16) 0).fmod 4)) (Str.ofString (toString (portsOf ns 2 S 0))) j) N1)
                              case step0_20 =>
                                intro i ys news hi hI0
                                apply open_c hI0
                                intro hT
                                intro v I oI C oC D m₂ h tk E' hv hC hx F2 N2 off2 ne2
                                obtain ⟨tv, rfl⟩ := ends_at hv
                                have hel := end_len (j := i) hmk hfl
                                clear F1 N1 ne2
                                k_steps
                                repeat' ((with_reducible refine Hold.out ?_); (first | ((with_reducible show wpAny _ _ (eval (Expr.ListComp _ [⟨Expr.Name _ _, Expr.Name _ _, [], _⟩] _ _) _) _ _ _); refine LCg.ListComp_U (by k_asm) (by rfl) (by decide) (by rfl) (by decide) (by rfl) ?_) | ((with_reducible show wpAny _ _ (binaryOp _ _ _) _ _ _); refine add_L (by k_asm) (by k_asm) (by k_mem) (by k_mem) (by (first | lia | (simp; lia))) (by (first | lia | (simp; done) | (simp; lia))) ?_; intro Dq9 hq9 Fq9 Nq9 l1q9; (try k_lt l1q9)) | ((with_reducible show wpAny _ _ (subscriptTail _ _ (Value.ref _) (Value.int 0 _)) _ _ _); refine item_rep0 (by k_asm) (by k_mem) (by with_reducible assumption) (by lia) (by lia) ?_; intro tq9) | ((unfold LCg.FinE); intro Dq9 hq9 tkq9 Fq9 Nq9 oq9; (try simp only [List.nil_append, List.cons_append] at oq9); (try simp only [List.nil_append, List.cons_append] at Nq9); (try dsimp only)) | ((with_reducible show wpAny _ _ (eval (Expr.ListComp _ [⟨Expr.Name _ _, Expr.Tuple _ _ _, [], _⟩] _ _) _) _ _ _); refine comp_tup (by k_asm) (by rfl) (by decide) (by rfl) (by decide) (by rfl) ?_) | ((with_reducible show wpAny _ _ (call (Value.builtin "sorted") _) _ _ _); refine sorted_two (by k_asm) (by k_asm) (by k_mem) ?_; intro Dq9 hq9 tq9 uq9 eq9 Fq9 Nq9) | fail); k_steps)
                                refine Hold.out ?_
                                rename Fr _ _ _ _ => F3
                                rename News _ _ _ _ => N3
                                exact txt_endS F3 N3 off2 (.inr ⟨_, .tail _ (.tail _ (.tail _ (.tail _ (.head _)))), rfl, _, rfl⟩) hT rfl
                              case fin0_20 =>
                                intro ys2 news hI0
                                have tr0 := True.intro
                                revert tr0
                                apply open_c hI0
                                intro hy2 _
                                have hy2l := hy2.1
                                clear F1 N1
                                k_steps
                                repeat' ((with_reducible refine Hold.out ?_); (first | ((with_reducible show wpAny _ _ (eval (Expr.ListComp _ [⟨Expr.Name _ _, Expr.Name _ _, [], _⟩] _ _) _) _ _ _); refine LCg.ListComp_U (by k_asm) (by rfl) (by decide) (by rfl) (by decide) (by rfl) ?_) | ((with_reducible show wpAny _ _ (binaryOp _ _ _) _ _ _); refine add_L (by k_asm) (by k_asm) (by k_mem) (by k_mem) (by (first | lia | (simp; lia))) (by (first | lia | (simp; done) | (simp; lia))) ?_; intro Dq9 hq9 Fq9 Nq9 l1q9; (try k_lt l1q9)) | ((with_reducible show wpAny _ _ (subscriptTail _ _ (Value.ref _) (Value.int 0 _)) _ _ _); refine item_rep0 (by k_asm) (by k_mem) (by with_reducible assumption) (by lia) (by lia) ?_; intro tq9) | ((unfold LCg.FinE); intro Dq9 hq9 tkq9 Fq9 Nq9 oq9; (try simp only [List.nil_append, List.cons_append] at oq9); (try simp only [List.nil_append, List.cons_append] at Nq9); (try dsimp only)) | ((with_reducible show wpAny _ _ (eval (Expr.ListComp _ [⟨Expr.Name _ _, Expr.Tuple _ _ _, [], _⟩] _ _) _) _ _ _); refine comp_tup (by k_asm) (by rfl) (by decide) (by rfl) (by decide) (by rfl) ?_) | ((with_reducible show wpAny _ _ (call (Value.builtin "sorted") _) _ _ _); refine sorted_two (by k_asm) (by k_asm) (by k_mem) ?_; intro Dq9 hq9 tq9 uq9 eq9 Fq9 Nq9) | fail); k_steps)
                                refine Hold.out ?_
                                rename Stage 20 => zc9
                                clear zc9
                                have st9 : Stage 21 := ⟨⟩
                                have st6 : StopAt "call ref" := ⟨⟩
                                rename StopAt "binaryOp Add ref ref" => zc6
                                clear zc6
                                have st6 : StopAt "compareOp Eq ref ref" := ⟨⟩
                                have hsp := fun t => spo_are (t := t) hy1 hy2
                                refine wpAny_execs_cons ?_
                                k_steps
                                repeat' ((with_reducible refine Hold.out ?_); (first | ((with_reducible show wpAny _ _ (eval (Expr.ListComp _ [⟨Expr.Name _ _, Expr.Name _ _, [], _⟩] _ _) _) _ _ _); refine LCg.ListComp_U (by k_asm) (by rfl) (by decide) (by rfl) (by decide) (by rfl) ?_) | ((with_reducible show wpAny _ _ (subscriptTail _ _ (Value.ref _) (Value.int 0 _)) _ _ _); refine item_rep0 (by k_asm) (by k_mem) (by with_reducible assumption) (by lia) (by lia) ?_; intro tq9) | ((unfold LCg.FinE); intro Dq9 hq9 tkq9 Fq9 Nq9 oq9; (try simp only [List.nil_append, List.cons_append] at oq9); (try simp only [List.nil_append, List.cons_append] at Nq9); (try dsimp only)) | ((with_reducible show wpAny _ _ (eval (Expr.ListComp _ [⟨Expr.Name _ _, Expr.Tuple _ _ _, [], _⟩] _ _) _) _ _ _); refine comp_tup (by k_asm) (by rfl) (by decide) (by rfl) (by decide) (by rfl) ?_) | ((with_reducible show wpAny _ _ (call (Value.builtin "sorted") _) _ _ _); refine sorted_two (by k_asm) (by k_asm) (by k_mem) ?_; intro Dq9 hq9 tq9 uq9 eq9 Fq9 Nq9) | fail); k_steps)
                                refine Hold.out ?_
                                rename Fr _ _ _ _ => F1
                                rename News _ _ _ _ => N1
                                refine LCg.CompSrc.ledger rfl F1 N1 (.head _) (by rw [List.size_toArray, (hsp _).1, sizeLine_eq]; decide) (fun g => ?_)
                                refine compRest_ind (IntInv _) ?step0_21 ?fin0_21 _ 0 [] _ (Nat.zero_add _) (IntInv.start N1)
                                case step0_21 =>
                                  intro i ys news _ hI0
                                  apply open_c hI0
                                  intro hP0
                                  have hyl := hP0.1
                                  have hI9 := hP0.2
                                  intro v I oI C oC D m₂ h tk E' hv hC hx F2 N2 off2 ne2
                                  obtain ⟨hi8, tv, rfl⟩ := txts_get (hsp _) hv
                                  clear F1 N1 ne2
                                  k_steps
                                  repeat' ((with_reducible refine Hold.out ?_); (first | ((with_reducible show wpAny _ _ (eval (Expr.ListComp _ [⟨Expr.Name _ _, Expr.Name _ _, [], _⟩] _ _) _) _ _ _); refine LCg.ListComp_U (by k_asm) (by rfl) (by decide) (by rfl) (by decide) (by rfl) ?_) | ((with_reducible show wpAny _ _ (subscriptTail _ _ (Value.ref _) (Value.int 0 _)) _ _ _); refine item_rep0 (by k_asm) (by k_mem) (by with_reducible assumption) (by lia) (by lia) ?_; intro tq9) | ((unfold LCg.FinE); intro Dq9 hq9 tkq9 Fq9 Nq9 oq9; (try simp only [List.nil_append, List.cons_append] at oq9); (try simp only [List.nil_append, List.cons_append] at Nq9); (try dsimp only)) | ((with_reducible show wpAny _ _ (eval (Expr.ListComp _ [⟨Expr.Name _ _, Expr.Tuple _ _ _, [], _⟩] _ _) _) _ _ _); refine comp_tup (by k_asm) (by rfl) (by decide) (by rfl) (by decide) (by rfl) ?_) | ((with_reducible show wpAny _ _ (call (Value.builtin "sorted") _) _ _ _); refine sorted_two (by k_asm) (by k_asm) (by k_mem) ?_; intro Dq9 hq9 tq9 uq9 eq9 Fq9 Nq9) | fail); k_steps)
                                  refine Hold.out ?_
                                  by_cases hi3 : i < 3
                                  · k_dflt (refine' Claim0.use (refA_ok _ _ _ (spo_one _ (by assumption) (by assumption) hi3) _) ?kB_21 ?kF_21 ?kX_21 ?kN_21 ?kT_21 ?kK_21 ?kR_21 ?kU_21 ?_)
                                    case kB_21 => k_asm
                                    case kF_21 => k_asm
                                    case kX_21 => k_asm
                                    case kN_21 => k_asm
                                    case kT_21 => k_asm
                                    case kK_21 => first | exact rfl | assumption
                                    case kR_21 => ktr_room
                                    case kU_21 => ktr_units
                                    k_whole
                                    intro v' ex' h' tk' hI0
                                    apply open_vw hI0
                                    intro t' F3 N3
                                    exact int_endS F3 N3 off2 (.inr ⟨_, .head _, rfl, _, rfl⟩) hyl hI9 (by rw [if_pos hi3])
                                  · k_dflt (refine' Claim0.use (refB_ok _ _ _ (spo_two _ (by assumption) (by assumption) hi3 hi8) _) ?kB_21 ?kF_21 ?kX_21 ?kN_21 ?kT_21 ?kK_21 ?kR_21 ?kU_21 ?_)
                                    case kB_21 => k_asm
                                    case kF_21 => k_asm
                                    case kX_21 => k_asm
                                    case kN_21 => k_asm
                                    case kT_21 => k_asm
                                    case kK_21 => first | exact rfl | assumption
                                    case kR_21 => ktr_room
                                    case kU_21 => ktr_units
                                    k_whole
                                    intro v' ex' h' tk' hI0
                                    apply open_vw hI0
                                    intro t' F3 N3
                                    exact int_endS F3 N3 off2 (.inr ⟨_, .head _, rfl, _, rfl⟩) hyl hI9 (by rw [if_neg hi3])
                                case fin0_21 =>
                                  intro ys9 news hI0
                                  have tr0 := True.intro
                                  revert tr0
                                  apply open_c hI0
                                  intro hP0 _
                                  have hyl := hP0.1
                                  have hI9 := hP0.2
                                  rw [List.size_toArray, (hsp _).1] at hyl hI9
                                  clear F1 N1
                                  k_steps
                                  repeat' ((with_reducible refine Hold.out ?_); (first | ((with_reducible show wpAny _ _ (eval (Expr.ListComp _ [⟨Expr.Name _ _, Expr.Name _ _, [], _⟩] _ _) _) _ _ _); refine LCg.ListComp_U (by k_asm) (by rfl) (by decide) (by rfl) (by decide) (by rfl) ?_) | ((with_reducible show wpAny _ _ (subscriptTail _ _ (Value.ref _) (Value.int 0 _)) _ _ _); refine item_rep0 (by k_asm) (by k_mem) (by with_reducible assumption) (by lia) (by lia) ?_; intro tq9) | ((unfold LCg.FinE); intro Dq9 hq9 tkq9 Fq9 Nq9 oq9; (try simp only [List.nil_append, List.cons_append] at oq9); (try simp only [List.nil_append, List.cons_append] at Nq9); (try dsimp only)) | ((with_reducible show wpAny _ _ (eval (Expr.ListComp _ [⟨Expr.Name _ _, Expr.Tuple _ _ _, [], _⟩] _ _) _) _ _ _); refine comp_tup (by k_asm) (by rfl) (by decide) (by rfl) (by decide) (by rfl) ?_) | ((with_reducible show wpAny _ _ (call (Value.builtin "sorted") _) _ _ _); refine sorted_two (by k_asm) (by k_asm) (by k_mem) ?_; intro Dq9 hq9 tq9 uq9 eq9 Fq9 Nq9) | fail); k_steps)
                                  refine Hold.out ?_
                                  rename Fr _ _ _ _ => F2
                                  rename News _ _ _ _ => N2
                                  k_dflt (refine' ke_eq_ints (isList_of N2 (.tail _ (.head _))) (isList_of N2 (.head _)) hI9 (ms := [1, 1, 1, 2, 2, 2, 2, 2]) ?j_21 ?u_21 ?_)
                                  case j_21 => repeat (first | exact .nil | refine .cons _ _ ?_)
                                  case u_21 => ke_room
                                  rw [show decide (oneTwo 8 = [1, 1, 1, 2, 2, 2, 2, 2]) = true by decide]
                                  k_steps
                                  repeat' ((with_reducible refine Hold.out ?_); (first | ((with_reducible show wpAny _ _ (eval (Expr.ListComp _ [⟨Expr.Name _ _, Expr.Name _ _, [], _⟩] _ _) _) _ _ _); refine LCg.ListComp_U (by k_asm) (by rfl) (by decide) (by rfl) (by decide) (by rfl) ?_) | ((with_reducible show wpAny _ _ (subscriptTail _ _ (Value.ref _) (Value.int 0 _)) _ _ _); refine item_rep0 (by k_asm) (by k_mem) (by with_reducible assumption) (by lia) (by lia) ?_; intro tq9) | ((unfold LCg.FinE); intro Dq9 hq9 tkq9 Fq9 Nq9 oq9; (try simp only [List.nil_append, List.cons_append] at oq9); (try simp only [List.nil_append, List.cons_append] at Nq9); (try dsimp only)) | ((with_reducible show wpAny _ _ (eval (Expr.ListComp _ [⟨Expr.Name _ _, Expr.Tuple _ _ _, [], _⟩] _ _) _) _ _ _); refine comp_tup (by k_asm) (by rfl) (by decide) (by rfl) (by decide) (by rfl) ?_) | ((with_reducible show wpAny _ _ (call (Value.builtin "sorted") _) _ _ _); refine sorted_two (by k_asm) (by k_asm) (by k_mem) ?_; intro Dq9 hq9 tq9 uq9 eq9 Fq9 Nq9) | fail); k_steps)
                                  all_goals (subst hG hG2 hh0 hL0 hgn hdr hos; k_steps)
end Mine
theorem PySem.Challenge.cw_wu0062_01_holds : PySem.Challenge.rw_wu0062_01.Holds := by
  exact Mine.joined
